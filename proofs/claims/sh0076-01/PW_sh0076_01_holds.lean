import PyProof.Rows.All
import Wide.All
import OpenK.AllK
import Wide.FinOn
import Open.Tops
import Lean
import PySem.Challenge.RW_sh0076_01
open PySem PySem.W PySem.Calls PyProof.Rows
set_option Elab.async false
set_option maxRecDepth 100000
set_option maxHeartbeats 0
set_option linter.unusedVariables false
noncomputable section
namespace Mine
open_shared top for PySem.Challenge.pw_sh0076_01 leaving 64
abbrev pw:Program:=PySem.Challenge.pw_sh0076_01
abbrev N:Value:=Value.none
abbrev I (i:Int)(t:Nat):Value:=Value.int i t
abbrev S (s:String):Str:=Str.ofString s
abbrev T (s:Str)(t:Nat):Value:=Value.str s t
abbrev Y (s:String):Value:=Value.type s
abbrev B (s:String):Value:=Value.builtin s
abbrev R (a:Nat):Value:=Value.ref a
abbrev E (P:Params)(x:Str)(t:Nat)(v:Value):DictEntry:=⟨PyData.keyHash P x,.str x t,v⟩
def st (i:Nat):Stmt:=pw.main.body.getD i default
def sub (s:Stmt)(j:Nat):Stmt:=match s with
 | .ClassDef _ _ _ b _ _ _ _ _ _ _=>b.getD j default
 | _=>default
def fn (s:Stmt)(qual:Str)(gl:Addr)(clo:List (Str×Addr))(dV kV doc pm:Value)(an:Option Addr)(cd ct:Value)(bi:Addr):FuncData:=match s with
 | .FunctionDef name params body _ _ _ scope _ _ _=>{name,qualname:=qual,params,body:= .stmts body,scope,globals:=gl,closure:=clo,defaults:=dV,kwdefaults:=kV,doc,pyModule:=pm,annotations:=an,code:=cd,closureTuple:=ct,builtins:=bi}
 | _=>default
abbrev ann:Option Value:=some (Value.ref 6)
abbrev zJJ:List Stmt:=behindTheImports pw
@[reducible] noncomputable def cdE:Code:=Code.body zJJ top.env_1
abbrev fr0:List PySem.Frame:=[topFrame ⟨0,0,0,0⟩]
abbrev sh (t:BT)(n toks:Nat)(os:OsState):SharedT:=⟨t,n,{},⟨[]⟩,{},toks,os⟩
@[reducible] noncomputable def piecesF (l:List Stmt) (p:Pos):Thread:=⟨(Fast.tw12563942051412417395 l top.env_1).wrap doneF deadEnd id id,cdE,p,fr0⟩
theorem zFY {w:World}{n:Nat}{s:SharedT}{l:List Stmt}{p:Pos}{r:Option (Flow×SharedT×Code×Pos)}
  (h:Fast.tw10110043849684766642 Fast.tw14364793385576792824 pw w 28 ann 1 n s (piecesF l p)=r):segRunT treeTable pw w 28 ann 1 n s (piecesOf l top.env_1 cdE p fr0)=r:=by
 rw [Fast.te10110043849684766642,Fast.te14364793385576792824];unfold piecesOf;rw [Fast.te12563942051412417395];exact h
def zTp (b:Bool)(P:Params):Obj:=⟨(Y "dict"),none,(Data.dict (List.toArray [(E P (S "__name__") 165 (T (S "cpy313.stringprep") 615)),(E P (S "__doc__") 166 N),(E P (S "__package__") 167 N),(E P (S "__loader__") 168 (B "__main__.__loader__#opaque")),(E P (S "__spec__") 169 N),(E P (S "__annotations__") 170 (R 6)),(E P (S "__builtins__") 171 (R 4)),(E P (S "__file__") 173 (T (S "/claim/cut.py") 172)),(E P (S "__cached__") 174 N),(E P (S "_sre") 275 (R 12)),(E P (S "_wall") 288 (R 38)),(E P (S "tspecials") 324 (R 43)),(E P (S "_name_disallowed_re") 350 (R 48)),(E P (S "_value_disallowed_re") 384 (R 53)),(E P (S "_formatparam") 394 (R 61)),(E P (S "Headers") 554 (R 184)),(E P (S "_netrclex") 614 (R 226)),(E P (S "b1_set") 676 (R 238))]) 18),#[]⟩
def zAj (b:Bool)(P:Params):Obj:=⟨(Y "list"),none,(Data.seq #[(I 173 617),(I 847 618),(I 6150 619),(I 6155 620),(I 6156 621),(I 6157 622),(I 8203 623),(I 8204 624),(I 8205 625),(I 8288 626),(I 65279 627)] 0),#[]⟩
def zAn (b:Bool)(P:Params):Obj:=⟨(Y "range"),none,(Data.fields #[(I 65024 628),(I 65040 629),(I 1 630)]),#[]⟩
def zAw (b:Bool)(P:Params):Obj:=⟨(Y "list"),none,(Data.seq #[(I 65024 633),(I 65025 634),(I 65026 635),(I 65027 636),(I 65028 637),(I 65029 638),(I 65030 639),(I 65031 640),(I 65032 641),(I 65033 642),(I 65034 643),(I 65035 644),(I 65036 645),(I 65037 646),(I 65038 647),(I 65039 648)] 18),#[]⟩
def zAM (b:Bool)(P:Params):Obj:=⟨(Y "range_iterator"),none,(Data.fields #[(I 65040 0),(I 0 0),(I 1 0)]),#[]⟩
def zAE (b:Bool)(P:Params):Obj:=⟨(Y "tuple"),none,(Data.seq #[] 0),#[]⟩
def zAB (b:Bool)(P:Params):Obj:=⟨(Y "StopIteration"),none,(Data.fields #[(R 235),N,N,N,(Value.bool false),N]),#[]⟩
def zAq (b:Bool)(P:Params):Obj:=⟨(Y "list"),none,(Data.seq #[(I 173 617),(I 847 618),(I 6150 619),(I 6155 620),(I 6156 621),(I 6157 622),(I 8203 623),(I 8204 624),(I 8205 625),(I 8288 626),(I 65279 627),(I 65024 633),(I 65025 634),(I 65026 635),(I 65027 636),(I 65028 637),(I 65029 638),(I 65030 639),(I 65031 640),(I 65032 641),(I 65033 642),(I 65034 643),(I 65035 644),(I 65036 645),(I 65037 646),(I 65038 647),(I 65039 648)] 0),#[]⟩
def xB (b:Bool)(P:Params):Obj:=⟨(Y "set"),none,(Data.set #[(65024,(I 65024 633)),(65025,(I 65025 634)),(65026,(I 65026 635)),(65027,(I 65027 636)),(65028,(I 65028 637)),(65029,(I 65029 638)),(6150,(I 6150 619)),(65030,(I 65030 639)),(65031,(I 65031 640)),(65032,(I 65032 641)),(65033,(I 65033 642)),(6155,(I 6155 620)),(6156,(I 6156 621)),(6157,(I 6157 622)),(8203,(I 8203 623)),(8204,(I 8204 624)),(8205,(I 8205 625)),(65034,(I 65034 643)),(65035,(I 65035 644)),(65036,(I 65036 645)),(65037,(I 65037 646)),(65038,(I 65038 647)),(65039,(I 65039 648)),(173,(I 173 617)),(847,(I 847 618)),(8288,(I 8288 626)),(65279,(I 65279 627))] 29 {mask:=127,place:=#[0,1,2,3,4,5,6,7,8,9,10,11,12,13,14,15,16,17,18,19,20,21,22,45,79,96,127],dummies:=#[],finger:=0,led:=!b,moves:=2,plain:=true}),#[]⟩
def zAH (b:Bool)(P:Params):Obj:=⟨(Y "list_iterator"),none,(Data.fields #[N,(I 27 0)]),#[]⟩
def zAt (b:Bool)(P:Params):Obj:=⟨(Y "tuple"),none,(Data.seq #[] 0),#[]⟩
def zAs (b:Bool)(P:Params):Obj:=⟨(Y "StopIteration"),none,(Data.fields #[(R 240),N,N,N,(Value.bool false),N]),#[]⟩
def t0 (b:Bool)(P:Params):BT:=(.node (top.o_1 P) (.node (top.o_2 P) (.node (zTp b P) (.node (top.o_8 P) (.node (top.o_16 P) (.node (top.o_32 P) (.node (top.o_69 P) (.node (top.o_133 P) .nil .nil) (.node (top.o_283 P) .nil .nil)) (.node (top.o_101 P) (.node (top.o_165 P) .nil .nil) (.node (top.o_315 P) .nil .nil))) (.node (top.o_50 P) (.node (top.o_85 P) (.node (top.o_149 P) .nil .nil) (.node (top.o_299 P) .nil .nil)) (.node (top.o_117 P) (.node (top.o_181 P) .nil .nil) (.node (zAH b P) .nil .nil)))) (.node (top.o_24 P) (.node (top.o_42 P) (.node (top.o_77 P) (.node (top.o_141 P) .nil .nil) (.node (top.o_291 P) .nil .nil)) (.node (top.o_109 P) (.node (top.o_173 P) .nil .nil) (.node (zAj b P) .nil .nil))) (.node (top.o_58 P) (.node (top.o_93 P) (.node (top.o_157 P) .nil .nil) (.node (top.o_307 P) .nil .nil)) (.node (top.o_125 P) (.node (top.o_189 P) .nil .nil) .nil)))) (.node (top.o_12 P) (.node (top.o_20 P) (.node (top.o_38 P) (.node (top.o_73 P) (.node (top.o_137 P) .nil .nil) (.node (top.o_287 P) .nil .nil)) (.node (top.o_105 P) (.node (top.o_169 P) .nil .nil) (.node (top.o_319 P) .nil .nil))) (.node (top.o_54 P) (.node (top.o_89 P) (.node (top.o_153 P) .nil .nil) (.node (top.o_303 P) .nil .nil)) (.node (top.o_121 P) (.node (top.o_185 P) .nil .nil) .nil))) (.node (top.o_28 P) (.node (top.o_46 P) (.node (top.o_81 P) (.node (top.o_145 P) .nil .nil) (.node (top.o_295 P) .nil .nil)) (.node (top.o_113 P) (.node (top.o_177 P) .nil .nil) (.node (zAE b P) .nil .nil))) (.node (top.o_62 P) (.node (top.o_97 P) (.node (top.o_161 P) .nil .nil) (.node (top.o_311 P) .nil .nil)) (.node (top.o_129 P) (.node (top.o_193 P) .nil .nil) .nil))))) (.node (top.o_6 P) (.node (top.o_10 P) (.node (top.o_18 P) (.node (top.o_36 P) (.node (top.o_71 P) (.node (top.o_135 P) .nil .nil) (.node (top.o_285 P) .nil .nil)) (.node (top.o_103 P) (.node (top.o_167 P) .nil .nil) (.node (top.o_317 P) .nil .nil))) (.node (top.o_52 P) (.node (top.o_87 P) (.node (top.o_151 P) .nil .nil) (.node (top.o_301 P) .nil .nil)) (.node (top.o_119 P) (.node (top.o_183 P) .nil .nil) (.node (zAs b P) .nil .nil)))) (.node (top.o_26 P) (.node (top.o_44 P) (.node (top.o_79 P) (.node (top.o_143 P) .nil .nil) (.node (top.o_293 P) .nil .nil)) (.node (top.o_111 P) (.node (top.o_175 P) .nil .nil) (.node (zAw b P) .nil .nil))) (.node (top.o_60 P) (.node (top.o_95 P) (.node (top.o_159 P) .nil .nil) (.node (top.o_309 P) .nil .nil)) (.node (top.o_127 P) (.node (top.o_191 P) .nil .nil) .nil)))) (.node (top.o_14 P) (.node (top.o_22 P) (.node (top.o_40 P) (.node (top.o_75 P) (.node (top.o_139 P) .nil .nil) (.node (top.o_289 P) .nil .nil)) (.node (top.o_107 P) (.node (top.o_171 P) .nil .nil) (.node (top.o_321 P) .nil .nil))) (.node (top.o_56 P) (.node (top.o_91 P) (.node (top.o_155 P) .nil .nil) (.node (top.o_305 P) .nil .nil)) (.node (top.o_123 P) (.node (top.o_187 P) .nil .nil) .nil))) (.node (top.o_280 P) (.node (top.o_48 P) (.node (top.o_83 P) (.node (top.o_147 P) .nil .nil) (.node (top.o_297 P) .nil .nil)) (.node (top.o_115 P) (.node (top.o_179 P) .nil .nil) (.node (zAq b P) .nil .nil))) (.node (top.o_64 P) (.node (top.o_99 P) (.node (top.o_163 P) .nil .nil) (.node (top.o_313 P) .nil .nil)) (.node (top.o_131 P) (.node (top.o_281 P) .nil .nil) .nil)))))) (.node (top.o_3 P) (.node (top.o_5 P) (.node (top.o_9 P) (.node (top.o_17 P) (.node (top.o_35 P) (.node (top.o_70 P) (.node (top.o_134 P) .nil .nil) (.node (top.o_284 P) .nil .nil)) (.node (top.o_102 P) (.node (top.o_166 P) .nil .nil) (.node (top.o_316 P) .nil .nil))) (.node (top.o_51 P) (.node (top.o_86 P) (.node (top.o_150 P) .nil .nil) (.node (top.o_300 P) .nil .nil)) (.node (top.o_118 P) (.node (top.o_182 P) .nil .nil) (.node (zAt b P) .nil .nil)))) (.node (top.o_25 P) (.node (top.o_43 P) (.node (top.o_78 P) (.node (top.o_142 P) .nil .nil) (.node (top.o_292 P) .nil .nil)) (.node (top.o_110 P) (.node (top.o_174 P) .nil .nil) (.node (zAn b P) .nil .nil))) (.node (top.o_59 P) (.node (top.o_94 P) (.node (top.o_158 P) .nil .nil) (.node (top.o_308 P) .nil .nil)) (.node (top.o_126 P) (.node (top.o_190 P) .nil .nil) .nil)))) (.node (top.o_13 P) (.node (top.o_21 P) (.node (top.o_39 P) (.node (top.o_74 P) (.node (top.o_138 P) .nil .nil) (.node (top.o_288 P) .nil .nil)) (.node (top.o_106 P) (.node (top.o_170 P) .nil .nil) (.node (top.o_320 P) .nil .nil))) (.node (top.o_55 P) (.node (top.o_90 P) (.node (top.o_154 P) .nil .nil) (.node (top.o_304 P) .nil .nil)) (.node (top.o_122 P) (.node (top.o_186 P) .nil .nil) .nil))) (.node (top.o_29 P) (.node (top.o_47 P) (.node (top.o_82 P) (.node (top.o_146 P) .nil .nil) (.node (top.o_296 P) .nil .nil)) (.node (top.o_114 P) (.node (top.o_178 P) .nil .nil) (.node (zAB b P) .nil .nil))) (.node (top.o_63 P) (.node (top.o_98 P) (.node (top.o_162 P) .nil .nil) (.node (top.o_312 P) .nil .nil)) (.node (top.o_130 P) (.node (top.o_194 P) .nil .nil) .nil))))) (.node (top.o_7 P) (.node (top.o_11 P) (.node (top.o_19 P) (.node (top.o_37 P) (.node (top.o_72 P) (.node (top.o_136 P) .nil .nil) (.node (top.o_286 P) .nil .nil)) (.node (top.o_104 P) (.node (top.o_168 P) .nil .nil) (.node (top.o_318 P) .nil .nil))) (.node (top.o_53 P) (.node (top.o_88 P) (.node (top.o_152 P) .nil .nil) (.node (top.o_302 P) .nil .nil)) (.node (top.o_120 P) (.node (top.o_184 P) .nil .nil) .nil))) (.node (top.o_27 P) (.node (top.o_45 P) (.node (top.o_80 P) (.node (top.o_144 P) .nil .nil) (.node (top.o_294 P) .nil .nil)) (.node (top.o_112 P) (.node (top.o_176 P) .nil .nil) (.node (zAM b P) .nil .nil))) (.node (top.o_61 P) (.node (top.o_96 P) (.node (top.o_160 P) .nil .nil) (.node (top.o_310 P) .nil .nil)) (.node (top.o_128 P) (.node (top.o_192 P) .nil .nil) .nil)))) (.node (top.o_15 P) (.node (top.o_23 P) (.node (top.o_41 P) (.node (top.o_76 P) (.node (top.o_140 P) .nil .nil) (.node (top.o_290 P) .nil .nil)) (.node (top.o_108 P) (.node (top.o_172 P) .nil .nil) (.node (top.o_322 P) .nil .nil))) (.node (top.o_57 P) (.node (top.o_92 P) (.node (top.o_156 P) .nil .nil) (.node (top.o_306 P) .nil .nil)) (.node (top.o_124 P) (.node (top.o_188 P) .nil .nil) .nil))) (.node (top.o_31 P) (.node (top.o_49 P) (.node (top.o_84 P) (.node (top.o_148 P) .nil .nil) (.node (top.o_298 P) .nil .nil)) (.node (top.o_116 P) (.node (top.o_180 P) .nil .nil) (.node (xB b P) .nil .nil))) (.node (top.o_68 P) (.node (top.o_100 P) (.node (top.o_164 P) .nil .nil) (.node (top.o_314 P) .nil .nil)) (.node (top.o_132 P) (.node (top.o_282 P) .nil .nil) .nil)))))))
def zFo:List Stmt:=[st 11]
theorem zRH (w:World)(os:OsState):segRunT treeTable pw ((w.withFollow "set-order" false).withFollow "special-get-raises" false) 28 ann 1 999 (sh (top.tree_322 ((w.withFollow "set-order" false).withFollow "special-get-raises" false).params) 231 617 os) (piecesOf zFo top.env_1 cdE ⟨148,0,148,8⟩ fr0)=some (.next,sh (t0 (((w.withFollow "set-order" false).withFollow "special-get-raises" false).params.followText "set-order") ((w.withFollow "set-order" false).withFollow "special-get-raises" false).params) 242 677 os,cdE,⟨149,0,149,6⟩):=zFY (by kernel_rfl)
theorem zSn (w:World)(os:OsState):segRunT treeTable pw ((w.withFollow "set-order" false).withFollow "special-get-raises" true) 28 ann 1 999 (sh (top.tree_322 ((w.withFollow "set-order" false).withFollow "special-get-raises" true).params) 231 617 os) (piecesOf zFo top.env_1 cdE ⟨148,0,148,8⟩ fr0)=some (.next,sh (t0 (((w.withFollow "set-order" false).withFollow "special-get-raises" true).params.followText "set-order") ((w.withFollow "set-order" false).withFollow "special-get-raises" true).params) 242 677 os,cdE,⟨149,0,149,6⟩):=zFY (by kernel_rfl)
theorem zSp (w:World)(os:OsState):segRunT treeTable pw ((w.withFollow "set-order" true).withFollow "special-get-raises" false) 28 ann 1 999 (sh (top.tree_322 ((w.withFollow "set-order" true).withFollow "special-get-raises" false).params) 231 617 os) (piecesOf zFo top.env_1 cdE ⟨148,0,148,8⟩ fr0)=some (.next,sh (t0 (((w.withFollow "set-order" true).withFollow "special-get-raises" false).params.followText "set-order") ((w.withFollow "set-order" true).withFollow "special-get-raises" false).params) 242 677 os,cdE,⟨149,0,149,6⟩):=zFY (by kernel_rfl)
theorem zSd (w:World)(os:OsState):segRunT treeTable pw ((w.withFollow "set-order" true).withFollow "special-get-raises" true) 28 ann 1 999 (sh (top.tree_322 ((w.withFollow "set-order" true).withFollow "special-get-raises" true).params) 231 617 os) (piecesOf zFo top.env_1 cdE ⟨148,0,148,8⟩ fr0)=some (.next,sh (t0 (((w.withFollow "set-order" true).withFollow "special-get-raises" true).params.followText "set-order") ((w.withFollow "set-order" true).withFollow "special-get-raises" true).params) 242 677 os,cdE,⟨149,0,149,6⟩):=zFY (by kernel_rfl)
def zRQ (b:Bool)(P:Params):Obj:=⟨(Y "dict"),none,(Data.dict (List.toArray [(E P (S "__name__") 165 (T (S "cpy313.stringprep") 615)),(E P (S "__doc__") 166 N),(E P (S "__package__") 167 N),(E P (S "__loader__") 168 (B "__main__.__loader__#opaque")),(E P (S "__spec__") 169 N),(E P (S "__annotations__") 170 (R 6)),(E P (S "__builtins__") 171 (R 4)),(E P (S "__file__") 173 (T (S "/claim/cut.py") 172)),(E P (S "__cached__") 174 N),(E P (S "_sre") 275 (R 12)),(E P (S "_wall") 288 (R 38)),(E P (S "tspecials") 324 (R 43)),(E P (S "_name_disallowed_re") 350 (R 48)),(E P (S "_value_disallowed_re") 384 (R 53)),(E P (S "_formatparam") 394 (R 61)),(E P (S "Headers") 554 (R 184)),(E P (S "_netrclex") 614 (R 226)),(E P (S "b1_set") 676 (R 238)),(E P (S "in_table_b1") 683 (R 248))]) 19),#[]⟩
def zLO (b:Bool)(P:Params):Obj:=⟨N,none,(Data.fields #[(I 2 0),(I 0 0),(R 37),(I 9 0),(I 0 0),(R 60),(I 18 0),(I 0 0),(R 67),(I 105 0),(I 0 0),(R 194),(I 150 0),(I 0 0),(R 247)]),#[]⟩
def zBM (b:Bool)(P:Params):Obj:=⟨(Y "tuple"),none,(Data.seq #[] 0),#[]⟩
def zBU (b:Bool)(P:Params):Obj:=⟨N,none,(Data.fields #[]),#[]⟩
def zBx (b:Bool)(P:Params):Obj:=⟨(Y "tuple"),none,(Data.seq #[(T (S "code") 680)] 0),#[]⟩
def zBA (b:Bool)(P:Params):Obj:=⟨(Y "tuple"),none,(Data.seq #[] 0),#[]⟩
def zBJ (b:Bool)(P:Params):Obj:=⟨N,none,(Data.func (fn (st 12) (S "in_table_b1") 0 [] N N N N none N N 0)),#[]⟩
def zAA (b:Bool)(P:Params):Obj:=⟨(Y "code"),none,(Data.fields #[(T (S "in_table_b1") 677),(T (S "in_table_b1") 678),(T (S "/claim/cut.py") 679),(I 150 0),(I 1 0),(I 0 0),(I 0 0),(I 3 0),(R 242),(Value.bool true),(I 276 0),(R 243),N,(R 244),(R 245),(R 246),(I 681 0),(I 150 0),(T (S "/claim/cut.py") 682)]),#[]⟩
def vP (b:Bool)(P:Params):Obj:=⟨(Y "function"),none,(Data.func (fn (st 12) (S "in_table_b1") 3 [] N N N (T (S "cpy313.stringprep") 615) none (R 247) N 0)),#[]⟩
def t1 (b:Bool)(P:Params):BT:=(.node (top.o_1 P) (.node (top.o_2 P) (.node (zRQ b P) (.node (top.o_8 P) (.node (top.o_16 P) (.node (top.o_32 P) (.node (top.o_69 P) (.node (top.o_133 P) .nil .nil) (.node (top.o_283 P) .nil .nil)) (.node (top.o_101 P) (.node (top.o_165 P) .nil .nil) (.node (top.o_315 P) .nil .nil))) (.node (top.o_50 P) (.node (top.o_85 P) (.node (top.o_149 P) .nil .nil) (.node (top.o_299 P) .nil .nil)) (.node (top.o_117 P) (.node (top.o_181 P) .nil .nil) (.node (zAH b P) .nil .nil)))) (.node (top.o_24 P) (.node (top.o_42 P) (.node (top.o_77 P) (.node (top.o_141 P) .nil .nil) (.node (top.o_291 P) .nil .nil)) (.node (top.o_109 P) (.node (top.o_173 P) .nil .nil) (.node (zAj b P) .nil .nil))) (.node (top.o_58 P) (.node (top.o_93 P) (.node (top.o_157 P) .nil .nil) (.node (top.o_307 P) .nil .nil)) (.node (top.o_125 P) (.node (top.o_189 P) .nil .nil) (.node (zAA b P) .nil .nil))))) (.node (top.o_12 P) (.node (top.o_20 P) (.node (top.o_38 P) (.node (top.o_73 P) (.node (top.o_137 P) .nil .nil) (.node (top.o_287 P) .nil .nil)) (.node (top.o_105 P) (.node (top.o_169 P) .nil .nil) (.node (top.o_319 P) .nil .nil))) (.node (top.o_54 P) (.node (top.o_89 P) (.node (top.o_153 P) .nil .nil) (.node (top.o_303 P) .nil .nil)) (.node (top.o_121 P) (.node (top.o_185 P) .nil .nil) (.node (zBU b P) .nil .nil)))) (.node (top.o_28 P) (.node (top.o_46 P) (.node (top.o_81 P) (.node (top.o_145 P) .nil .nil) (.node (top.o_295 P) .nil .nil)) (.node (top.o_113 P) (.node (top.o_177 P) .nil .nil) (.node (zAE b P) .nil .nil))) (.node (top.o_62 P) (.node (top.o_97 P) (.node (top.o_161 P) .nil .nil) (.node (top.o_311 P) .nil .nil)) (.node (top.o_129 P) (.node (top.o_193 P) .nil .nil) .nil))))) (.node (top.o_6 P) (.node (top.o_10 P) (.node (top.o_18 P) (.node (top.o_36 P) (.node (top.o_71 P) (.node (top.o_135 P) .nil .nil) (.node (top.o_285 P) .nil .nil)) (.node (top.o_103 P) (.node (top.o_167 P) .nil .nil) (.node (top.o_317 P) .nil .nil))) (.node (top.o_52 P) (.node (top.o_87 P) (.node (top.o_151 P) .nil .nil) (.node (top.o_301 P) .nil .nil)) (.node (top.o_119 P) (.node (top.o_183 P) .nil .nil) (.node (zAs b P) .nil .nil)))) (.node (top.o_26 P) (.node (top.o_44 P) (.node (top.o_79 P) (.node (top.o_143 P) .nil .nil) (.node (top.o_293 P) .nil .nil)) (.node (top.o_111 P) (.node (top.o_175 P) .nil .nil) (.node (zAw b P) .nil .nil))) (.node (top.o_60 P) (.node (top.o_95 P) (.node (top.o_159 P) .nil .nil) (.node (top.o_309 P) .nil .nil)) (.node (top.o_127 P) (.node (top.o_191 P) .nil .nil) .nil)))) (.node (top.o_14 P) (.node (top.o_22 P) (.node (top.o_40 P) (.node (top.o_75 P) (.node (top.o_139 P) .nil .nil) (.node (top.o_289 P) .nil .nil)) (.node (top.o_107 P) (.node (top.o_171 P) .nil .nil) (.node (top.o_321 P) .nil .nil))) (.node (top.o_56 P) (.node (top.o_91 P) (.node (top.o_155 P) .nil .nil) (.node (top.o_305 P) .nil .nil)) (.node (top.o_123 P) (.node (top.o_187 P) .nil .nil) (.node (zBA b P) .nil .nil)))) (.node (zLO b P) (.node (top.o_48 P) (.node (top.o_83 P) (.node (top.o_147 P) .nil .nil) (.node (top.o_297 P) .nil .nil)) (.node (top.o_115 P) (.node (top.o_179 P) .nil .nil) (.node (zAq b P) .nil .nil))) (.node (top.o_64 P) (.node (top.o_99 P) (.node (top.o_163 P) .nil .nil) (.node (top.o_313 P) .nil .nil)) (.node (top.o_131 P) (.node (top.o_281 P) .nil .nil) .nil)))))) (.node (top.o_3 P) (.node (top.o_5 P) (.node (top.o_9 P) (.node (top.o_17 P) (.node (top.o_35 P) (.node (top.o_70 P) (.node (top.o_134 P) .nil .nil) (.node (top.o_284 P) .nil .nil)) (.node (top.o_102 P) (.node (top.o_166 P) .nil .nil) (.node (top.o_316 P) .nil .nil))) (.node (top.o_51 P) (.node (top.o_86 P) (.node (top.o_150 P) .nil .nil) (.node (top.o_300 P) .nil .nil)) (.node (top.o_118 P) (.node (top.o_182 P) .nil .nil) (.node (zAt b P) .nil .nil)))) (.node (top.o_25 P) (.node (top.o_43 P) (.node (top.o_78 P) (.node (top.o_142 P) .nil .nil) (.node (top.o_292 P) .nil .nil)) (.node (top.o_110 P) (.node (top.o_174 P) .nil .nil) (.node (zAn b P) .nil .nil))) (.node (top.o_59 P) (.node (top.o_94 P) (.node (top.o_158 P) .nil .nil) (.node (top.o_308 P) .nil .nil)) (.node (top.o_126 P) (.node (top.o_190 P) .nil .nil) (.node (vP b P) .nil .nil))))) (.node (top.o_13 P) (.node (top.o_21 P) (.node (top.o_39 P) (.node (top.o_74 P) (.node (top.o_138 P) .nil .nil) (.node (top.o_288 P) .nil .nil)) (.node (top.o_106 P) (.node (top.o_170 P) .nil .nil) (.node (top.o_320 P) .nil .nil))) (.node (top.o_55 P) (.node (top.o_90 P) (.node (top.o_154 P) .nil .nil) (.node (top.o_304 P) .nil .nil)) (.node (top.o_122 P) (.node (top.o_186 P) .nil .nil) (.node (zBx b P) .nil .nil)))) (.node (top.o_29 P) (.node (top.o_47 P) (.node (top.o_82 P) (.node (top.o_146 P) .nil .nil) (.node (top.o_296 P) .nil .nil)) (.node (top.o_114 P) (.node (top.o_178 P) .nil .nil) (.node (zAB b P) .nil .nil))) (.node (top.o_63 P) (.node (top.o_98 P) (.node (top.o_162 P) .nil .nil) (.node (top.o_312 P) .nil .nil)) (.node (top.o_130 P) (.node (top.o_194 P) .nil .nil) .nil))))) (.node (top.o_7 P) (.node (top.o_11 P) (.node (top.o_19 P) (.node (top.o_37 P) (.node (top.o_72 P) (.node (top.o_136 P) .nil .nil) (.node (top.o_286 P) .nil .nil)) (.node (top.o_104 P) (.node (top.o_168 P) .nil .nil) (.node (top.o_318 P) .nil .nil))) (.node (top.o_53 P) (.node (top.o_88 P) (.node (top.o_152 P) .nil .nil) (.node (top.o_302 P) .nil .nil)) (.node (top.o_120 P) (.node (top.o_184 P) .nil .nil) (.node (zBM b P) .nil .nil)))) (.node (top.o_27 P) (.node (top.o_45 P) (.node (top.o_80 P) (.node (top.o_144 P) .nil .nil) (.node (top.o_294 P) .nil .nil)) (.node (top.o_112 P) (.node (top.o_176 P) .nil .nil) (.node (zAM b P) .nil .nil))) (.node (top.o_61 P) (.node (top.o_96 P) (.node (top.o_160 P) .nil .nil) (.node (top.o_310 P) .nil .nil)) (.node (top.o_128 P) (.node (top.o_192 P) .nil .nil) .nil)))) (.node (top.o_15 P) (.node (top.o_23 P) (.node (top.o_41 P) (.node (top.o_76 P) (.node (top.o_140 P) .nil .nil) (.node (top.o_290 P) .nil .nil)) (.node (top.o_108 P) (.node (top.o_172 P) .nil .nil) (.node (top.o_322 P) .nil .nil))) (.node (top.o_57 P) (.node (top.o_92 P) (.node (top.o_156 P) .nil .nil) (.node (top.o_306 P) .nil .nil)) (.node (top.o_124 P) (.node (top.o_188 P) .nil .nil) (.node (zBJ b P) .nil .nil)))) (.node (top.o_31 P) (.node (top.o_49 P) (.node (top.o_84 P) (.node (top.o_148 P) .nil .nil) (.node (top.o_298 P) .nil .nil)) (.node (top.o_116 P) (.node (top.o_180 P) .nil .nil) (.node (xB b P) .nil .nil))) (.node (top.o_68 P) (.node (top.o_100 P) (.node (top.o_164 P) .nil .nil) (.node (top.o_314 P) .nil .nil)) (.node (top.o_132 P) (.node (top.o_282 P) .nil .nil) .nil)))))))
def zRl:List Stmt:=[st 12]
theorem g1 (b:Bool)(w:World)(os:OsState):segRunT treeTable pw w 28 ann 1 30 (sh (t0 b w.params) 242 677 os) (piecesOf zRl top.env_1 cdE ⟨149,0,149,6⟩ fr0)=some (.next,sh (t1 b w.params) 249 684 os,cdE,⟨150,0,151,30⟩):=zFY (by kernel_rfl)
def zS4 (b:Bool)(P:Params):Obj:=⟨(Y "dict"),none,(Data.dict (List.toArray [(E P (S "__name__") 165 (T (S "cpy313.stringprep") 615)),(E P (S "__doc__") 166 N),(E P (S "__package__") 167 N),(E P (S "__loader__") 168 (B "__main__.__loader__#opaque")),(E P (S "__spec__") 169 N),(E P (S "__annotations__") 170 (R 6)),(E P (S "__builtins__") 171 (R 4)),(E P (S "__file__") 173 (T (S "/claim/cut.py") 172)),(E P (S "__cached__") 174 N),(E P (S "_sre") 275 (R 12)),(E P (S "_wall") 288 (R 38)),(E P (S "tspecials") 324 (R 43)),(E P (S "_name_disallowed_re") 350 (R 48)),(E P (S "_value_disallowed_re") 384 (R 53)),(E P (S "_formatparam") 394 (R 61)),(E P (S "Headers") 554 (R 184)),(E P (S "_netrclex") 614 (R 226)),(E P (S "b1_set") 676 (R 238)),(E P (S "in_table_b1") 683 (R 248)),(E P (S "b3_exceptions") 2634 (R 249))]) 20),#[]⟩
def xO (b:Bool)(P:Params):Obj:=⟨(Y "dict"),none,(Data.dict (List.toArray [⟨181,(I 181 684),(T (S "μ") 685)⟩,⟨223,(I 223 687),(T (S "ss") 688)⟩,⟨304,(I 304 690),(T (S "i̇") 691)⟩,⟨329,(I 329 693),(T (S "ʼn") 694)⟩,⟨383,(I 383 696),(T (S "s") 697)⟩,⟨496,(I 496 699),(T (S "ǰ") 700)⟩,⟨837,(I 837 702),(T (S "ι") 703)⟩,⟨890,(I 890 705),(T (S " ι") 706)⟩,⟨912,(I 912 708),(T (S "ΐ") 709)⟩,⟨944,(I 944 711),(T (S "ΰ") 712)⟩,⟨962,(I 962 714),(T (S "σ") 715)⟩,⟨976,(I 976 717),(T (S "β") 718)⟩,⟨977,(I 977 720),(T (S "θ") 721)⟩,⟨978,(I 978 723),(T (S "υ") 724)⟩,⟨979,(I 979 726),(T (S "ύ") 727)⟩,⟨980,(I 980 729),(T (S "ϋ") 730)⟩,⟨981,(I 981 732),(T (S "φ") 733)⟩,⟨982,(I 982 735),(T (S "π") 736)⟩,⟨1008,(I 1008 738),(T (S "κ") 739)⟩,⟨1009,(I 1009 741),(T (S "ρ") 742)⟩,⟨1010,(I 1010 744),(T (S "σ") 745)⟩,⟨1013,(I 1013 747),(T (S "ε") 748)⟩,⟨1415,(I 1415 750),(T (S "եւ") 751)⟩,⟨7830,(I 7830 753),(T (S "ẖ") 754)⟩,⟨7831,(I 7831 756),(T (S "ẗ") 757)⟩,⟨7832,(I 7832 759),(T (S "ẘ") 760)⟩,⟨7833,(I 7833 762),(T (S "ẙ") 763)⟩,⟨7834,(I 7834 765),(T (S "aʾ") 766)⟩,⟨7835,(I 7835 768),(T (S "ṡ") 769)⟩,⟨8016,(I 8016 771),(T (S "ὐ") 772)⟩,⟨8018,(I 8018 774),(T (S "ὒ") 775)⟩,⟨8020,(I 8020 777),(T (S "ὔ") 778)⟩,⟨8022,(I 8022 780),(T (S "ὖ") 781)⟩,⟨8064,(I 8064 783),(T (S "ἀι") 784)⟩,⟨8065,(I 8065 786),(T (S "ἁι") 787)⟩,⟨8066,(I 8066 789),(T (S "ἂι") 790)⟩,⟨8067,(I 8067 792),(T (S "ἃι") 793)⟩,⟨8068,(I 8068 795),(T (S "ἄι") 796)⟩,⟨8069,(I 8069 798),(T (S "ἅι") 799)⟩,⟨8070,(I 8070 801),(T (S "ἆι") 802)⟩,⟨8071,(I 8071 804),(T (S "ἇι") 805)⟩,⟨8072,(I 8072 807),(T (S "ἀι") 808)⟩,⟨8073,(I 8073 810),(T (S "ἁι") 811)⟩,⟨8074,(I 8074 813),(T (S "ἂι") 814)⟩,⟨8075,(I 8075 816),(T (S "ἃι") 817)⟩,⟨8076,(I 8076 819),(T (S "ἄι") 820)⟩,⟨8077,(I 8077 822),(T (S "ἅι") 823)⟩,⟨8078,(I 8078 825),(T (S "ἆι") 826)⟩,⟨8079,(I 8079 828),(T (S "ἇι") 829)⟩,⟨8080,(I 8080 831),(T (S "ἠι") 832)⟩,⟨8081,(I 8081 834),(T (S "ἡι") 835)⟩,⟨8082,(I 8082 837),(T (S "ἢι") 838)⟩,⟨8083,(I 8083 840),(T (S "ἣι") 841)⟩,⟨8084,(I 8084 843),(T (S "ἤι") 844)⟩,⟨8085,(I 8085 846),(T (S "ἥι") 847)⟩,⟨8086,(I 8086 849),(T (S "ἦι") 850)⟩,⟨8087,(I 8087 852),(T (S "ἧι") 853)⟩,⟨8088,(I 8088 855),(T (S "ἠι") 856)⟩,⟨8089,(I 8089 858),(T (S "ἡι") 859)⟩,⟨8090,(I 8090 861),(T (S "ἢι") 862)⟩,⟨8091,(I 8091 864),(T (S "ἣι") 865)⟩,⟨8092,(I 8092 867),(T (S "ἤι") 868)⟩,⟨8093,(I 8093 870),(T (S "ἥι") 871)⟩,⟨8094,(I 8094 873),(T (S "ἦι") 874)⟩,⟨8095,(I 8095 876),(T (S "ἧι") 877)⟩,⟨8096,(I 8096 879),(T (S "ὠι") 880)⟩,⟨8097,(I 8097 882),(T (S "ὡι") 883)⟩,⟨8098,(I 8098 885),(T (S "ὢι") 886)⟩,⟨8099,(I 8099 888),(T (S "ὣι") 889)⟩,⟨8100,(I 8100 891),(T (S "ὤι") 892)⟩,⟨8101,(I 8101 894),(T (S "ὥι") 895)⟩,⟨8102,(I 8102 897),(T (S "ὦι") 898)⟩,⟨8103,(I 8103 900),(T (S "ὧι") 901)⟩,⟨8104,(I 8104 903),(T (S "ὠι") 904)⟩,⟨8105,(I 8105 906),(T (S "ὡι") 907)⟩,⟨8106,(I 8106 909),(T (S "ὢι") 910)⟩,⟨8107,(I 8107 912),(T (S "ὣι") 913)⟩,⟨8108,(I 8108 915),(T (S "ὤι") 916)⟩,⟨8109,(I 8109 918),(T (S "ὥι") 919)⟩,⟨8110,(I 8110 921),(T (S "ὦι") 922)⟩,⟨8111,(I 8111 924),(T (S "ὧι") 925)⟩,⟨8114,(I 8114 927),(T (S "ὰι") 928)⟩,⟨8115,(I 8115 930),(T (S "αι") 931)⟩,⟨8116,(I 8116 933),(T (S "άι") 934)⟩,⟨8118,(I 8118 936),(T (S "ᾶ") 937)⟩,⟨8119,(I 8119 939),(T (S "ᾶι") 940)⟩,⟨8124,(I 8124 942),(T (S "αι") 943)⟩,⟨8126,(I 8126 945),(T (S "ι") 946)⟩,⟨8130,(I 8130 948),(T (S "ὴι") 949)⟩,⟨8131,(I 8131 951),(T (S "ηι") 952)⟩,⟨8132,(I 8132 954),(T (S "ήι") 955)⟩,⟨8134,(I 8134 957),(T (S "ῆ") 958)⟩,⟨8135,(I 8135 960),(T (S "ῆι") 961)⟩,⟨8140,(I 8140 963),(T (S "ηι") 964)⟩,⟨8146,(I 8146 966),(T (S "ῒ") 967)⟩,⟨8147,(I 8147 969),(T (S "ΐ") 970)⟩,⟨8150,(I 8150 972),(T (S "ῖ") 973)⟩,⟨8151,(I 8151 975),(T (S "ῗ") 976)⟩,⟨8162,(I 8162 978),(T (S "ῢ") 979)⟩,⟨8163,(I 8163 981),(T (S "ΰ") 982)⟩,⟨8164,(I 8164 984),(T (S "ῤ") 985)⟩,⟨8166,(I 8166 987),(T (S "ῦ") 988)⟩,⟨8167,(I 8167 990),(T (S "ῧ") 991)⟩,⟨8178,(I 8178 993),(T (S "ὼι") 994)⟩,⟨8179,(I 8179 996),(T (S "ωι") 997)⟩,⟨8180,(I 8180 999),(T (S "ώι") 1000)⟩,⟨8182,(I 8182 1002),(T (S "ῶ") 1003)⟩,⟨8183,(I 8183 1005),(T (S "ῶι") 1006)⟩,⟨8188,(I 8188 1008),(T (S "ωι") 1009)⟩,⟨8360,(I 8360 1011),(T (S "rs") 1012)⟩,⟨8450,(I 8450 1014),(T (S "c") 1015)⟩,⟨8451,(I 8451 1017),(T (S "°c") 1018)⟩,⟨8455,(I 8455 1020),(T (S "ɛ") 1021)⟩,⟨8457,(I 8457 1023),(T (S "°f") 1024)⟩,⟨8459,(I 8459 1026),(T (S "h") 1027)⟩,⟨8460,(I 8460 1029),(T (S "h") 1030)⟩,⟨8461,(I 8461 1032),(T (S "h") 1033)⟩,⟨8464,(I 8464 1035),(T (S "i") 1036)⟩,⟨8465,(I 8465 1038),(T (S "i") 1039)⟩,⟨8466,(I 8466 1041),(T (S "l") 1042)⟩,⟨8469,(I 8469 1044),(T (S "n") 1045)⟩,⟨8470,(I 8470 1047),(T (S "no") 1048)⟩,⟨8473,(I 8473 1050),(T (S "p") 1051)⟩,⟨8474,(I 8474 1053),(T (S "q") 1054)⟩,⟨8475,(I 8475 1056),(T (S "r") 1057)⟩,⟨8476,(I 8476 1059),(T (S "r") 1060)⟩,⟨8477,(I 8477 1062),(T (S "r") 1063)⟩,⟨8480,(I 8480 1065),(T (S "sm") 1066)⟩,⟨8481,(I 8481 1068),(T (S "tel") 1069)⟩,⟨8482,(I 8482 1071),(T (S "tm") 1072)⟩,⟨8484,(I 8484 1074),(T (S "z") 1075)⟩,⟨8488,(I 8488 1077),(T (S "z") 1078)⟩,⟨8492,(I 8492 1080),(T (S "b") 1081)⟩,⟨8493,(I 8493 1083),(T (S "c") 1084)⟩,⟨8496,(I 8496 1086),(T (S "e") 1087)⟩,⟨8497,(I 8497 1089),(T (S "f") 1090)⟩,⟨8499,(I 8499 1092),(T (S "m") 1093)⟩,⟨8510,(I 8510 1095),(T (S "γ") 1096)⟩,⟨8511,(I 8511 1098),(T (S "π") 1099)⟩,⟨8517,(I 8517 1101),(T (S "d") 1102)⟩,⟨13169,(I 13169 1104),(T (S "hpa") 1105)⟩,⟨13171,(I 13171 1107),(T (S "au") 1108)⟩,⟨13173,(I 13173 1110),(T (S "ov") 1111)⟩,⟨13184,(I 13184 1113),(T (S "pa") 1114)⟩,⟨13185,(I 13185 1116),(T (S "na") 1117)⟩,⟨13186,(I 13186 1119),(T (S "μa") 1120)⟩,⟨13187,(I 13187 1122),(T (S "ma") 1123)⟩,⟨13188,(I 13188 1125),(T (S "ka") 1126)⟩,⟨13189,(I 13189 1128),(T (S "kb") 1129)⟩,⟨13190,(I 13190 1131),(T (S "mb") 1132)⟩,⟨13191,(I 13191 1134),(T (S "gb") 1135)⟩,⟨13194,(I 13194 1137),(T (S "pf") 1138)⟩,⟨13195,(I 13195 1140),(T (S "nf") 1141)⟩,⟨13196,(I 13196 1143),(T (S "μf") 1144)⟩,⟨13200,(I 13200 1146),(T (S "hz") 1147)⟩,⟨13201,(I 13201 1149),(T (S "khz") 1150)⟩,⟨13202,(I 13202 1152),(T (S "mhz") 1153)⟩,⟨13203,(I 13203 1155),(T (S "ghz") 1156)⟩,⟨13204,(I 13204 1158),(T (S "thz") 1159)⟩,⟨13225,(I 13225 1161),(T (S "pa") 1162)⟩,⟨13226,(I 13226 1164),(T (S "kpa") 1165)⟩,⟨13227,(I 13227 1167),(T (S "mpa") 1168)⟩,⟨13228,(I 13228 1170),(T (S "gpa") 1171)⟩,⟨13236,(I 13236 1173),(T (S "pv") 1174)⟩,⟨13237,(I 13237 1176),(T (S "nv") 1177)⟩,⟨13238,(I 13238 1179),(T (S "μv") 1180)⟩,⟨13239,(I 13239 1182),(T (S "mv") 1183)⟩,⟨13240,(I 13240 1185),(T (S "kv") 1186)⟩,⟨13241,(I 13241 1188),(T (S "mv") 1189)⟩,⟨13242,(I 13242 1191),(T (S "pw") 1192)⟩,⟨13243,(I 13243 1194),(T (S "nw") 1195)⟩,⟨13244,(I 13244 1197),(T (S "μw") 1198)⟩,⟨13245,(I 13245 1200),(T (S "mw") 1201)⟩,⟨13246,(I 13246 1203),(T (S "kw") 1204)⟩,⟨13247,(I 13247 1206),(T (S "mw") 1207)⟩,⟨13248,(I 13248 1209),(T (S "kω") 1210)⟩,⟨13249,(I 13249 1212),(T (S "mω") 1213)⟩,⟨13251,(I 13251 1215),(T (S "bq") 1216)⟩,⟨13254,(I 13254 1218),(T (S "c∕kg") 1219)⟩,⟨13255,(I 13255 1221),(T (S "co.") 1222)⟩,⟨13256,(I 13256 1224),(T (S "db") 1225)⟩,⟨13257,(I 13257 1227),(T (S "gy") 1228)⟩,⟨13259,(I 13259 1230),(T (S "hp") 1231)⟩,⟨13261,(I 13261 1233),(T (S "kk") 1234)⟩,⟨13262,(I 13262 1236),(T (S "km") 1237)⟩,⟨13271,(I 13271 1239),(T (S "ph") 1240)⟩,⟨13273,(I 13273 1242),(T (S "ppm") 1243)⟩,⟨13274,(I 13274 1245),(T (S "pr") 1246)⟩,⟨13276,(I 13276 1248),(T (S "sv") 1249)⟩,⟨13277,(I 13277 1251),(T (S "wb") 1252)⟩,⟨64256,(I 64256 1254),(T (S "ff") 1255)⟩,⟨64257,(I 64257 1257),(T (S "fi") 1258)⟩,⟨64258,(I 64258 1260),(T (S "fl") 1261)⟩,⟨64259,(I 64259 1263),(T (S "ffi") 1264)⟩,⟨64260,(I 64260 1266),(T (S "ffl") 1267)⟩,⟨64261,(I 64261 1269),(T (S "st") 1270)⟩,⟨64262,(I 64262 1272),(T (S "st") 1273)⟩,⟨64275,(I 64275 1275),(T (S "մն") 1276)⟩,⟨64276,(I 64276 1278),(T (S "մե") 1279)⟩,⟨64277,(I 64277 1281),(T (S "մի") 1282)⟩,⟨64278,(I 64278 1284),(T (S "վն") 1285)⟩,⟨64279,(I 64279 1287),(T (S "մխ") 1288)⟩,⟨119808,(I 119808 1290),(T (S "a") 1291)⟩,⟨119809,(I 119809 1293),(T (S "b") 1294)⟩,⟨119810,(I 119810 1296),(T (S "c") 1297)⟩,⟨119811,(I 119811 1299),(T (S "d") 1300)⟩,⟨119812,(I 119812 1302),(T (S "e") 1303)⟩,⟨119813,(I 119813 1305),(T (S "f") 1306)⟩,⟨119814,(I 119814 1308),(T (S "g") 1309)⟩,⟨119815,(I 119815 1311),(T (S "h") 1312)⟩,⟨119816,(I 119816 1314),(T (S "i") 1315)⟩,⟨119817,(I 119817 1317),(T (S "j") 1318)⟩,⟨119818,(I 119818 1320),(T (S "k") 1321)⟩,⟨119819,(I 119819 1323),(T (S "l") 1324)⟩,⟨119820,(I 119820 1326),(T (S "m") 1327)⟩,⟨119821,(I 119821 1329),(T (S "n") 1330)⟩,⟨119822,(I 119822 1332),(T (S "o") 1333)⟩,⟨119823,(I 119823 1335),(T (S "p") 1336)⟩,⟨119824,(I 119824 1338),(T (S "q") 1339)⟩,⟨119825,(I 119825 1341),(T (S "r") 1342)⟩,⟨119826,(I 119826 1344),(T (S "s") 1345)⟩,⟨119827,(I 119827 1347),(T (S "t") 1348)⟩,⟨119828,(I 119828 1350),(T (S "u") 1351)⟩,⟨119829,(I 119829 1353),(T (S "v") 1354)⟩,⟨119830,(I 119830 1356),(T (S "w") 1357)⟩,⟨119831,(I 119831 1359),(T (S "x") 1360)⟩,⟨119832,(I 119832 1362),(T (S "y") 1363)⟩,⟨119833,(I 119833 1365),(T (S "z") 1366)⟩,⟨119860,(I 119860 1368),(T (S "a") 1369)⟩,⟨119861,(I 119861 1371),(T (S "b") 1372)⟩,⟨119862,(I 119862 1374),(T (S "c") 1375)⟩,⟨119863,(I 119863 1377),(T (S "d") 1378)⟩,⟨119864,(I 119864 1380),(T (S "e") 1381)⟩,⟨119865,(I 119865 1383),(T (S "f") 1384)⟩,⟨119866,(I 119866 1386),(T (S "g") 1387)⟩,⟨119867,(I 119867 1389),(T (S "h") 1390)⟩,⟨119868,(I 119868 1392),(T (S "i") 1393)⟩,⟨119869,(I 119869 1395),(T (S "j") 1396)⟩,⟨119870,(I 119870 1398),(T (S "k") 1399)⟩,⟨119871,(I 119871 1401),(T (S "l") 1402)⟩,⟨119872,(I 119872 1404),(T (S "m") 1405)⟩,⟨119873,(I 119873 1407),(T (S "n") 1408)⟩,⟨119874,(I 119874 1410),(T (S "o") 1411)⟩,⟨119875,(I 119875 1413),(T (S "p") 1414)⟩,⟨119876,(I 119876 1416),(T (S "q") 1417)⟩,⟨119877,(I 119877 1419),(T (S "r") 1420)⟩,⟨119878,(I 119878 1422),(T (S "s") 1423)⟩,⟨119879,(I 119879 1425),(T (S "t") 1426)⟩,⟨119880,(I 119880 1428),(T (S "u") 1429)⟩,⟨119881,(I 119881 1431),(T (S "v") 1432)⟩,⟨119882,(I 119882 1434),(T (S "w") 1435)⟩,⟨119883,(I 119883 1437),(T (S "x") 1438)⟩,⟨119884,(I 119884 1440),(T (S "y") 1441)⟩,⟨119885,(I 119885 1443),(T (S "z") 1444)⟩,⟨119912,(I 119912 1446),(T (S "a") 1447)⟩,⟨119913,(I 119913 1449),(T (S "b") 1450)⟩,⟨119914,(I 119914 1452),(T (S "c") 1453)⟩,⟨119915,(I 119915 1455),(T (S "d") 1456)⟩,⟨119916,(I 119916 1458),(T (S "e") 1459)⟩,⟨119917,(I 119917 1461),(T (S "f") 1462)⟩,⟨119918,(I 119918 1464),(T (S "g") 1465)⟩,⟨119919,(I 119919 1467),(T (S "h") 1468)⟩,⟨119920,(I 119920 1470),(T (S "i") 1471)⟩,⟨119921,(I 119921 1473),(T (S "j") 1474)⟩,⟨119922,(I 119922 1476),(T (S "k") 1477)⟩,⟨119923,(I 119923 1479),(T (S "l") 1480)⟩,⟨119924,(I 119924 1482),(T (S "m") 1483)⟩,⟨119925,(I 119925 1485),(T (S "n") 1486)⟩,⟨119926,(I 119926 1488),(T (S "o") 1489)⟩,⟨119927,(I 119927 1491),(T (S "p") 1492)⟩,⟨119928,(I 119928 1494),(T (S "q") 1495)⟩,⟨119929,(I 119929 1497),(T (S "r") 1498)⟩,⟨119930,(I 119930 1500),(T (S "s") 1501)⟩,⟨119931,(I 119931 1503),(T (S "t") 1504)⟩,⟨119932,(I 119932 1506),(T (S "u") 1507)⟩,⟨119933,(I 119933 1509),(T (S "v") 1510)⟩,⟨119934,(I 119934 1512),(T (S "w") 1513)⟩,⟨119935,(I 119935 1515),(T (S "x") 1516)⟩,⟨119936,(I 119936 1518),(T (S "y") 1519)⟩,⟨119937,(I 119937 1521),(T (S "z") 1522)⟩,⟨119964,(I 119964 1524),(T (S "a") 1525)⟩,⟨119966,(I 119966 1527),(T (S "c") 1528)⟩,⟨119967,(I 119967 1530),(T (S "d") 1531)⟩,⟨119970,(I 119970 1533),(T (S "g") 1534)⟩,⟨119973,(I 119973 1536),(T (S "j") 1537)⟩,⟨119974,(I 119974 1539),(T (S "k") 1540)⟩,⟨119977,(I 119977 1542),(T (S "n") 1543)⟩,⟨119978,(I 119978 1545),(T (S "o") 1546)⟩,⟨119979,(I 119979 1548),(T (S "p") 1549)⟩,⟨119980,(I 119980 1551),(T (S "q") 1552)⟩,⟨119982,(I 119982 1554),(T (S "s") 1555)⟩,⟨119983,(I 119983 1557),(T (S "t") 1558)⟩,⟨119984,(I 119984 1560),(T (S "u") 1561)⟩,⟨119985,(I 119985 1563),(T (S "v") 1564)⟩,⟨119986,(I 119986 1566),(T (S "w") 1567)⟩,⟨119987,(I 119987 1569),(T (S "x") 1570)⟩,⟨119988,(I 119988 1572),(T (S "y") 1573)⟩,⟨119989,(I 119989 1575),(T (S "z") 1576)⟩,⟨120016,(I 120016 1578),(T (S "a") 1579)⟩,⟨120017,(I 120017 1581),(T (S "b") 1582)⟩,⟨120018,(I 120018 1584),(T (S "c") 1585)⟩,⟨120019,(I 120019 1587),(T (S "d") 1588)⟩,⟨120020,(I 120020 1590),(T (S "e") 1591)⟩,⟨120021,(I 120021 1593),(T (S "f") 1594)⟩,⟨120022,(I 120022 1596),(T (S "g") 1597)⟩,⟨120023,(I 120023 1599),(T (S "h") 1600)⟩,⟨120024,(I 120024 1602),(T (S "i") 1603)⟩,⟨120025,(I 120025 1605),(T (S "j") 1606)⟩,⟨120026,(I 120026 1608),(T (S "k") 1609)⟩,⟨120027,(I 120027 1611),(T (S "l") 1612)⟩,⟨120028,(I 120028 1614),(T (S "m") 1615)⟩,⟨120029,(I 120029 1617),(T (S "n") 1618)⟩,⟨120030,(I 120030 1620),(T (S "o") 1621)⟩,⟨120031,(I 120031 1623),(T (S "p") 1624)⟩,⟨120032,(I 120032 1626),(T (S "q") 1627)⟩,⟨120033,(I 120033 1629),(T (S "r") 1630)⟩,⟨120034,(I 120034 1632),(T (S "s") 1633)⟩,⟨120035,(I 120035 1635),(T (S "t") 1636)⟩,⟨120036,(I 120036 1638),(T (S "u") 1639)⟩,⟨120037,(I 120037 1641),(T (S "v") 1642)⟩,⟨120038,(I 120038 1644),(T (S "w") 1645)⟩,⟨120039,(I 120039 1647),(T (S "x") 1648)⟩,⟨120040,(I 120040 1650),(T (S "y") 1651)⟩,⟨120041,(I 120041 1653),(T (S "z") 1654)⟩,⟨120068,(I 120068 1656),(T (S "a") 1657)⟩,⟨120069,(I 120069 1659),(T (S "b") 1660)⟩,⟨120071,(I 120071 1662),(T (S "d") 1663)⟩,⟨120072,(I 120072 1665),(T (S "e") 1666)⟩,⟨120073,(I 120073 1668),(T (S "f") 1669)⟩,⟨120074,(I 120074 1671),(T (S "g") 1672)⟩,⟨120077,(I 120077 1674),(T (S "j") 1675)⟩,⟨120078,(I 120078 1677),(T (S "k") 1678)⟩,⟨120079,(I 120079 1680),(T (S "l") 1681)⟩,⟨120080,(I 120080 1683),(T (S "m") 1684)⟩,⟨120081,(I 120081 1686),(T (S "n") 1687)⟩,⟨120082,(I 120082 1689),(T (S "o") 1690)⟩,⟨120083,(I 120083 1692),(T (S "p") 1693)⟩,⟨120084,(I 120084 1695),(T (S "q") 1696)⟩,⟨120086,(I 120086 1698),(T (S "s") 1699)⟩,⟨120087,(I 120087 1701),(T (S "t") 1702)⟩,⟨120088,(I 120088 1704),(T (S "u") 1705)⟩,⟨120089,(I 120089 1707),(T (S "v") 1708)⟩,⟨120090,(I 120090 1710),(T (S "w") 1711)⟩,⟨120091,(I 120091 1713),(T (S "x") 1714)⟩,⟨120092,(I 120092 1716),(T (S "y") 1717)⟩,⟨120120,(I 120120 1719),(T (S "a") 1720)⟩,⟨120121,(I 120121 1722),(T (S "b") 1723)⟩,⟨120123,(I 120123 1725),(T (S "d") 1726)⟩,⟨120124,(I 120124 1728),(T (S "e") 1729)⟩,⟨120125,(I 120125 1731),(T (S "f") 1732)⟩,⟨120126,(I 120126 1734),(T (S "g") 1735)⟩,⟨120128,(I 120128 1737),(T (S "i") 1738)⟩,⟨120129,(I 120129 1740),(T (S "j") 1741)⟩,⟨120130,(I 120130 1743),(T (S "k") 1744)⟩,⟨120131,(I 120131 1746),(T (S "l") 1747)⟩,⟨120132,(I 120132 1749),(T (S "m") 1750)⟩,⟨120134,(I 120134 1752),(T (S "o") 1753)⟩,⟨120138,(I 120138 1755),(T (S "s") 1756)⟩,⟨120139,(I 120139 1758),(T (S "t") 1759)⟩,⟨120140,(I 120140 1761),(T (S "u") 1762)⟩,⟨120141,(I 120141 1764),(T (S "v") 1765)⟩,⟨120142,(I 120142 1767),(T (S "w") 1768)⟩,⟨120143,(I 120143 1770),(T (S "x") 1771)⟩,⟨120144,(I 120144 1773),(T (S "y") 1774)⟩,⟨120172,(I 120172 1776),(T (S "a") 1777)⟩,⟨120173,(I 120173 1779),(T (S "b") 1780)⟩,⟨120174,(I 120174 1782),(T (S "c") 1783)⟩,⟨120175,(I 120175 1785),(T (S "d") 1786)⟩,⟨120176,(I 120176 1788),(T (S "e") 1789)⟩,⟨120177,(I 120177 1791),(T (S "f") 1792)⟩,⟨120178,(I 120178 1794),(T (S "g") 1795)⟩,⟨120179,(I 120179 1797),(T (S "h") 1798)⟩,⟨120180,(I 120180 1800),(T (S "i") 1801)⟩,⟨120181,(I 120181 1803),(T (S "j") 1804)⟩,⟨120182,(I 120182 1806),(T (S "k") 1807)⟩,⟨120183,(I 120183 1809),(T (S "l") 1810)⟩,⟨120184,(I 120184 1812),(T (S "m") 1813)⟩,⟨120185,(I 120185 1815),(T (S "n") 1816)⟩,⟨120186,(I 120186 1818),(T (S "o") 1819)⟩,⟨120187,(I 120187 1821),(T (S "p") 1822)⟩,⟨120188,(I 120188 1824),(T (S "q") 1825)⟩,⟨120189,(I 120189 1827),(T (S "r") 1828)⟩,⟨120190,(I 120190 1830),(T (S "s") 1831)⟩,⟨120191,(I 120191 1833),(T (S "t") 1834)⟩,⟨120192,(I 120192 1836),(T (S "u") 1837)⟩,⟨120193,(I 120193 1839),(T (S "v") 1840)⟩,⟨120194,(I 120194 1842),(T (S "w") 1843)⟩,⟨120195,(I 120195 1845),(T (S "x") 1846)⟩,⟨120196,(I 120196 1848),(T (S "y") 1849)⟩,⟨120197,(I 120197 1851),(T (S "z") 1852)⟩,⟨120224,(I 120224 1854),(T (S "a") 1855)⟩,⟨120225,(I 120225 1857),(T (S "b") 1858)⟩,⟨120226,(I 120226 1860),(T (S "c") 1861)⟩,⟨120227,(I 120227 1863),(T (S "d") 1864)⟩,⟨120228,(I 120228 1866),(T (S "e") 1867)⟩,⟨120229,(I 120229 1869),(T (S "f") 1870)⟩,⟨120230,(I 120230 1872),(T (S "g") 1873)⟩,⟨120231,(I 120231 1875),(T (S "h") 1876)⟩,⟨120232,(I 120232 1878),(T (S "i") 1879)⟩,⟨120233,(I 120233 1881),(T (S "j") 1882)⟩,⟨120234,(I 120234 1884),(T (S "k") 1885)⟩,⟨120235,(I 120235 1887),(T (S "l") 1888)⟩,⟨120236,(I 120236 1890),(T (S "m") 1891)⟩,⟨120237,(I 120237 1893),(T (S "n") 1894)⟩,⟨120238,(I 120238 1896),(T (S "o") 1897)⟩,⟨120239,(I 120239 1899),(T (S "p") 1900)⟩,⟨120240,(I 120240 1902),(T (S "q") 1903)⟩,⟨120241,(I 120241 1905),(T (S "r") 1906)⟩,⟨120242,(I 120242 1908),(T (S "s") 1909)⟩,⟨120243,(I 120243 1911),(T (S "t") 1912)⟩,⟨120244,(I 120244 1914),(T (S "u") 1915)⟩,⟨120245,(I 120245 1917),(T (S "v") 1918)⟩,⟨120246,(I 120246 1920),(T (S "w") 1921)⟩,⟨120247,(I 120247 1923),(T (S "x") 1924)⟩,⟨120248,(I 120248 1926),(T (S "y") 1927)⟩,⟨120249,(I 120249 1929),(T (S "z") 1930)⟩,⟨120276,(I 120276 1932),(T (S "a") 1933)⟩,⟨120277,(I 120277 1935),(T (S "b") 1936)⟩,⟨120278,(I 120278 1938),(T (S "c") 1939)⟩,⟨120279,(I 120279 1941),(T (S "d") 1942)⟩,⟨120280,(I 120280 1944),(T (S "e") 1945)⟩,⟨120281,(I 120281 1947),(T (S "f") 1948)⟩,⟨120282,(I 120282 1950),(T (S "g") 1951)⟩,⟨120283,(I 120283 1953),(T (S "h") 1954)⟩,⟨120284,(I 120284 1956),(T (S "i") 1957)⟩,⟨120285,(I 120285 1959),(T (S "j") 1960)⟩,⟨120286,(I 120286 1962),(T (S "k") 1963)⟩,⟨120287,(I 120287 1965),(T (S "l") 1966)⟩,⟨120288,(I 120288 1968),(T (S "m") 1969)⟩,⟨120289,(I 120289 1971),(T (S "n") 1972)⟩,⟨120290,(I 120290 1974),(T (S "o") 1975)⟩,⟨120291,(I 120291 1977),(T (S "p") 1978)⟩,⟨120292,(I 120292 1980),(T (S "q") 1981)⟩,⟨120293,(I 120293 1983),(T (S "r") 1984)⟩,⟨120294,(I 120294 1986),(T (S "s") 1987)⟩,⟨120295,(I 120295 1989),(T (S "t") 1990)⟩,⟨120296,(I 120296 1992),(T (S "u") 1993)⟩,⟨120297,(I 120297 1995),(T (S "v") 1996)⟩,⟨120298,(I 120298 1998),(T (S "w") 1999)⟩,⟨120299,(I 120299 2001),(T (S "x") 2002)⟩,⟨120300,(I 120300 2004),(T (S "y") 2005)⟩,⟨120301,(I 120301 2007),(T (S "z") 2008)⟩,⟨120328,(I 120328 2010),(T (S "a") 2011)⟩,⟨120329,(I 120329 2013),(T (S "b") 2014)⟩,⟨120330,(I 120330 2016),(T (S "c") 2017)⟩,⟨120331,(I 120331 2019),(T (S "d") 2020)⟩,⟨120332,(I 120332 2022),(T (S "e") 2023)⟩,⟨120333,(I 120333 2025),(T (S "f") 2026)⟩,⟨120334,(I 120334 2028),(T (S "g") 2029)⟩,⟨120335,(I 120335 2031),(T (S "h") 2032)⟩,⟨120336,(I 120336 2034),(T (S "i") 2035)⟩,⟨120337,(I 120337 2037),(T (S "j") 2038)⟩,⟨120338,(I 120338 2040),(T (S "k") 2041)⟩,⟨120339,(I 120339 2043),(T (S "l") 2044)⟩,⟨120340,(I 120340 2046),(T (S "m") 2047)⟩,⟨120341,(I 120341 2049),(T (S "n") 2050)⟩,⟨120342,(I 120342 2052),(T (S "o") 2053)⟩,⟨120343,(I 120343 2055),(T (S "p") 2056)⟩,⟨120344,(I 120344 2058),(T (S "q") 2059)⟩,⟨120345,(I 120345 2061),(T (S "r") 2062)⟩,⟨120346,(I 120346 2064),(T (S "s") 2065)⟩,⟨120347,(I 120347 2067),(T (S "t") 2068)⟩,⟨120348,(I 120348 2070),(T (S "u") 2071)⟩,⟨120349,(I 120349 2073),(T (S "v") 2074)⟩,⟨120350,(I 120350 2076),(T (S "w") 2077)⟩,⟨120351,(I 120351 2079),(T (S "x") 2080)⟩,⟨120352,(I 120352 2082),(T (S "y") 2083)⟩,⟨120353,(I 120353 2085),(T (S "z") 2086)⟩,⟨120380,(I 120380 2088),(T (S "a") 2089)⟩,⟨120381,(I 120381 2091),(T (S "b") 2092)⟩,⟨120382,(I 120382 2094),(T (S "c") 2095)⟩,⟨120383,(I 120383 2097),(T (S "d") 2098)⟩,⟨120384,(I 120384 2100),(T (S "e") 2101)⟩,⟨120385,(I 120385 2103),(T (S "f") 2104)⟩,⟨120386,(I 120386 2106),(T (S "g") 2107)⟩,⟨120387,(I 120387 2109),(T (S "h") 2110)⟩,⟨120388,(I 120388 2112),(T (S "i") 2113)⟩,⟨120389,(I 120389 2115),(T (S "j") 2116)⟩,⟨120390,(I 120390 2118),(T (S "k") 2119)⟩,⟨120391,(I 120391 2121),(T (S "l") 2122)⟩,⟨120392,(I 120392 2124),(T (S "m") 2125)⟩,⟨120393,(I 120393 2127),(T (S "n") 2128)⟩,⟨120394,(I 120394 2130),(T (S "o") 2131)⟩,⟨120395,(I 120395 2133),(T (S "p") 2134)⟩,⟨120396,(I 120396 2136),(T (S "q") 2137)⟩,⟨120397,(I 120397 2139),(T (S "r") 2140)⟩,⟨120398,(I 120398 2142),(T (S "s") 2143)⟩,⟨120399,(I 120399 2145),(T (S "t") 2146)⟩,⟨120400,(I 120400 2148),(T (S "u") 2149)⟩,⟨120401,(I 120401 2151),(T (S "v") 2152)⟩,⟨120402,(I 120402 2154),(T (S "w") 2155)⟩,⟨120403,(I 120403 2157),(T (S "x") 2158)⟩,⟨120404,(I 120404 2160),(T (S "y") 2161)⟩,⟨120405,(I 120405 2163),(T (S "z") 2164)⟩,⟨120432,(I 120432 2166),(T (S "a") 2167)⟩,⟨120433,(I 120433 2169),(T (S "b") 2170)⟩,⟨120434,(I 120434 2172),(T (S "c") 2173)⟩,⟨120435,(I 120435 2175),(T (S "d") 2176)⟩,⟨120436,(I 120436 2178),(T (S "e") 2179)⟩,⟨120437,(I 120437 2181),(T (S "f") 2182)⟩,⟨120438,(I 120438 2184),(T (S "g") 2185)⟩,⟨120439,(I 120439 2187),(T (S "h") 2188)⟩,⟨120440,(I 120440 2190),(T (S "i") 2191)⟩,⟨120441,(I 120441 2193),(T (S "j") 2194)⟩,⟨120442,(I 120442 2196),(T (S "k") 2197)⟩,⟨120443,(I 120443 2199),(T (S "l") 2200)⟩,⟨120444,(I 120444 2202),(T (S "m") 2203)⟩,⟨120445,(I 120445 2205),(T (S "n") 2206)⟩,⟨120446,(I 120446 2208),(T (S "o") 2209)⟩,⟨120447,(I 120447 2211),(T (S "p") 2212)⟩,⟨120448,(I 120448 2214),(T (S "q") 2215)⟩,⟨120449,(I 120449 2217),(T (S "r") 2218)⟩,⟨120450,(I 120450 2220),(T (S "s") 2221)⟩,⟨120451,(I 120451 2223),(T (S "t") 2224)⟩,⟨120452,(I 120452 2226),(T (S "u") 2227)⟩,⟨120453,(I 120453 2229),(T (S "v") 2230)⟩,⟨120454,(I 120454 2232),(T (S "w") 2233)⟩,⟨120455,(I 120455 2235),(T (S "x") 2236)⟩,⟨120456,(I 120456 2238),(T (S "y") 2239)⟩,⟨120457,(I 120457 2241),(T (S "z") 2242)⟩,⟨120488,(I 120488 2244),(T (S "α") 2245)⟩,⟨120489,(I 120489 2247),(T (S "β") 2248)⟩,⟨120490,(I 120490 2250),(T (S "γ") 2251)⟩,⟨120491,(I 120491 2253),(T (S "δ") 2254)⟩,⟨120492,(I 120492 2256),(T (S "ε") 2257)⟩,⟨120493,(I 120493 2259),(T (S "ζ") 2260)⟩,⟨120494,(I 120494 2262),(T (S "η") 2263)⟩,⟨120495,(I 120495 2265),(T (S "θ") 2266)⟩,⟨120496,(I 120496 2268),(T (S "ι") 2269)⟩,⟨120497,(I 120497 2271),(T (S "κ") 2272)⟩,⟨120498,(I 120498 2274),(T (S "λ") 2275)⟩,⟨120499,(I 120499 2277),(T (S "μ") 2278)⟩,⟨120500,(I 120500 2280),(T (S "ν") 2281)⟩,⟨120501,(I 120501 2283),(T (S "ξ") 2284)⟩,⟨120502,(I 120502 2286),(T (S "ο") 2287)⟩,⟨120503,(I 120503 2289),(T (S "π") 2290)⟩,⟨120504,(I 120504 2292),(T (S "ρ") 2293)⟩,⟨120505,(I 120505 2295),(T (S "θ") 2296)⟩,⟨120506,(I 120506 2298),(T (S "σ") 2299)⟩,⟨120507,(I 120507 2301),(T (S "τ") 2302)⟩,⟨120508,(I 120508 2304),(T (S "υ") 2305)⟩,⟨120509,(I 120509 2307),(T (S "φ") 2308)⟩,⟨120510,(I 120510 2310),(T (S "χ") 2311)⟩,⟨120511,(I 120511 2313),(T (S "ψ") 2314)⟩,⟨120512,(I 120512 2316),(T (S "ω") 2317)⟩,⟨120531,(I 120531 2319),(T (S "σ") 2320)⟩,⟨120546,(I 120546 2322),(T (S "α") 2323)⟩,⟨120547,(I 120547 2325),(T (S "β") 2326)⟩,⟨120548,(I 120548 2328),(T (S "γ") 2329)⟩,⟨120549,(I 120549 2331),(T (S "δ") 2332)⟩,⟨120550,(I 120550 2334),(T (S "ε") 2335)⟩,⟨120551,(I 120551 2337),(T (S "ζ") 2338)⟩,⟨120552,(I 120552 2340),(T (S "η") 2341)⟩,⟨120553,(I 120553 2343),(T (S "θ") 2344)⟩,⟨120554,(I 120554 2346),(T (S "ι") 2347)⟩,⟨120555,(I 120555 2349),(T (S "κ") 2350)⟩,⟨120556,(I 120556 2352),(T (S "λ") 2353)⟩,⟨120557,(I 120557 2355),(T (S "μ") 2356)⟩,⟨120558,(I 120558 2358),(T (S "ν") 2359)⟩,⟨120559,(I 120559 2361),(T (S "ξ") 2362)⟩,⟨120560,(I 120560 2364),(T (S "ο") 2365)⟩,⟨120561,(I 120561 2367),(T (S "π") 2368)⟩,⟨120562,(I 120562 2370),(T (S "ρ") 2371)⟩,⟨120563,(I 120563 2373),(T (S "θ") 2374)⟩,⟨120564,(I 120564 2376),(T (S "σ") 2377)⟩,⟨120565,(I 120565 2379),(T (S "τ") 2380)⟩,⟨120566,(I 120566 2382),(T (S "υ") 2383)⟩,⟨120567,(I 120567 2385),(T (S "φ") 2386)⟩,⟨120568,(I 120568 2388),(T (S "χ") 2389)⟩,⟨120569,(I 120569 2391),(T (S "ψ") 2392)⟩,⟨120570,(I 120570 2394),(T (S "ω") 2395)⟩,⟨120589,(I 120589 2397),(T (S "σ") 2398)⟩,⟨120604,(I 120604 2400),(T (S "α") 2401)⟩,⟨120605,(I 120605 2403),(T (S "β") 2404)⟩,⟨120606,(I 120606 2406),(T (S "γ") 2407)⟩,⟨120607,(I 120607 2409),(T (S "δ") 2410)⟩,⟨120608,(I 120608 2412),(T (S "ε") 2413)⟩,⟨120609,(I 120609 2415),(T (S "ζ") 2416)⟩,⟨120610,(I 120610 2418),(T (S "η") 2419)⟩,⟨120611,(I 120611 2421),(T (S "θ") 2422)⟩,⟨120612,(I 120612 2424),(T (S "ι") 2425)⟩,⟨120613,(I 120613 2427),(T (S "κ") 2428)⟩,⟨120614,(I 120614 2430),(T (S "λ") 2431)⟩,⟨120615,(I 120615 2433),(T (S "μ") 2434)⟩,⟨120616,(I 120616 2436),(T (S "ν") 2437)⟩,⟨120617,(I 120617 2439),(T (S "ξ") 2440)⟩,⟨120618,(I 120618 2442),(T (S "ο") 2443)⟩,⟨120619,(I 120619 2445),(T (S "π") 2446)⟩,⟨120620,(I 120620 2448),(T (S "ρ") 2449)⟩,⟨120621,(I 120621 2451),(T (S "θ") 2452)⟩,⟨120622,(I 120622 2454),(T (S "σ") 2455)⟩,⟨120623,(I 120623 2457),(T (S "τ") 2458)⟩,⟨120624,(I 120624 2460),(T (S "υ") 2461)⟩,⟨120625,(I 120625 2463),(T (S "φ") 2464)⟩,⟨120626,(I 120626 2466),(T (S "χ") 2467)⟩,⟨120627,(I 120627 2469),(T (S "ψ") 2470)⟩,⟨120628,(I 120628 2472),(T (S "ω") 2473)⟩,⟨120647,(I 120647 2475),(T (S "σ") 2476)⟩,⟨120662,(I 120662 2478),(T (S "α") 2479)⟩,⟨120663,(I 120663 2481),(T (S "β") 2482)⟩,⟨120664,(I 120664 2484),(T (S "γ") 2485)⟩,⟨120665,(I 120665 2487),(T (S "δ") 2488)⟩,⟨120666,(I 120666 2490),(T (S "ε") 2491)⟩,⟨120667,(I 120667 2493),(T (S "ζ") 2494)⟩,⟨120668,(I 120668 2496),(T (S "η") 2497)⟩,⟨120669,(I 120669 2499),(T (S "θ") 2500)⟩,⟨120670,(I 120670 2502),(T (S "ι") 2503)⟩,⟨120671,(I 120671 2505),(T (S "κ") 2506)⟩,⟨120672,(I 120672 2508),(T (S "λ") 2509)⟩,⟨120673,(I 120673 2511),(T (S "μ") 2512)⟩,⟨120674,(I 120674 2514),(T (S "ν") 2515)⟩,⟨120675,(I 120675 2517),(T (S "ξ") 2518)⟩,⟨120676,(I 120676 2520),(T (S "ο") 2521)⟩,⟨120677,(I 120677 2523),(T (S "π") 2524)⟩,⟨120678,(I 120678 2526),(T (S "ρ") 2527)⟩,⟨120679,(I 120679 2529),(T (S "θ") 2530)⟩,⟨120680,(I 120680 2532),(T (S "σ") 2533)⟩,⟨120681,(I 120681 2535),(T (S "τ") 2536)⟩,⟨120682,(I 120682 2538),(T (S "υ") 2539)⟩,⟨120683,(I 120683 2541),(T (S "φ") 2542)⟩,⟨120684,(I 120684 2544),(T (S "χ") 2545)⟩,⟨120685,(I 120685 2547),(T (S "ψ") 2548)⟩,⟨120686,(I 120686 2550),(T (S "ω") 2551)⟩,⟨120705,(I 120705 2553),(T (S "σ") 2554)⟩,⟨120720,(I 120720 2556),(T (S "α") 2557)⟩,⟨120721,(I 120721 2559),(T (S "β") 2560)⟩,⟨120722,(I 120722 2562),(T (S "γ") 2563)⟩,⟨120723,(I 120723 2565),(T (S "δ") 2566)⟩,⟨120724,(I 120724 2568),(T (S "ε") 2569)⟩,⟨120725,(I 120725 2571),(T (S "ζ") 2572)⟩,⟨120726,(I 120726 2574),(T (S "η") 2575)⟩,⟨120727,(I 120727 2577),(T (S "θ") 2578)⟩,⟨120728,(I 120728 2580),(T (S "ι") 2581)⟩,⟨120729,(I 120729 2583),(T (S "κ") 2584)⟩,⟨120730,(I 120730 2586),(T (S "λ") 2587)⟩,⟨120731,(I 120731 2589),(T (S "μ") 2590)⟩,⟨120732,(I 120732 2592),(T (S "ν") 2593)⟩,⟨120733,(I 120733 2595),(T (S "ξ") 2596)⟩,⟨120734,(I 120734 2598),(T (S "ο") 2599)⟩,⟨120735,(I 120735 2601),(T (S "π") 2602)⟩,⟨120736,(I 120736 2604),(T (S "ρ") 2605)⟩,⟨120737,(I 120737 2607),(T (S "θ") 2608)⟩,⟨120738,(I 120738 2610),(T (S "σ") 2611)⟩,⟨120739,(I 120739 2613),(T (S "τ") 2614)⟩,⟨120740,(I 120740 2616),(T (S "υ") 2617)⟩,⟨120741,(I 120741 2619),(T (S "φ") 2620)⟩,⟨120742,(I 120742 2622),(T (S "χ") 2623)⟩,⟨120743,(I 120743 2624),(T (S "ψ") 2625)⟩,⟨120744,(I 120744 2626),(T (S "ω") 2627)⟩,⟨120763,(I 120763 2628),(T (S "σ") 2629)⟩]) 650),#[]⟩
def zDx (b:Bool)(P:Params):Obj:=⟨(Y "dict"),none,(Data.dict (List.toArray [⟨982,(I 982 735),(T (S "π") 736)⟩,⟨1008,(I 1008 738),(T (S "κ") 739)⟩,⟨1009,(I 1009 741),(T (S "ρ") 742)⟩,⟨1010,(I 1010 744),(T (S "σ") 745)⟩,⟨1013,(I 1013 747),(T (S "ε") 748)⟩,⟨1415,(I 1415 750),(T (S "եւ") 751)⟩,⟨7830,(I 7830 753),(T (S "ẖ") 754)⟩,⟨7831,(I 7831 756),(T (S "ẗ") 757)⟩,⟨7832,(I 7832 759),(T (S "ẘ") 760)⟩,⟨7833,(I 7833 762),(T (S "ẙ") 763)⟩,⟨7834,(I 7834 765),(T (S "aʾ") 766)⟩,⟨7835,(I 7835 768),(T (S "ṡ") 769)⟩,⟨8016,(I 8016 771),(T (S "ὐ") 772)⟩,⟨8018,(I 8018 774),(T (S "ὒ") 775)⟩,⟨8020,(I 8020 777),(T (S "ὔ") 778)⟩,⟨8022,(I 8022 780),(T (S "ὖ") 781)⟩,⟨8064,(I 8064 783),(T (S "ἀι") 784)⟩]) 17),#[]⟩
def zDm (b:Bool)(P:Params):Obj:=⟨(Y "dict"),none,(Data.dict (List.toArray [⟨8065,(I 8065 786),(T (S "ἁι") 787)⟩,⟨8066,(I 8066 789),(T (S "ἂι") 790)⟩,⟨8067,(I 8067 792),(T (S "ἃι") 793)⟩,⟨8068,(I 8068 795),(T (S "ἄι") 796)⟩,⟨8069,(I 8069 798),(T (S "ἅι") 799)⟩,⟨8070,(I 8070 801),(T (S "ἆι") 802)⟩,⟨8071,(I 8071 804),(T (S "ἇι") 805)⟩,⟨8072,(I 8072 807),(T (S "ἀι") 808)⟩,⟨8073,(I 8073 810),(T (S "ἁι") 811)⟩,⟨8074,(I 8074 813),(T (S "ἂι") 814)⟩,⟨8075,(I 8075 816),(T (S "ἃι") 817)⟩,⟨8076,(I 8076 819),(T (S "ἄι") 820)⟩,⟨8077,(I 8077 822),(T (S "ἅι") 823)⟩,⟨8078,(I 8078 825),(T (S "ἆι") 826)⟩,⟨8079,(I 8079 828),(T (S "ἇι") 829)⟩,⟨8080,(I 8080 831),(T (S "ἠι") 832)⟩,⟨8081,(I 8081 834),(T (S "ἡι") 835)⟩]) 17),#[]⟩
def zDQ (b:Bool)(P:Params):Obj:=⟨(Y "dict"),none,(Data.dict (List.toArray [⟨8082,(I 8082 837),(T (S "ἢι") 838)⟩,⟨8083,(I 8083 840),(T (S "ἣι") 841)⟩,⟨8084,(I 8084 843),(T (S "ἤι") 844)⟩,⟨8085,(I 8085 846),(T (S "ἥι") 847)⟩,⟨8086,(I 8086 849),(T (S "ἦι") 850)⟩,⟨8087,(I 8087 852),(T (S "ἧι") 853)⟩,⟨8088,(I 8088 855),(T (S "ἠι") 856)⟩,⟨8089,(I 8089 858),(T (S "ἡι") 859)⟩,⟨8090,(I 8090 861),(T (S "ἢι") 862)⟩,⟨8091,(I 8091 864),(T (S "ἣι") 865)⟩,⟨8092,(I 8092 867),(T (S "ἤι") 868)⟩,⟨8093,(I 8093 870),(T (S "ἥι") 871)⟩,⟨8094,(I 8094 873),(T (S "ἦι") 874)⟩,⟨8095,(I 8095 876),(T (S "ἧι") 877)⟩,⟨8096,(I 8096 879),(T (S "ὠι") 880)⟩,⟨8097,(I 8097 882),(T (S "ὡι") 883)⟩,⟨8098,(I 8098 885),(T (S "ὢι") 886)⟩]) 17),#[]⟩
def zC1 (b:Bool)(P:Params):Obj:=⟨(Y "dict"),none,(Data.dict (List.toArray [⟨8099,(I 8099 888),(T (S "ὣι") 889)⟩,⟨8100,(I 8100 891),(T (S "ὤι") 892)⟩,⟨8101,(I 8101 894),(T (S "ὥι") 895)⟩,⟨8102,(I 8102 897),(T (S "ὦι") 898)⟩,⟨8103,(I 8103 900),(T (S "ὧι") 901)⟩,⟨8104,(I 8104 903),(T (S "ὠι") 904)⟩,⟨8105,(I 8105 906),(T (S "ὡι") 907)⟩,⟨8106,(I 8106 909),(T (S "ὢι") 910)⟩,⟨8107,(I 8107 912),(T (S "ὣι") 913)⟩,⟨8108,(I 8108 915),(T (S "ὤι") 916)⟩,⟨8109,(I 8109 918),(T (S "ὥι") 919)⟩,⟨8110,(I 8110 921),(T (S "ὦι") 922)⟩,⟨8111,(I 8111 924),(T (S "ὧι") 925)⟩,⟨8114,(I 8114 927),(T (S "ὰι") 928)⟩,⟨8115,(I 8115 930),(T (S "αι") 931)⟩,⟨8116,(I 8116 933),(T (S "άι") 934)⟩,⟨8118,(I 8118 936),(T (S "ᾶ") 937)⟩]) 17),#[]⟩
def zDT (b:Bool)(P:Params):Obj:=⟨(Y "dict"),none,(Data.dict (List.toArray [⟨8119,(I 8119 939),(T (S "ᾶι") 940)⟩,⟨8124,(I 8124 942),(T (S "αι") 943)⟩,⟨8126,(I 8126 945),(T (S "ι") 946)⟩,⟨8130,(I 8130 948),(T (S "ὴι") 949)⟩,⟨8131,(I 8131 951),(T (S "ηι") 952)⟩,⟨8132,(I 8132 954),(T (S "ήι") 955)⟩,⟨8134,(I 8134 957),(T (S "ῆ") 958)⟩,⟨8135,(I 8135 960),(T (S "ῆι") 961)⟩,⟨8140,(I 8140 963),(T (S "ηι") 964)⟩,⟨8146,(I 8146 966),(T (S "ῒ") 967)⟩,⟨8147,(I 8147 969),(T (S "ΐ") 970)⟩,⟨8150,(I 8150 972),(T (S "ῖ") 973)⟩,⟨8151,(I 8151 975),(T (S "ῗ") 976)⟩,⟨8162,(I 8162 978),(T (S "ῢ") 979)⟩,⟨8163,(I 8163 981),(T (S "ΰ") 982)⟩,⟨8164,(I 8164 984),(T (S "ῤ") 985)⟩,⟨8166,(I 8166 987),(T (S "ῦ") 988)⟩]) 17),#[]⟩
def zDe (b:Bool)(P:Params):Obj:=⟨(Y "dict"),none,(Data.dict (List.toArray [⟨8167,(I 8167 990),(T (S "ῧ") 991)⟩,⟨8178,(I 8178 993),(T (S "ὼι") 994)⟩,⟨8179,(I 8179 996),(T (S "ωι") 997)⟩,⟨8180,(I 8180 999),(T (S "ώι") 1000)⟩,⟨8182,(I 8182 1002),(T (S "ῶ") 1003)⟩,⟨8183,(I 8183 1005),(T (S "ῶι") 1006)⟩,⟨8188,(I 8188 1008),(T (S "ωι") 1009)⟩,⟨8360,(I 8360 1011),(T (S "rs") 1012)⟩,⟨8450,(I 8450 1014),(T (S "c") 1015)⟩,⟨8451,(I 8451 1017),(T (S "°c") 1018)⟩,⟨8455,(I 8455 1020),(T (S "ɛ") 1021)⟩,⟨8457,(I 8457 1023),(T (S "°f") 1024)⟩,⟨8459,(I 8459 1026),(T (S "h") 1027)⟩,⟨8460,(I 8460 1029),(T (S "h") 1030)⟩,⟨8461,(I 8461 1032),(T (S "h") 1033)⟩,⟨8464,(I 8464 1035),(T (S "i") 1036)⟩,⟨8465,(I 8465 1038),(T (S "i") 1039)⟩]) 17),#[]⟩
def zDD (b:Bool)(P:Params):Obj:=⟨(Y "dict"),none,(Data.dict (List.toArray [⟨8466,(I 8466 1041),(T (S "l") 1042)⟩,⟨8469,(I 8469 1044),(T (S "n") 1045)⟩,⟨8470,(I 8470 1047),(T (S "no") 1048)⟩,⟨8473,(I 8473 1050),(T (S "p") 1051)⟩,⟨8474,(I 8474 1053),(T (S "q") 1054)⟩,⟨8475,(I 8475 1056),(T (S "r") 1057)⟩,⟨8476,(I 8476 1059),(T (S "r") 1060)⟩,⟨8477,(I 8477 1062),(T (S "r") 1063)⟩,⟨8480,(I 8480 1065),(T (S "sm") 1066)⟩,⟨8481,(I 8481 1068),(T (S "tel") 1069)⟩,⟨8482,(I 8482 1071),(T (S "tm") 1072)⟩,⟨8484,(I 8484 1074),(T (S "z") 1075)⟩,⟨8488,(I 8488 1077),(T (S "z") 1078)⟩,⟨8492,(I 8492 1080),(T (S "b") 1081)⟩,⟨8493,(I 8493 1083),(T (S "c") 1084)⟩,⟨8496,(I 8496 1086),(T (S "e") 1087)⟩,⟨8497,(I 8497 1089),(T (S "f") 1090)⟩]) 17),#[]⟩
def zDa (b:Bool)(P:Params):Obj:=⟨(Y "dict"),none,(Data.dict (List.toArray [⟨8499,(I 8499 1092),(T (S "m") 1093)⟩,⟨8510,(I 8510 1095),(T (S "γ") 1096)⟩,⟨8511,(I 8511 1098),(T (S "π") 1099)⟩,⟨8517,(I 8517 1101),(T (S "d") 1102)⟩,⟨13169,(I 13169 1104),(T (S "hpa") 1105)⟩,⟨13171,(I 13171 1107),(T (S "au") 1108)⟩,⟨13173,(I 13173 1110),(T (S "ov") 1111)⟩,⟨13184,(I 13184 1113),(T (S "pa") 1114)⟩,⟨13185,(I 13185 1116),(T (S "na") 1117)⟩,⟨13186,(I 13186 1119),(T (S "μa") 1120)⟩,⟨13187,(I 13187 1122),(T (S "ma") 1123)⟩,⟨13188,(I 13188 1125),(T (S "ka") 1126)⟩,⟨13189,(I 13189 1128),(T (S "kb") 1129)⟩,⟨13190,(I 13190 1131),(T (S "mb") 1132)⟩,⟨13191,(I 13191 1134),(T (S "gb") 1135)⟩,⟨13194,(I 13194 1137),(T (S "pf") 1138)⟩,⟨13195,(I 13195 1140),(T (S "nf") 1141)⟩]) 17),#[]⟩
def zEc (b:Bool)(P:Params):Obj:=⟨(Y "dict"),none,(Data.dict (List.toArray [⟨13196,(I 13196 1143),(T (S "μf") 1144)⟩,⟨13200,(I 13200 1146),(T (S "hz") 1147)⟩,⟨13201,(I 13201 1149),(T (S "khz") 1150)⟩,⟨13202,(I 13202 1152),(T (S "mhz") 1153)⟩,⟨13203,(I 13203 1155),(T (S "ghz") 1156)⟩,⟨13204,(I 13204 1158),(T (S "thz") 1159)⟩,⟨13225,(I 13225 1161),(T (S "pa") 1162)⟩,⟨13226,(I 13226 1164),(T (S "kpa") 1165)⟩,⟨13227,(I 13227 1167),(T (S "mpa") 1168)⟩,⟨13228,(I 13228 1170),(T (S "gpa") 1171)⟩,⟨13236,(I 13236 1173),(T (S "pv") 1174)⟩,⟨13237,(I 13237 1176),(T (S "nv") 1177)⟩,⟨13238,(I 13238 1179),(T (S "μv") 1180)⟩,⟨13239,(I 13239 1182),(T (S "mv") 1183)⟩,⟨13240,(I 13240 1185),(T (S "kv") 1186)⟩,⟨13241,(I 13241 1188),(T (S "mv") 1189)⟩,⟨13242,(I 13242 1191),(T (S "pw") 1192)⟩]) 17),#[]⟩
def zDA (b:Bool)(P:Params):Obj:=⟨(Y "dict"),none,(Data.dict (List.toArray [⟨13243,(I 13243 1194),(T (S "nw") 1195)⟩,⟨13244,(I 13244 1197),(T (S "μw") 1198)⟩,⟨13245,(I 13245 1200),(T (S "mw") 1201)⟩,⟨13246,(I 13246 1203),(T (S "kw") 1204)⟩,⟨13247,(I 13247 1206),(T (S "mw") 1207)⟩,⟨13248,(I 13248 1209),(T (S "kω") 1210)⟩,⟨13249,(I 13249 1212),(T (S "mω") 1213)⟩,⟨13251,(I 13251 1215),(T (S "bq") 1216)⟩,⟨13254,(I 13254 1218),(T (S "c∕kg") 1219)⟩,⟨13255,(I 13255 1221),(T (S "co.") 1222)⟩,⟨13256,(I 13256 1224),(T (S "db") 1225)⟩,⟨13257,(I 13257 1227),(T (S "gy") 1228)⟩,⟨13259,(I 13259 1230),(T (S "hp") 1231)⟩,⟨13261,(I 13261 1233),(T (S "kk") 1234)⟩,⟨13262,(I 13262 1236),(T (S "km") 1237)⟩,⟨13271,(I 13271 1239),(T (S "ph") 1240)⟩,⟨13273,(I 13273 1242),(T (S "ppm") 1243)⟩]) 17),#[]⟩
def zCV (b:Bool)(P:Params):Obj:=⟨(Y "dict"),none,(Data.dict (List.toArray [⟨13274,(I 13274 1245),(T (S "pr") 1246)⟩,⟨13276,(I 13276 1248),(T (S "sv") 1249)⟩,⟨13277,(I 13277 1251),(T (S "wb") 1252)⟩,⟨64256,(I 64256 1254),(T (S "ff") 1255)⟩,⟨64257,(I 64257 1257),(T (S "fi") 1258)⟩,⟨64258,(I 64258 1260),(T (S "fl") 1261)⟩,⟨64259,(I 64259 1263),(T (S "ffi") 1264)⟩,⟨64260,(I 64260 1266),(T (S "ffl") 1267)⟩,⟨64261,(I 64261 1269),(T (S "st") 1270)⟩,⟨64262,(I 64262 1272),(T (S "st") 1273)⟩,⟨64275,(I 64275 1275),(T (S "մն") 1276)⟩,⟨64276,(I 64276 1278),(T (S "մե") 1279)⟩,⟨64277,(I 64277 1281),(T (S "մի") 1282)⟩,⟨64278,(I 64278 1284),(T (S "վն") 1285)⟩,⟨64279,(I 64279 1287),(T (S "մխ") 1288)⟩,⟨119808,(I 119808 1290),(T (S "a") 1291)⟩,⟨119809,(I 119809 1293),(T (S "b") 1294)⟩]) 17),#[]⟩
def zDy (b:Bool)(P:Params):Obj:=⟨(Y "dict"),none,(Data.dict (List.toArray [⟨119810,(I 119810 1296),(T (S "c") 1297)⟩,⟨119811,(I 119811 1299),(T (S "d") 1300)⟩,⟨119812,(I 119812 1302),(T (S "e") 1303)⟩,⟨119813,(I 119813 1305),(T (S "f") 1306)⟩,⟨119814,(I 119814 1308),(T (S "g") 1309)⟩,⟨119815,(I 119815 1311),(T (S "h") 1312)⟩,⟨119816,(I 119816 1314),(T (S "i") 1315)⟩,⟨119817,(I 119817 1317),(T (S "j") 1318)⟩,⟨119818,(I 119818 1320),(T (S "k") 1321)⟩,⟨119819,(I 119819 1323),(T (S "l") 1324)⟩,⟨119820,(I 119820 1326),(T (S "m") 1327)⟩,⟨119821,(I 119821 1329),(T (S "n") 1330)⟩,⟨119822,(I 119822 1332),(T (S "o") 1333)⟩,⟨119823,(I 119823 1335),(T (S "p") 1336)⟩,⟨119824,(I 119824 1338),(T (S "q") 1339)⟩,⟨119825,(I 119825 1341),(T (S "r") 1342)⟩,⟨119826,(I 119826 1344),(T (S "s") 1345)⟩]) 17),#[]⟩
def zDI (b:Bool)(P:Params):Obj:=⟨(Y "dict"),none,(Data.dict (List.toArray [⟨119827,(I 119827 1347),(T (S "t") 1348)⟩,⟨119828,(I 119828 1350),(T (S "u") 1351)⟩,⟨119829,(I 119829 1353),(T (S "v") 1354)⟩,⟨119830,(I 119830 1356),(T (S "w") 1357)⟩,⟨119831,(I 119831 1359),(T (S "x") 1360)⟩,⟨119832,(I 119832 1362),(T (S "y") 1363)⟩,⟨119833,(I 119833 1365),(T (S "z") 1366)⟩,⟨119860,(I 119860 1368),(T (S "a") 1369)⟩,⟨119861,(I 119861 1371),(T (S "b") 1372)⟩,⟨119862,(I 119862 1374),(T (S "c") 1375)⟩,⟨119863,(I 119863 1377),(T (S "d") 1378)⟩,⟨119864,(I 119864 1380),(T (S "e") 1381)⟩,⟨119865,(I 119865 1383),(T (S "f") 1384)⟩,⟨119866,(I 119866 1386),(T (S "g") 1387)⟩,⟨119867,(I 119867 1389),(T (S "h") 1390)⟩,⟨119868,(I 119868 1392),(T (S "i") 1393)⟩,⟨119869,(I 119869 1395),(T (S "j") 1396)⟩]) 17),#[]⟩
def zCM (b:Bool)(P:Params):Obj:=⟨(Y "dict"),none,(Data.dict (List.toArray [⟨119870,(I 119870 1398),(T (S "k") 1399)⟩,⟨119871,(I 119871 1401),(T (S "l") 1402)⟩,⟨119872,(I 119872 1404),(T (S "m") 1405)⟩,⟨119873,(I 119873 1407),(T (S "n") 1408)⟩,⟨119874,(I 119874 1410),(T (S "o") 1411)⟩,⟨119875,(I 119875 1413),(T (S "p") 1414)⟩,⟨119876,(I 119876 1416),(T (S "q") 1417)⟩,⟨119877,(I 119877 1419),(T (S "r") 1420)⟩,⟨119878,(I 119878 1422),(T (S "s") 1423)⟩,⟨119879,(I 119879 1425),(T (S "t") 1426)⟩,⟨119880,(I 119880 1428),(T (S "u") 1429)⟩,⟨119881,(I 119881 1431),(T (S "v") 1432)⟩,⟨119882,(I 119882 1434),(T (S "w") 1435)⟩,⟨119883,(I 119883 1437),(T (S "x") 1438)⟩,⟨119884,(I 119884 1440),(T (S "y") 1441)⟩,⟨119885,(I 119885 1443),(T (S "z") 1444)⟩,⟨119912,(I 119912 1446),(T (S "a") 1447)⟩]) 17),#[]⟩
def zC3 (b:Bool)(P:Params):Obj:=⟨(Y "dict"),none,(Data.dict (List.toArray [⟨119913,(I 119913 1449),(T (S "b") 1450)⟩,⟨119914,(I 119914 1452),(T (S "c") 1453)⟩,⟨119915,(I 119915 1455),(T (S "d") 1456)⟩,⟨119916,(I 119916 1458),(T (S "e") 1459)⟩,⟨119917,(I 119917 1461),(T (S "f") 1462)⟩,⟨119918,(I 119918 1464),(T (S "g") 1465)⟩,⟨119919,(I 119919 1467),(T (S "h") 1468)⟩,⟨119920,(I 119920 1470),(T (S "i") 1471)⟩,⟨119921,(I 119921 1473),(T (S "j") 1474)⟩,⟨119922,(I 119922 1476),(T (S "k") 1477)⟩,⟨119923,(I 119923 1479),(T (S "l") 1480)⟩,⟨119924,(I 119924 1482),(T (S "m") 1483)⟩,⟨119925,(I 119925 1485),(T (S "n") 1486)⟩,⟨119926,(I 119926 1488),(T (S "o") 1489)⟩,⟨119927,(I 119927 1491),(T (S "p") 1492)⟩,⟨119928,(I 119928 1494),(T (S "q") 1495)⟩,⟨119929,(I 119929 1497),(T (S "r") 1498)⟩]) 17),#[]⟩
def zDr (b:Bool)(P:Params):Obj:=⟨(Y "dict"),none,(Data.dict (List.toArray [⟨119930,(I 119930 1500),(T (S "s") 1501)⟩,⟨119931,(I 119931 1503),(T (S "t") 1504)⟩,⟨119932,(I 119932 1506),(T (S "u") 1507)⟩,⟨119933,(I 119933 1509),(T (S "v") 1510)⟩,⟨119934,(I 119934 1512),(T (S "w") 1513)⟩,⟨119935,(I 119935 1515),(T (S "x") 1516)⟩,⟨119936,(I 119936 1518),(T (S "y") 1519)⟩,⟨119937,(I 119937 1521),(T (S "z") 1522)⟩,⟨119964,(I 119964 1524),(T (S "a") 1525)⟩,⟨119966,(I 119966 1527),(T (S "c") 1528)⟩,⟨119967,(I 119967 1530),(T (S "d") 1531)⟩,⟨119970,(I 119970 1533),(T (S "g") 1534)⟩,⟨119973,(I 119973 1536),(T (S "j") 1537)⟩,⟨119974,(I 119974 1539),(T (S "k") 1540)⟩,⟨119977,(I 119977 1542),(T (S "n") 1543)⟩,⟨119978,(I 119978 1545),(T (S "o") 1546)⟩,⟨119979,(I 119979 1548),(T (S "p") 1549)⟩]) 17),#[]⟩
def zCz (b:Bool)(P:Params):Obj:=⟨(Y "dict"),none,(Data.dict (List.toArray [⟨119980,(I 119980 1551),(T (S "q") 1552)⟩,⟨119982,(I 119982 1554),(T (S "s") 1555)⟩,⟨119983,(I 119983 1557),(T (S "t") 1558)⟩,⟨119984,(I 119984 1560),(T (S "u") 1561)⟩,⟨119985,(I 119985 1563),(T (S "v") 1564)⟩,⟨119986,(I 119986 1566),(T (S "w") 1567)⟩,⟨119987,(I 119987 1569),(T (S "x") 1570)⟩,⟨119988,(I 119988 1572),(T (S "y") 1573)⟩,⟨119989,(I 119989 1575),(T (S "z") 1576)⟩,⟨120016,(I 120016 1578),(T (S "a") 1579)⟩,⟨120017,(I 120017 1581),(T (S "b") 1582)⟩,⟨120018,(I 120018 1584),(T (S "c") 1585)⟩,⟨120019,(I 120019 1587),(T (S "d") 1588)⟩,⟨120020,(I 120020 1590),(T (S "e") 1591)⟩,⟨120021,(I 120021 1593),(T (S "f") 1594)⟩,⟨120022,(I 120022 1596),(T (S "g") 1597)⟩,⟨120023,(I 120023 1599),(T (S "h") 1600)⟩]) 17),#[]⟩
def zEg (b:Bool)(P:Params):Obj:=⟨(Y "dict"),none,(Data.dict (List.toArray [⟨120024,(I 120024 1602),(T (S "i") 1603)⟩,⟨120025,(I 120025 1605),(T (S "j") 1606)⟩,⟨120026,(I 120026 1608),(T (S "k") 1609)⟩,⟨120027,(I 120027 1611),(T (S "l") 1612)⟩,⟨120028,(I 120028 1614),(T (S "m") 1615)⟩,⟨120029,(I 120029 1617),(T (S "n") 1618)⟩,⟨120030,(I 120030 1620),(T (S "o") 1621)⟩,⟨120031,(I 120031 1623),(T (S "p") 1624)⟩,⟨120032,(I 120032 1626),(T (S "q") 1627)⟩,⟨120033,(I 120033 1629),(T (S "r") 1630)⟩,⟨120034,(I 120034 1632),(T (S "s") 1633)⟩,⟨120035,(I 120035 1635),(T (S "t") 1636)⟩,⟨120036,(I 120036 1638),(T (S "u") 1639)⟩,⟨120037,(I 120037 1641),(T (S "v") 1642)⟩,⟨120038,(I 120038 1644),(T (S "w") 1645)⟩,⟨120039,(I 120039 1647),(T (S "x") 1648)⟩,⟨120040,(I 120040 1650),(T (S "y") 1651)⟩]) 17),#[]⟩
def zDS (b:Bool)(P:Params):Obj:=⟨(Y "dict"),none,(Data.dict (List.toArray [⟨120041,(I 120041 1653),(T (S "z") 1654)⟩,⟨120068,(I 120068 1656),(T (S "a") 1657)⟩,⟨120069,(I 120069 1659),(T (S "b") 1660)⟩,⟨120071,(I 120071 1662),(T (S "d") 1663)⟩,⟨120072,(I 120072 1665),(T (S "e") 1666)⟩,⟨120073,(I 120073 1668),(T (S "f") 1669)⟩,⟨120074,(I 120074 1671),(T (S "g") 1672)⟩,⟨120077,(I 120077 1674),(T (S "j") 1675)⟩,⟨120078,(I 120078 1677),(T (S "k") 1678)⟩,⟨120079,(I 120079 1680),(T (S "l") 1681)⟩,⟨120080,(I 120080 1683),(T (S "m") 1684)⟩,⟨120081,(I 120081 1686),(T (S "n") 1687)⟩,⟨120082,(I 120082 1689),(T (S "o") 1690)⟩,⟨120083,(I 120083 1692),(T (S "p") 1693)⟩,⟨120084,(I 120084 1695),(T (S "q") 1696)⟩,⟨120086,(I 120086 1698),(T (S "s") 1699)⟩,⟨120087,(I 120087 1701),(T (S "t") 1702)⟩]) 17),#[]⟩
def zDn (b:Bool)(P:Params):Obj:=⟨(Y "dict"),none,(Data.dict (List.toArray [⟨120088,(I 120088 1704),(T (S "u") 1705)⟩,⟨120089,(I 120089 1707),(T (S "v") 1708)⟩,⟨120090,(I 120090 1710),(T (S "w") 1711)⟩,⟨120091,(I 120091 1713),(T (S "x") 1714)⟩,⟨120092,(I 120092 1716),(T (S "y") 1717)⟩,⟨120120,(I 120120 1719),(T (S "a") 1720)⟩,⟨120121,(I 120121 1722),(T (S "b") 1723)⟩,⟨120123,(I 120123 1725),(T (S "d") 1726)⟩,⟨120124,(I 120124 1728),(T (S "e") 1729)⟩,⟨120125,(I 120125 1731),(T (S "f") 1732)⟩,⟨120126,(I 120126 1734),(T (S "g") 1735)⟩,⟨120128,(I 120128 1737),(T (S "i") 1738)⟩,⟨120129,(I 120129 1740),(T (S "j") 1741)⟩,⟨120130,(I 120130 1743),(T (S "k") 1744)⟩,⟨120131,(I 120131 1746),(T (S "l") 1747)⟩,⟨120132,(I 120132 1749),(T (S "m") 1750)⟩,⟨120134,(I 120134 1752),(T (S "o") 1753)⟩]) 17),#[]⟩
def zEh (b:Bool)(P:Params):Obj:=⟨(Y "dict"),none,(Data.dict (List.toArray [⟨120138,(I 120138 1755),(T (S "s") 1756)⟩,⟨120139,(I 120139 1758),(T (S "t") 1759)⟩,⟨120140,(I 120140 1761),(T (S "u") 1762)⟩,⟨120141,(I 120141 1764),(T (S "v") 1765)⟩,⟨120142,(I 120142 1767),(T (S "w") 1768)⟩,⟨120143,(I 120143 1770),(T (S "x") 1771)⟩,⟨120144,(I 120144 1773),(T (S "y") 1774)⟩,⟨120172,(I 120172 1776),(T (S "a") 1777)⟩,⟨120173,(I 120173 1779),(T (S "b") 1780)⟩,⟨120174,(I 120174 1782),(T (S "c") 1783)⟩,⟨120175,(I 120175 1785),(T (S "d") 1786)⟩,⟨120176,(I 120176 1788),(T (S "e") 1789)⟩,⟨120177,(I 120177 1791),(T (S "f") 1792)⟩,⟨120178,(I 120178 1794),(T (S "g") 1795)⟩,⟨120179,(I 120179 1797),(T (S "h") 1798)⟩,⟨120180,(I 120180 1800),(T (S "i") 1801)⟩,⟨120181,(I 120181 1803),(T (S "j") 1804)⟩]) 17),#[]⟩
def zDY (b:Bool)(P:Params):Obj:=⟨(Y "dict"),none,(Data.dict (List.toArray [⟨120182,(I 120182 1806),(T (S "k") 1807)⟩,⟨120183,(I 120183 1809),(T (S "l") 1810)⟩,⟨120184,(I 120184 1812),(T (S "m") 1813)⟩,⟨120185,(I 120185 1815),(T (S "n") 1816)⟩,⟨120186,(I 120186 1818),(T (S "o") 1819)⟩,⟨120187,(I 120187 1821),(T (S "p") 1822)⟩,⟨120188,(I 120188 1824),(T (S "q") 1825)⟩,⟨120189,(I 120189 1827),(T (S "r") 1828)⟩,⟨120190,(I 120190 1830),(T (S "s") 1831)⟩,⟨120191,(I 120191 1833),(T (S "t") 1834)⟩,⟨120192,(I 120192 1836),(T (S "u") 1837)⟩,⟨120193,(I 120193 1839),(T (S "v") 1840)⟩,⟨120194,(I 120194 1842),(T (S "w") 1843)⟩,⟨120195,(I 120195 1845),(T (S "x") 1846)⟩,⟨120196,(I 120196 1848),(T (S "y") 1849)⟩,⟨120197,(I 120197 1851),(T (S "z") 1852)⟩,⟨120224,(I 120224 1854),(T (S "a") 1855)⟩]) 17),#[]⟩
def zDU (b:Bool)(P:Params):Obj:=⟨(Y "dict"),none,(Data.dict (List.toArray [⟨120225,(I 120225 1857),(T (S "b") 1858)⟩,⟨120226,(I 120226 1860),(T (S "c") 1861)⟩,⟨120227,(I 120227 1863),(T (S "d") 1864)⟩,⟨120228,(I 120228 1866),(T (S "e") 1867)⟩,⟨120229,(I 120229 1869),(T (S "f") 1870)⟩,⟨120230,(I 120230 1872),(T (S "g") 1873)⟩,⟨120231,(I 120231 1875),(T (S "h") 1876)⟩,⟨120232,(I 120232 1878),(T (S "i") 1879)⟩,⟨120233,(I 120233 1881),(T (S "j") 1882)⟩,⟨120234,(I 120234 1884),(T (S "k") 1885)⟩,⟨120235,(I 120235 1887),(T (S "l") 1888)⟩,⟨120236,(I 120236 1890),(T (S "m") 1891)⟩,⟨120237,(I 120237 1893),(T (S "n") 1894)⟩,⟨120238,(I 120238 1896),(T (S "o") 1897)⟩,⟨120239,(I 120239 1899),(T (S "p") 1900)⟩,⟨120240,(I 120240 1902),(T (S "q") 1903)⟩,⟨120241,(I 120241 1905),(T (S "r") 1906)⟩]) 17),#[]⟩
def zCN (b:Bool)(P:Params):Obj:=⟨(Y "dict"),none,(Data.dict (List.toArray [⟨120242,(I 120242 1908),(T (S "s") 1909)⟩,⟨120243,(I 120243 1911),(T (S "t") 1912)⟩,⟨120244,(I 120244 1914),(T (S "u") 1915)⟩,⟨120245,(I 120245 1917),(T (S "v") 1918)⟩,⟨120246,(I 120246 1920),(T (S "w") 1921)⟩,⟨120247,(I 120247 1923),(T (S "x") 1924)⟩,⟨120248,(I 120248 1926),(T (S "y") 1927)⟩,⟨120249,(I 120249 1929),(T (S "z") 1930)⟩,⟨120276,(I 120276 1932),(T (S "a") 1933)⟩,⟨120277,(I 120277 1935),(T (S "b") 1936)⟩,⟨120278,(I 120278 1938),(T (S "c") 1939)⟩,⟨120279,(I 120279 1941),(T (S "d") 1942)⟩,⟨120280,(I 120280 1944),(T (S "e") 1945)⟩,⟨120281,(I 120281 1947),(T (S "f") 1948)⟩,⟨120282,(I 120282 1950),(T (S "g") 1951)⟩,⟨120283,(I 120283 1953),(T (S "h") 1954)⟩,⟨120284,(I 120284 1956),(T (S "i") 1957)⟩]) 17),#[]⟩
def zDC (b:Bool)(P:Params):Obj:=⟨(Y "dict"),none,(Data.dict (List.toArray [⟨120285,(I 120285 1959),(T (S "j") 1960)⟩,⟨120286,(I 120286 1962),(T (S "k") 1963)⟩,⟨120287,(I 120287 1965),(T (S "l") 1966)⟩,⟨120288,(I 120288 1968),(T (S "m") 1969)⟩,⟨120289,(I 120289 1971),(T (S "n") 1972)⟩,⟨120290,(I 120290 1974),(T (S "o") 1975)⟩,⟨120291,(I 120291 1977),(T (S "p") 1978)⟩,⟨120292,(I 120292 1980),(T (S "q") 1981)⟩,⟨120293,(I 120293 1983),(T (S "r") 1984)⟩,⟨120294,(I 120294 1986),(T (S "s") 1987)⟩,⟨120295,(I 120295 1989),(T (S "t") 1990)⟩,⟨120296,(I 120296 1992),(T (S "u") 1993)⟩,⟨120297,(I 120297 1995),(T (S "v") 1996)⟩,⟨120298,(I 120298 1998),(T (S "w") 1999)⟩,⟨120299,(I 120299 2001),(T (S "x") 2002)⟩,⟨120300,(I 120300 2004),(T (S "y") 2005)⟩,⟨120301,(I 120301 2007),(T (S "z") 2008)⟩]) 17),#[]⟩
def zDk (b:Bool)(P:Params):Obj:=⟨(Y "dict"),none,(Data.dict (List.toArray [⟨120328,(I 120328 2010),(T (S "a") 2011)⟩,⟨120329,(I 120329 2013),(T (S "b") 2014)⟩,⟨120330,(I 120330 2016),(T (S "c") 2017)⟩,⟨120331,(I 120331 2019),(T (S "d") 2020)⟩,⟨120332,(I 120332 2022),(T (S "e") 2023)⟩,⟨120333,(I 120333 2025),(T (S "f") 2026)⟩,⟨120334,(I 120334 2028),(T (S "g") 2029)⟩,⟨120335,(I 120335 2031),(T (S "h") 2032)⟩,⟨120336,(I 120336 2034),(T (S "i") 2035)⟩,⟨120337,(I 120337 2037),(T (S "j") 2038)⟩,⟨120338,(I 120338 2040),(T (S "k") 2041)⟩,⟨120339,(I 120339 2043),(T (S "l") 2044)⟩,⟨120340,(I 120340 2046),(T (S "m") 2047)⟩,⟨120341,(I 120341 2049),(T (S "n") 2050)⟩,⟨120342,(I 120342 2052),(T (S "o") 2053)⟩,⟨120343,(I 120343 2055),(T (S "p") 2056)⟩,⟨120344,(I 120344 2058),(T (S "q") 2059)⟩]) 17),#[]⟩
def zCJ (b:Bool)(P:Params):Obj:=⟨(Y "dict"),none,(Data.dict (List.toArray [⟨120345,(I 120345 2061),(T (S "r") 2062)⟩,⟨120346,(I 120346 2064),(T (S "s") 2065)⟩,⟨120347,(I 120347 2067),(T (S "t") 2068)⟩,⟨120348,(I 120348 2070),(T (S "u") 2071)⟩,⟨120349,(I 120349 2073),(T (S "v") 2074)⟩,⟨120350,(I 120350 2076),(T (S "w") 2077)⟩,⟨120351,(I 120351 2079),(T (S "x") 2080)⟩,⟨120352,(I 120352 2082),(T (S "y") 2083)⟩,⟨120353,(I 120353 2085),(T (S "z") 2086)⟩,⟨120380,(I 120380 2088),(T (S "a") 2089)⟩,⟨120381,(I 120381 2091),(T (S "b") 2092)⟩,⟨120382,(I 120382 2094),(T (S "c") 2095)⟩,⟨120383,(I 120383 2097),(T (S "d") 2098)⟩,⟨120384,(I 120384 2100),(T (S "e") 2101)⟩,⟨120385,(I 120385 2103),(T (S "f") 2104)⟩,⟨120386,(I 120386 2106),(T (S "g") 2107)⟩,⟨120387,(I 120387 2109),(T (S "h") 2110)⟩]) 17),#[]⟩
def zDM (b:Bool)(P:Params):Obj:=⟨(Y "dict"),none,(Data.dict (List.toArray [⟨120388,(I 120388 2112),(T (S "i") 2113)⟩,⟨120389,(I 120389 2115),(T (S "j") 2116)⟩,⟨120390,(I 120390 2118),(T (S "k") 2119)⟩,⟨120391,(I 120391 2121),(T (S "l") 2122)⟩,⟨120392,(I 120392 2124),(T (S "m") 2125)⟩,⟨120393,(I 120393 2127),(T (S "n") 2128)⟩,⟨120394,(I 120394 2130),(T (S "o") 2131)⟩,⟨120395,(I 120395 2133),(T (S "p") 2134)⟩,⟨120396,(I 120396 2136),(T (S "q") 2137)⟩,⟨120397,(I 120397 2139),(T (S "r") 2140)⟩,⟨120398,(I 120398 2142),(T (S "s") 2143)⟩,⟨120399,(I 120399 2145),(T (S "t") 2146)⟩,⟨120400,(I 120400 2148),(T (S "u") 2149)⟩,⟨120401,(I 120401 2151),(T (S "v") 2152)⟩,⟨120402,(I 120402 2154),(T (S "w") 2155)⟩,⟨120403,(I 120403 2157),(T (S "x") 2158)⟩,⟨120404,(I 120404 2160),(T (S "y") 2161)⟩]) 17),#[]⟩
def zDu (b:Bool)(P:Params):Obj:=⟨(Y "dict"),none,(Data.dict (List.toArray [⟨120405,(I 120405 2163),(T (S "z") 2164)⟩,⟨120432,(I 120432 2166),(T (S "a") 2167)⟩,⟨120433,(I 120433 2169),(T (S "b") 2170)⟩,⟨120434,(I 120434 2172),(T (S "c") 2173)⟩,⟨120435,(I 120435 2175),(T (S "d") 2176)⟩,⟨120436,(I 120436 2178),(T (S "e") 2179)⟩,⟨120437,(I 120437 2181),(T (S "f") 2182)⟩,⟨120438,(I 120438 2184),(T (S "g") 2185)⟩,⟨120439,(I 120439 2187),(T (S "h") 2188)⟩,⟨120440,(I 120440 2190),(T (S "i") 2191)⟩,⟨120441,(I 120441 2193),(T (S "j") 2194)⟩,⟨120442,(I 120442 2196),(T (S "k") 2197)⟩,⟨120443,(I 120443 2199),(T (S "l") 2200)⟩,⟨120444,(I 120444 2202),(T (S "m") 2203)⟩,⟨120445,(I 120445 2205),(T (S "n") 2206)⟩,⟨120446,(I 120446 2208),(T (S "o") 2209)⟩,⟨120447,(I 120447 2211),(T (S "p") 2212)⟩]) 17),#[]⟩
def zDj (b:Bool)(P:Params):Obj:=⟨(Y "dict"),none,(Data.dict (List.toArray [⟨120448,(I 120448 2214),(T (S "q") 2215)⟩,⟨120449,(I 120449 2217),(T (S "r") 2218)⟩,⟨120450,(I 120450 2220),(T (S "s") 2221)⟩,⟨120451,(I 120451 2223),(T (S "t") 2224)⟩,⟨120452,(I 120452 2226),(T (S "u") 2227)⟩,⟨120453,(I 120453 2229),(T (S "v") 2230)⟩,⟨120454,(I 120454 2232),(T (S "w") 2233)⟩,⟨120455,(I 120455 2235),(T (S "x") 2236)⟩,⟨120456,(I 120456 2238),(T (S "y") 2239)⟩,⟨120457,(I 120457 2241),(T (S "z") 2242)⟩,⟨120488,(I 120488 2244),(T (S "α") 2245)⟩,⟨120489,(I 120489 2247),(T (S "β") 2248)⟩,⟨120490,(I 120490 2250),(T (S "γ") 2251)⟩,⟨120491,(I 120491 2253),(T (S "δ") 2254)⟩,⟨120492,(I 120492 2256),(T (S "ε") 2257)⟩,⟨120493,(I 120493 2259),(T (S "ζ") 2260)⟩,⟨120494,(I 120494 2262),(T (S "η") 2263)⟩]) 17),#[]⟩
def zCD (b:Bool)(P:Params):Obj:=⟨(Y "dict"),none,(Data.dict (List.toArray [⟨120495,(I 120495 2265),(T (S "θ") 2266)⟩,⟨120496,(I 120496 2268),(T (S "ι") 2269)⟩,⟨120497,(I 120497 2271),(T (S "κ") 2272)⟩,⟨120498,(I 120498 2274),(T (S "λ") 2275)⟩,⟨120499,(I 120499 2277),(T (S "μ") 2278)⟩,⟨120500,(I 120500 2280),(T (S "ν") 2281)⟩,⟨120501,(I 120501 2283),(T (S "ξ") 2284)⟩,⟨120502,(I 120502 2286),(T (S "ο") 2287)⟩,⟨120503,(I 120503 2289),(T (S "π") 2290)⟩,⟨120504,(I 120504 2292),(T (S "ρ") 2293)⟩,⟨120505,(I 120505 2295),(T (S "θ") 2296)⟩,⟨120506,(I 120506 2298),(T (S "σ") 2299)⟩,⟨120507,(I 120507 2301),(T (S "τ") 2302)⟩,⟨120508,(I 120508 2304),(T (S "υ") 2305)⟩,⟨120509,(I 120509 2307),(T (S "φ") 2308)⟩,⟨120510,(I 120510 2310),(T (S "χ") 2311)⟩,⟨120511,(I 120511 2313),(T (S "ψ") 2314)⟩]) 17),#[]⟩
def zEl (b:Bool)(P:Params):Obj:=⟨(Y "dict"),none,(Data.dict (List.toArray [⟨120512,(I 120512 2316),(T (S "ω") 2317)⟩,⟨120531,(I 120531 2319),(T (S "σ") 2320)⟩,⟨120546,(I 120546 2322),(T (S "α") 2323)⟩,⟨120547,(I 120547 2325),(T (S "β") 2326)⟩,⟨120548,(I 120548 2328),(T (S "γ") 2329)⟩,⟨120549,(I 120549 2331),(T (S "δ") 2332)⟩,⟨120550,(I 120550 2334),(T (S "ε") 2335)⟩,⟨120551,(I 120551 2337),(T (S "ζ") 2338)⟩,⟨120552,(I 120552 2340),(T (S "η") 2341)⟩,⟨120553,(I 120553 2343),(T (S "θ") 2344)⟩,⟨120554,(I 120554 2346),(T (S "ι") 2347)⟩,⟨120555,(I 120555 2349),(T (S "κ") 2350)⟩,⟨120556,(I 120556 2352),(T (S "λ") 2353)⟩,⟨120557,(I 120557 2355),(T (S "μ") 2356)⟩,⟨120558,(I 120558 2358),(T (S "ν") 2359)⟩,⟨120559,(I 120559 2361),(T (S "ξ") 2362)⟩,⟨120560,(I 120560 2364),(T (S "ο") 2365)⟩]) 17),#[]⟩
def zEi (b:Bool)(P:Params):Obj:=⟨(Y "dict"),none,(Data.dict (List.toArray [⟨120561,(I 120561 2367),(T (S "π") 2368)⟩,⟨120562,(I 120562 2370),(T (S "ρ") 2371)⟩,⟨120563,(I 120563 2373),(T (S "θ") 2374)⟩,⟨120564,(I 120564 2376),(T (S "σ") 2377)⟩,⟨120565,(I 120565 2379),(T (S "τ") 2380)⟩,⟨120566,(I 120566 2382),(T (S "υ") 2383)⟩,⟨120567,(I 120567 2385),(T (S "φ") 2386)⟩,⟨120568,(I 120568 2388),(T (S "χ") 2389)⟩,⟨120569,(I 120569 2391),(T (S "ψ") 2392)⟩,⟨120570,(I 120570 2394),(T (S "ω") 2395)⟩,⟨120589,(I 120589 2397),(T (S "σ") 2398)⟩,⟨120604,(I 120604 2400),(T (S "α") 2401)⟩,⟨120605,(I 120605 2403),(T (S "β") 2404)⟩,⟨120606,(I 120606 2406),(T (S "γ") 2407)⟩,⟨120607,(I 120607 2409),(T (S "δ") 2410)⟩,⟨120608,(I 120608 2412),(T (S "ε") 2413)⟩,⟨120609,(I 120609 2415),(T (S "ζ") 2416)⟩]) 17),#[]⟩
def zD3 (b:Bool)(P:Params):Obj:=⟨(Y "dict"),none,(Data.dict (List.toArray [⟨120610,(I 120610 2418),(T (S "η") 2419)⟩,⟨120611,(I 120611 2421),(T (S "θ") 2422)⟩,⟨120612,(I 120612 2424),(T (S "ι") 2425)⟩,⟨120613,(I 120613 2427),(T (S "κ") 2428)⟩,⟨120614,(I 120614 2430),(T (S "λ") 2431)⟩,⟨120615,(I 120615 2433),(T (S "μ") 2434)⟩,⟨120616,(I 120616 2436),(T (S "ν") 2437)⟩,⟨120617,(I 120617 2439),(T (S "ξ") 2440)⟩,⟨120618,(I 120618 2442),(T (S "ο") 2443)⟩,⟨120619,(I 120619 2445),(T (S "π") 2446)⟩,⟨120620,(I 120620 2448),(T (S "ρ") 2449)⟩,⟨120621,(I 120621 2451),(T (S "θ") 2452)⟩,⟨120622,(I 120622 2454),(T (S "σ") 2455)⟩,⟨120623,(I 120623 2457),(T (S "τ") 2458)⟩,⟨120624,(I 120624 2460),(T (S "υ") 2461)⟩,⟨120625,(I 120625 2463),(T (S "φ") 2464)⟩,⟨120626,(I 120626 2466),(T (S "χ") 2467)⟩]) 17),#[]⟩
def zCH (b:Bool)(P:Params):Obj:=⟨(Y "dict"),none,(Data.dict (List.toArray [⟨120627,(I 120627 2469),(T (S "ψ") 2470)⟩,⟨120628,(I 120628 2472),(T (S "ω") 2473)⟩,⟨120647,(I 120647 2475),(T (S "σ") 2476)⟩,⟨120662,(I 120662 2478),(T (S "α") 2479)⟩,⟨120663,(I 120663 2481),(T (S "β") 2482)⟩,⟨120664,(I 120664 2484),(T (S "γ") 2485)⟩,⟨120665,(I 120665 2487),(T (S "δ") 2488)⟩,⟨120666,(I 120666 2490),(T (S "ε") 2491)⟩,⟨120667,(I 120667 2493),(T (S "ζ") 2494)⟩,⟨120668,(I 120668 2496),(T (S "η") 2497)⟩,⟨120669,(I 120669 2499),(T (S "θ") 2500)⟩,⟨120670,(I 120670 2502),(T (S "ι") 2503)⟩,⟨120671,(I 120671 2505),(T (S "κ") 2506)⟩,⟨120672,(I 120672 2508),(T (S "λ") 2509)⟩,⟨120673,(I 120673 2511),(T (S "μ") 2512)⟩,⟨120674,(I 120674 2514),(T (S "ν") 2515)⟩,⟨120675,(I 120675 2517),(T (S "ξ") 2518)⟩]) 17),#[]⟩
def zD7 (b:Bool)(P:Params):Obj:=⟨(Y "dict"),none,(Data.dict (List.toArray [⟨120676,(I 120676 2520),(T (S "ο") 2521)⟩,⟨120677,(I 120677 2523),(T (S "π") 2524)⟩,⟨120678,(I 120678 2526),(T (S "ρ") 2527)⟩,⟨120679,(I 120679 2529),(T (S "θ") 2530)⟩,⟨120680,(I 120680 2532),(T (S "σ") 2533)⟩,⟨120681,(I 120681 2535),(T (S "τ") 2536)⟩,⟨120682,(I 120682 2538),(T (S "υ") 2539)⟩,⟨120683,(I 120683 2541),(T (S "φ") 2542)⟩,⟨120684,(I 120684 2544),(T (S "χ") 2545)⟩,⟨120685,(I 120685 2547),(T (S "ψ") 2548)⟩,⟨120686,(I 120686 2550),(T (S "ω") 2551)⟩,⟨120705,(I 120705 2553),(T (S "σ") 2554)⟩,⟨120720,(I 120720 2556),(T (S "α") 2557)⟩,⟨120721,(I 120721 2559),(T (S "β") 2560)⟩,⟨120722,(I 120722 2562),(T (S "γ") 2563)⟩,⟨120723,(I 120723 2565),(T (S "δ") 2566)⟩,⟨120724,(I 120724 2568),(T (S "ε") 2569)⟩]) 17),#[]⟩
def zDG (b:Bool)(P:Params):Obj:=⟨(Y "dict"),none,(Data.dict (List.toArray [⟨120725,(I 120725 2571),(T (S "ζ") 2572)⟩,⟨120726,(I 120726 2574),(T (S "η") 2575)⟩,⟨120727,(I 120727 2577),(T (S "θ") 2578)⟩,⟨120728,(I 120728 2580),(T (S "ι") 2581)⟩,⟨120729,(I 120729 2583),(T (S "κ") 2584)⟩,⟨120730,(I 120730 2586),(T (S "λ") 2587)⟩,⟨120731,(I 120731 2589),(T (S "μ") 2590)⟩,⟨120732,(I 120732 2592),(T (S "ν") 2593)⟩,⟨120733,(I 120733 2595),(T (S "ξ") 2596)⟩,⟨120734,(I 120734 2598),(T (S "ο") 2599)⟩,⟨120735,(I 120735 2601),(T (S "π") 2602)⟩,⟨120736,(I 120736 2604),(T (S "ρ") 2605)⟩,⟨120737,(I 120737 2607),(T (S "θ") 2608)⟩,⟨120738,(I 120738 2610),(T (S "σ") 2611)⟩,⟨120739,(I 120739 2613),(T (S "τ") 2614)⟩,⟨120740,(I 120740 2616),(T (S "υ") 2617)⟩,⟨120741,(I 120741 2619),(T (S "φ") 2620)⟩]) 17),#[]⟩
def zD9 (b:Bool)(P:Params):Obj:=⟨(Y "dict"),none,(Data.dict (List.toArray [⟨120742,(I 120742 2622),(T (S "χ") 2623)⟩,⟨120743,(I 120743 2624),(T (S "ψ") 2625)⟩,⟨120744,(I 120744 2626),(T (S "ω") 2627)⟩,⟨120763,(I 120763 2628),(T (S "σ") 2629)⟩]) 4),#[]⟩
def t2 (b:Bool)(P:Params):BT:=(.node (top.o_1 P) (.node (top.o_2 P) (.node (zS4 b P) (.node (top.o_8 P) (.node (top.o_16 P) (.node (top.o_32 P) (.node (top.o_69 P) (.node (top.o_133 P) (.node (zDe b P) .nil .nil) .nil) (.node (top.o_283 P) .nil .nil)) (.node (top.o_101 P) (.node (top.o_165 P) (.node (zD9 b P) .nil .nil) .nil) (.node (top.o_315 P) .nil .nil))) (.node (top.o_50 P) (.node (top.o_85 P) (.node (top.o_149 P) (.node (zDY b P) .nil .nil) .nil) (.node (top.o_299 P) .nil .nil)) (.node (top.o_117 P) (.node (top.o_181 P) .nil .nil) (.node (zAH b P) .nil .nil)))) (.node (top.o_24 P) (.node (top.o_42 P) (.node (top.o_77 P) (.node (top.o_141 P) (.node (zCM b P) .nil .nil) .nil) (.node (top.o_291 P) .nil .nil)) (.node (top.o_109 P) (.node (top.o_173 P) .nil .nil) (.node (zAj b P) .nil .nil))) (.node (top.o_58 P) (.node (top.o_93 P) (.node (top.o_157 P) (.node (zDj b P) .nil .nil) .nil) (.node (top.o_307 P) .nil .nil)) (.node (top.o_125 P) (.node (top.o_189 P) .nil .nil) (.node (zAA b P) .nil .nil))))) (.node (top.o_12 P) (.node (top.o_20 P) (.node (top.o_38 P) (.node (top.o_73 P) (.node (top.o_137 P) (.node (zDA b P) .nil .nil) .nil) (.node (top.o_287 P) .nil .nil)) (.node (top.o_105 P) (.node (top.o_169 P) .nil .nil) (.node (top.o_319 P) .nil .nil))) (.node (top.o_54 P) (.node (top.o_89 P) (.node (top.o_153 P) (.node (zDk b P) .nil .nil) .nil) (.node (top.o_303 P) .nil .nil)) (.node (top.o_121 P) (.node (top.o_185 P) .nil .nil) (.node (zBU b P) .nil .nil)))) (.node (top.o_28 P) (.node (top.o_46 P) (.node (top.o_81 P) (.node (top.o_145 P) (.node (zEg b P) .nil .nil) .nil) (.node (top.o_295 P) .nil .nil)) (.node (top.o_113 P) (.node (top.o_177 P) .nil .nil) (.node (zAE b P) .nil .nil))) (.node (top.o_62 P) (.node (top.o_97 P) (.node (top.o_161 P) (.node (zD3 b P) .nil .nil) .nil) (.node (top.o_311 P) .nil .nil)) (.node (top.o_129 P) (.node (top.o_193 P) .nil .nil) (.node (zDm b P) .nil .nil)))))) (.node (top.o_6 P) (.node (top.o_10 P) (.node (top.o_18 P) (.node (top.o_36 P) (.node (top.o_71 P) (.node (top.o_135 P) (.node (zDa b P) .nil .nil) .nil) (.node (top.o_285 P) .nil .nil)) (.node (top.o_103 P) (.node (top.o_167 P) .nil .nil) (.node (top.o_317 P) .nil .nil))) (.node (top.o_52 P) (.node (top.o_87 P) (.node (top.o_151 P) (.node (zCN b P) .nil .nil) .nil) (.node (top.o_301 P) .nil .nil)) (.node (top.o_119 P) (.node (top.o_183 P) .nil .nil) (.node (zAs b P) .nil .nil)))) (.node (top.o_26 P) (.node (top.o_44 P) (.node (top.o_79 P) (.node (top.o_143 P) (.node (zDr b P) .nil .nil) .nil) (.node (top.o_293 P) .nil .nil)) (.node (top.o_111 P) (.node (top.o_175 P) .nil .nil) (.node (zAw b P) .nil .nil))) (.node (top.o_60 P) (.node (top.o_95 P) (.node (top.o_159 P) (.node (zEl b P) .nil .nil) .nil) (.node (top.o_309 P) .nil .nil)) (.node (top.o_127 P) (.node (top.o_191 P) .nil .nil) (.node (xO b P) .nil .nil))))) (.node (top.o_14 P) (.node (top.o_22 P) (.node (top.o_40 P) (.node (top.o_75 P) (.node (top.o_139 P) (.node (zDy b P) .nil .nil) .nil) (.node (top.o_289 P) .nil .nil)) (.node (top.o_107 P) (.node (top.o_171 P) .nil .nil) (.node (top.o_321 P) .nil .nil))) (.node (top.o_56 P) (.node (top.o_91 P) (.node (top.o_155 P) (.node (zDM b P) .nil .nil) .nil) (.node (top.o_305 P) .nil .nil)) (.node (top.o_123 P) (.node (top.o_187 P) .nil .nil) (.node (zBA b P) .nil .nil)))) (.node (zLO b P) (.node (top.o_48 P) (.node (top.o_83 P) (.node (top.o_147 P) (.node (zDn b P) .nil .nil) .nil) (.node (top.o_297 P) .nil .nil)) (.node (top.o_115 P) (.node (top.o_179 P) .nil .nil) (.node (zAq b P) .nil .nil))) (.node (top.o_64 P) (.node (top.o_99 P) (.node (top.o_163 P) (.node (zD7 b P) .nil .nil) .nil) (.node (top.o_313 P) .nil .nil)) (.node (top.o_131 P) (.node (top.o_281 P) .nil .nil) (.node (zC1 b P) .nil .nil))))))) (.node (top.o_3 P) (.node (top.o_5 P) (.node (top.o_9 P) (.node (top.o_17 P) (.node (top.o_35 P) (.node (top.o_70 P) (.node (top.o_134 P) (.node (zDD b P) .nil .nil) .nil) (.node (top.o_284 P) .nil .nil)) (.node (top.o_102 P) (.node (top.o_166 P) .nil .nil) (.node (top.o_316 P) .nil .nil))) (.node (top.o_51 P) (.node (top.o_86 P) (.node (top.o_150 P) (.node (zDU b P) .nil .nil) .nil) (.node (top.o_300 P) .nil .nil)) (.node (top.o_118 P) (.node (top.o_182 P) .nil .nil) (.node (zAt b P) .nil .nil)))) (.node (top.o_25 P) (.node (top.o_43 P) (.node (top.o_78 P) (.node (top.o_142 P) (.node (zC3 b P) .nil .nil) .nil) (.node (top.o_292 P) .nil .nil)) (.node (top.o_110 P) (.node (top.o_174 P) .nil .nil) (.node (zAn b P) .nil .nil))) (.node (top.o_59 P) (.node (top.o_94 P) (.node (top.o_158 P) (.node (zCD b P) .nil .nil) .nil) (.node (top.o_308 P) .nil .nil)) (.node (top.o_126 P) (.node (top.o_190 P) .nil .nil) (.node (vP b P) .nil .nil))))) (.node (top.o_13 P) (.node (top.o_21 P) (.node (top.o_39 P) (.node (top.o_74 P) (.node (top.o_138 P) (.node (zCV b P) .nil .nil) .nil) (.node (top.o_288 P) .nil .nil)) (.node (top.o_106 P) (.node (top.o_170 P) .nil .nil) (.node (top.o_320 P) .nil .nil))) (.node (top.o_55 P) (.node (top.o_90 P) (.node (top.o_154 P) (.node (zCJ b P) .nil .nil) .nil) (.node (top.o_304 P) .nil .nil)) (.node (top.o_122 P) (.node (top.o_186 P) .nil .nil) (.node (zBx b P) .nil .nil)))) (.node (top.o_29 P) (.node (top.o_47 P) (.node (top.o_82 P) (.node (top.o_146 P) (.node (zDS b P) .nil .nil) .nil) (.node (top.o_296 P) .nil .nil)) (.node (top.o_114 P) (.node (top.o_178 P) .nil .nil) (.node (zAB b P) .nil .nil))) (.node (top.o_63 P) (.node (top.o_98 P) (.node (top.o_162 P) (.node (zCH b P) .nil .nil) .nil) (.node (top.o_312 P) .nil .nil)) (.node (top.o_130 P) (.node (top.o_194 P) .nil .nil) (.node (zDQ b P) .nil .nil)))))) (.node (top.o_7 P) (.node (top.o_11 P) (.node (top.o_19 P) (.node (top.o_37 P) (.node (top.o_72 P) (.node (top.o_136 P) (.node (zEc b P) .nil .nil) .nil) (.node (top.o_286 P) .nil .nil)) (.node (top.o_104 P) (.node (top.o_168 P) .nil .nil) (.node (top.o_318 P) .nil .nil))) (.node (top.o_53 P) (.node (top.o_88 P) (.node (top.o_152 P) (.node (zDC b P) .nil .nil) .nil) (.node (top.o_302 P) .nil .nil)) (.node (top.o_120 P) (.node (top.o_184 P) .nil .nil) (.node (zBM b P) .nil .nil)))) (.node (top.o_27 P) (.node (top.o_45 P) (.node (top.o_80 P) (.node (top.o_144 P) (.node (zCz b P) .nil .nil) .nil) (.node (top.o_294 P) .nil .nil)) (.node (top.o_112 P) (.node (top.o_176 P) .nil .nil) (.node (zAM b P) .nil .nil))) (.node (top.o_61 P) (.node (top.o_96 P) (.node (top.o_160 P) (.node (zEi b P) .nil .nil) .nil) (.node (top.o_310 P) .nil .nil)) (.node (top.o_128 P) (.node (top.o_192 P) .nil .nil) (.node (zDx b P) .nil .nil))))) (.node (top.o_15 P) (.node (top.o_23 P) (.node (top.o_41 P) (.node (top.o_76 P) (.node (top.o_140 P) (.node (zDI b P) .nil .nil) .nil) (.node (top.o_290 P) .nil .nil)) (.node (top.o_108 P) (.node (top.o_172 P) .nil .nil) (.node (top.o_322 P) .nil .nil))) (.node (top.o_57 P) (.node (top.o_92 P) (.node (top.o_156 P) (.node (zDu b P) .nil .nil) .nil) (.node (top.o_306 P) .nil .nil)) (.node (top.o_124 P) (.node (top.o_188 P) .nil .nil) (.node (zBJ b P) .nil .nil)))) (.node (top.o_31 P) (.node (top.o_49 P) (.node (top.o_84 P) (.node (top.o_148 P) (.node (zEh b P) .nil .nil) .nil) (.node (top.o_298 P) .nil .nil)) (.node (top.o_116 P) (.node (top.o_180 P) .nil .nil) (.node (xB b P) .nil .nil))) (.node (top.o_68 P) (.node (top.o_100 P) (.node (top.o_164 P) (.node (zDG b P) .nil .nil) .nil) (.node (top.o_314 P) .nil .nil)) (.node (top.o_132 P) (.node (top.o_282 P) .nil .nil) (.node (zDT b P) .nil .nil))))))))
def zSZ (b:Bool)(P:Params):Obj:=⟨(Y "dict"),none,(Data.dict (List.toArray [(E P (S "__name__") 165 (T (S "cpy313.stringprep") 615)),(E P (S "__doc__") 166 N),(E P (S "__package__") 167 N),(E P (S "__loader__") 168 (B "__main__.__loader__#opaque")),(E P (S "__spec__") 169 N),(E P (S "__annotations__") 170 (R 6)),(E P (S "__builtins__") 171 (R 4)),(E P (S "__file__") 173 (T (S "/claim/cut.py") 172)),(E P (S "__cached__") 174 N),(E P (S "_sre") 275 (R 12)),(E P (S "_wall") 288 (R 38)),(E P (S "tspecials") 324 (R 43)),(E P (S "_name_disallowed_re") 350 (R 48)),(E P (S "_value_disallowed_re") 384 (R 53)),(E P (S "_formatparam") 394 (R 61)),(E P (S "Headers") 554 (R 184)),(E P (S "_netrclex") 614 (R 226)),(E P (S "b1_set") 676 (R 238)),(E P (S "in_table_b1") 683 (R 248)),(E P (S "b3_exceptions") 2634 (R 249)),(E P (S "map_table_b3") 2642 (R 294)),(E P (S "LPAR") 2644 (I 7 2643)),(E P (S "RPAR") 2646 (I 8 2645)),(E P (S "LSQB") 2648 (I 9 2647)),(E P (S "RSQB") 2650 (I 10 2649)),(E P (S "COLON") 2652 (I 11 2651)),(E P (S "COMMA") 2654 (I 12 2653)),(E P (S "SEMI") 2656 (I 13 2655)),(E P (S "PLUS") 2658 (I 14 2657)),(E P (S "MINUS") 2660 (I 15 2659)),(E P (S "STAR") 2662 (I 16 2661)),(E P (S "SLASH") 2664 (I 17 2663)),(E P (S "VBAR") 2666 (I 18 2665)),(E P (S "AMPER") 2668 (I 19 2667)),(E P (S "LESS") 2670 (I 20 2669)),(E P (S "GREATER") 2672 (I 21 2671)),(E P (S "EQUAL") 2674 (I 22 2673)),(E P (S "DOT") 2676 (I 23 2675)),(E P (S "PERCENT") 2678 (I 24 2677)),(E P (S "LBRACE") 2680 (I 25 2679)),(E P (S "RBRACE") 2682 (I 26 2681)),(E P (S "EQEQUAL") 2684 (I 27 2683)),(E P (S "NOTEQUAL") 2686 (I 28 2685)),(E P (S "LESSEQUAL") 2688 (I 29 2687)),(E P (S "GREATEREQUAL") 2690 (I 30 2689)),(E P (S "TILDE") 2692 (I 31 2691)),(E P (S "CIRCUMFLEX") 2694 (I 32 2693)),(E P (S "LEFTSHIFT") 2696 (I 33 2695)),(E P (S "RIGHTSHIFT") 2698 (I 34 2697)),(E P (S "DOUBLESTAR") 2700 (I 35 2699)),(E P (S "PLUSEQUAL") 2702 (I 36 2701)),(E P (S "MINEQUAL") 2704 (I 37 2703)),(E P (S "STAREQUAL") 2706 (I 38 2705)),(E P (S "SLASHEQUAL") 2708 (I 39 2707)),(E P (S "PERCENTEQUAL") 2710 (I 40 2709)),(E P (S "AMPEREQUAL") 2712 (I 41 2711)),(E P (S "VBAREQUAL") 2714 (I 42 2713)),(E P (S "CIRCUMFLEXEQUAL") 2716 (I 43 2715)),(E P (S "LEFTSHIFTEQUAL") 2718 (I 44 2717)),(E P (S "RIGHTSHIFTEQUAL") 2720 (I 45 2719)),(E P (S "DOUBLESTAREQUAL") 2722 (I 46 2721)),(E P (S "DOUBLESLASH") 2724 (I 47 2723)),(E P (S "DOUBLESLASHEQUAL") 2726 (I 48 2725)),(E P (S "AT") 2728 (I 49 2727)),(E P (S "ATEQUAL") 2730 (I 50 2729)),(E P (S "RARROW") 2732 (I 51 2731)),(E P (S "ELLIPSIS") 2734 (I 52 2733)),(E P (S "COLONEQUAL") 2736 (I 53 2735)),(E P (S "EXCLAMATION") 2738 (I 54 2737))]) 69),#[]⟩
def zNP (b:Bool)(P:Params):Obj:=⟨N,none,(Data.fields #[(I 2 0),(I 0 0),(R 37),(I 9 0),(I 0 0),(R 60),(I 18 0),(I 0 0),(R 67),(I 105 0),(I 0 0),(R 194),(I 150 0),(I 0 0),(R 247),(I 153 0),(I 0 0),(R 293)]),#[]⟩
def zH5 (b:Bool)(P:Params):Obj:=⟨(Y "tuple"),none,(Data.seq #[] 0),#[]⟩
def zHU (b:Bool)(P:Params):Obj:=⟨N,none,(Data.fields #[]),#[]⟩
def zIT (b:Bool)(P:Params):Obj:=⟨(Y "tuple"),none,(Data.seq #[(T (S "code") 2638),(T (S "r") 2639)] 0),#[]⟩
def zIw (b:Bool)(P:Params):Obj:=⟨(Y "tuple"),none,(Data.seq #[] 0),#[]⟩
def zIW (b:Bool)(P:Params):Obj:=⟨N,none,(Data.func (fn (st 14) (S "map_table_b3") 0 [] N N N N none N N 0)),#[]⟩
def zF1 (b:Bool)(P:Params):Obj:=⟨(Y "code"),none,(Data.fields #[(T (S "map_table_b3") 2635),(T (S "map_table_b3") 2636),(T (S "/claim/cut.py") 2637),(I 153 0),(I 1 0),(I 0 0),(I 0 0),(I 3 0),(R 288),(Value.bool true),(I 276 0),(R 289),N,(R 290),(R 291),(R 292),(I 2640 0),(I 153 0),(T (S "/claim/cut.py") 2641)]),#[]⟩
def zEe (b:Bool)(P:Params):Obj:=⟨(Y "function"),none,(Data.func (fn (st 14) (S "map_table_b3") 3 [] N N N (T (S "cpy313.stringprep") 615) none (R 293) N 0)),#[]⟩
def t3 (b:Bool)(P:Params):BT:=(.node (top.o_1 P) (.node (top.o_2 P) (.node (zSZ b P) (.node (top.o_8 P) (.node (top.o_16 P) (.node (top.o_32 P) (.node (top.o_69 P) (.node (top.o_133 P) (.node (zDe b P) .nil .nil) .nil) (.node (top.o_283 P) .nil .nil)) (.node (top.o_101 P) (.node (top.o_165 P) (.node (zD9 b P) .nil .nil) .nil) (.node (top.o_315 P) .nil .nil))) (.node (top.o_50 P) (.node (top.o_85 P) (.node (top.o_149 P) (.node (zDY b P) .nil .nil) .nil) (.node (top.o_299 P) .nil .nil)) (.node (top.o_117 P) (.node (top.o_181 P) .nil .nil) (.node (zAH b P) .nil .nil)))) (.node (top.o_24 P) (.node (top.o_42 P) (.node (top.o_77 P) (.node (top.o_141 P) (.node (zCM b P) .nil .nil) .nil) (.node (top.o_291 P) .nil .nil)) (.node (top.o_109 P) (.node (top.o_173 P) .nil .nil) (.node (zAj b P) .nil .nil))) (.node (top.o_58 P) (.node (top.o_93 P) (.node (top.o_157 P) (.node (zDj b P) .nil .nil) .nil) (.node (top.o_307 P) .nil .nil)) (.node (top.o_125 P) (.node (top.o_189 P) .nil .nil) (.node (zAA b P) .nil .nil))))) (.node (top.o_12 P) (.node (top.o_20 P) (.node (top.o_38 P) (.node (top.o_73 P) (.node (top.o_137 P) (.node (zDA b P) .nil .nil) .nil) (.node (top.o_287 P) .nil .nil)) (.node (top.o_105 P) (.node (top.o_169 P) (.node (zIw b P) .nil .nil) .nil) (.node (top.o_319 P) .nil .nil))) (.node (top.o_54 P) (.node (top.o_89 P) (.node (top.o_153 P) (.node (zDk b P) .nil .nil) .nil) (.node (top.o_303 P) .nil .nil)) (.node (top.o_121 P) (.node (top.o_185 P) .nil .nil) (.node (zBU b P) .nil .nil)))) (.node (top.o_28 P) (.node (top.o_46 P) (.node (top.o_81 P) (.node (top.o_145 P) (.node (zEg b P) .nil .nil) .nil) (.node (top.o_295 P) .nil .nil)) (.node (top.o_113 P) (.node (top.o_177 P) .nil .nil) (.node (zAE b P) .nil .nil))) (.node (top.o_62 P) (.node (top.o_97 P) (.node (top.o_161 P) (.node (zD3 b P) .nil .nil) .nil) (.node (top.o_311 P) .nil .nil)) (.node (top.o_129 P) (.node (top.o_193 P) .nil .nil) (.node (zDm b P) .nil .nil)))))) (.node (top.o_6 P) (.node (top.o_10 P) (.node (top.o_18 P) (.node (top.o_36 P) (.node (top.o_71 P) (.node (top.o_135 P) (.node (zDa b P) .nil .nil) .nil) (.node (top.o_285 P) .nil .nil)) (.node (top.o_103 P) (.node (top.o_167 P) (.node (zHU b P) .nil .nil) .nil) (.node (top.o_317 P) .nil .nil))) (.node (top.o_52 P) (.node (top.o_87 P) (.node (top.o_151 P) (.node (zCN b P) .nil .nil) .nil) (.node (top.o_301 P) .nil .nil)) (.node (top.o_119 P) (.node (top.o_183 P) .nil .nil) (.node (zAs b P) .nil .nil)))) (.node (top.o_26 P) (.node (top.o_44 P) (.node (top.o_79 P) (.node (top.o_143 P) (.node (zDr b P) .nil .nil) .nil) (.node (top.o_293 P) .nil .nil)) (.node (top.o_111 P) (.node (top.o_175 P) .nil .nil) (.node (zAw b P) .nil .nil))) (.node (top.o_60 P) (.node (top.o_95 P) (.node (top.o_159 P) (.node (zEl b P) .nil .nil) .nil) (.node (top.o_309 P) .nil .nil)) (.node (top.o_127 P) (.node (top.o_191 P) .nil .nil) (.node (xO b P) .nil .nil))))) (.node (top.o_14 P) (.node (top.o_22 P) (.node (top.o_40 P) (.node (top.o_75 P) (.node (top.o_139 P) (.node (zDy b P) .nil .nil) .nil) (.node (top.o_289 P) .nil .nil)) (.node (top.o_107 P) (.node (top.o_171 P) (.node (zF1 b P) .nil .nil) .nil) (.node (top.o_321 P) .nil .nil))) (.node (top.o_56 P) (.node (top.o_91 P) (.node (top.o_155 P) (.node (zDM b P) .nil .nil) .nil) (.node (top.o_305 P) .nil .nil)) (.node (top.o_123 P) (.node (top.o_187 P) .nil .nil) (.node (zBA b P) .nil .nil)))) (.node (zNP b P) (.node (top.o_48 P) (.node (top.o_83 P) (.node (top.o_147 P) (.node (zDn b P) .nil .nil) .nil) (.node (top.o_297 P) .nil .nil)) (.node (top.o_115 P) (.node (top.o_179 P) .nil .nil) (.node (zAq b P) .nil .nil))) (.node (top.o_64 P) (.node (top.o_99 P) (.node (top.o_163 P) (.node (zD7 b P) .nil .nil) .nil) (.node (top.o_313 P) .nil .nil)) (.node (top.o_131 P) (.node (top.o_281 P) .nil .nil) (.node (zC1 b P) .nil .nil))))))) (.node (top.o_3 P) (.node (top.o_5 P) (.node (top.o_9 P) (.node (top.o_17 P) (.node (top.o_35 P) (.node (top.o_70 P) (.node (top.o_134 P) (.node (zDD b P) .nil .nil) .nil) (.node (top.o_284 P) .nil .nil)) (.node (top.o_102 P) (.node (top.o_166 P) (.node (zH5 b P) .nil .nil) .nil) (.node (top.o_316 P) .nil .nil))) (.node (top.o_51 P) (.node (top.o_86 P) (.node (top.o_150 P) (.node (zDU b P) .nil .nil) .nil) (.node (top.o_300 P) .nil .nil)) (.node (top.o_118 P) (.node (top.o_182 P) .nil .nil) (.node (zAt b P) .nil .nil)))) (.node (top.o_25 P) (.node (top.o_43 P) (.node (top.o_78 P) (.node (top.o_142 P) (.node (zC3 b P) .nil .nil) .nil) (.node (top.o_292 P) .nil .nil)) (.node (top.o_110 P) (.node (top.o_174 P) .nil .nil) (.node (zAn b P) .nil .nil))) (.node (top.o_59 P) (.node (top.o_94 P) (.node (top.o_158 P) (.node (zCD b P) .nil .nil) .nil) (.node (top.o_308 P) .nil .nil)) (.node (top.o_126 P) (.node (top.o_190 P) .nil .nil) (.node (vP b P) .nil .nil))))) (.node (top.o_13 P) (.node (top.o_21 P) (.node (top.o_39 P) (.node (top.o_74 P) (.node (top.o_138 P) (.node (zCV b P) .nil .nil) .nil) (.node (top.o_288 P) .nil .nil)) (.node (top.o_106 P) (.node (top.o_170 P) (.node (zIW b P) .nil .nil) .nil) (.node (top.o_320 P) .nil .nil))) (.node (top.o_55 P) (.node (top.o_90 P) (.node (top.o_154 P) (.node (zCJ b P) .nil .nil) .nil) (.node (top.o_304 P) .nil .nil)) (.node (top.o_122 P) (.node (top.o_186 P) .nil .nil) (.node (zBx b P) .nil .nil)))) (.node (top.o_29 P) (.node (top.o_47 P) (.node (top.o_82 P) (.node (top.o_146 P) (.node (zDS b P) .nil .nil) .nil) (.node (top.o_296 P) .nil .nil)) (.node (top.o_114 P) (.node (top.o_178 P) .nil .nil) (.node (zAB b P) .nil .nil))) (.node (top.o_63 P) (.node (top.o_98 P) (.node (top.o_162 P) (.node (zCH b P) .nil .nil) .nil) (.node (top.o_312 P) .nil .nil)) (.node (top.o_130 P) (.node (top.o_194 P) .nil .nil) (.node (zDQ b P) .nil .nil)))))) (.node (top.o_7 P) (.node (top.o_11 P) (.node (top.o_19 P) (.node (top.o_37 P) (.node (top.o_72 P) (.node (top.o_136 P) (.node (zEc b P) .nil .nil) .nil) (.node (top.o_286 P) .nil .nil)) (.node (top.o_104 P) (.node (top.o_168 P) (.node (zIT b P) .nil .nil) .nil) (.node (top.o_318 P) .nil .nil))) (.node (top.o_53 P) (.node (top.o_88 P) (.node (top.o_152 P) (.node (zDC b P) .nil .nil) .nil) (.node (top.o_302 P) .nil .nil)) (.node (top.o_120 P) (.node (top.o_184 P) .nil .nil) (.node (zBM b P) .nil .nil)))) (.node (top.o_27 P) (.node (top.o_45 P) (.node (top.o_80 P) (.node (top.o_144 P) (.node (zCz b P) .nil .nil) .nil) (.node (top.o_294 P) .nil .nil)) (.node (top.o_112 P) (.node (top.o_176 P) .nil .nil) (.node (zAM b P) .nil .nil))) (.node (top.o_61 P) (.node (top.o_96 P) (.node (top.o_160 P) (.node (zEi b P) .nil .nil) .nil) (.node (top.o_310 P) .nil .nil)) (.node (top.o_128 P) (.node (top.o_192 P) .nil .nil) (.node (zDx b P) .nil .nil))))) (.node (top.o_15 P) (.node (top.o_23 P) (.node (top.o_41 P) (.node (top.o_76 P) (.node (top.o_140 P) (.node (zDI b P) .nil .nil) .nil) (.node (top.o_290 P) .nil .nil)) (.node (top.o_108 P) (.node (top.o_172 P) (.node (zEe b P) .nil .nil) .nil) (.node (top.o_322 P) .nil .nil))) (.node (top.o_57 P) (.node (top.o_92 P) (.node (top.o_156 P) (.node (zDu b P) .nil .nil) .nil) (.node (top.o_306 P) .nil .nil)) (.node (top.o_124 P) (.node (top.o_188 P) .nil .nil) (.node (zBJ b P) .nil .nil)))) (.node (top.o_31 P) (.node (top.o_49 P) (.node (top.o_84 P) (.node (top.o_148 P) (.node (zEh b P) .nil .nil) .nil) (.node (top.o_298 P) .nil .nil)) (.node (top.o_116 P) (.node (top.o_180 P) .nil .nil) (.node (xB b P) .nil .nil))) (.node (top.o_68 P) (.node (top.o_100 P) (.node (top.o_164 P) (.node (zDG b P) .nil .nil) .nil) (.node (top.o_314 P) .nil .nil)) (.node (top.o_132 P) (.node (top.o_282 P) .nil .nil) (.node (zDT b P) .nil .nil))))))))
def zRo:List Stmt:=[st 14,st 15,st 16,st 17,st 18,st 19,st 20,st 21,st 22,st 23,st 24,st 25,st 26,st 27,st 28,st 29,st 30,st 31,st 32,st 33,st 34,st 35,st 36,st 37,st 38,st 39,st 40,st 41,st 42,st 43,st 44,st 45,st 46,st 47,st 48,st 49,st 50,st 51,st 52,st 53,st 54,st 55,st 56,st 57,st 58,st 59,st 60,st 61,st 62]
theorem g3 (b:Bool)(w:World)(os:OsState):segRunT treeTable pw w 28 ann 1 463 (sh (t2 b w.params) 288 2635 os) (piecesOf zRo top.env_1 cdE ⟨152,0,152,13⟩ fr0)=some (.next,sh (t3 b w.params) 295 2739 os,cdE,⟨205,0,205,11⟩):=zFY (by kernel_rfl)
def zTy (b:Bool)(P:Params):Obj:=⟨(Y "dict"),none,(Data.dict (List.toArray [(E P (S "__name__") 165 (T (S "cpy313.stringprep") 615)),(E P (S "__doc__") 166 N),(E P (S "__package__") 167 N),(E P (S "__loader__") 168 (B "__main__.__loader__#opaque")),(E P (S "__spec__") 169 N),(E P (S "__annotations__") 170 (R 6)),(E P (S "__builtins__") 171 (R 4)),(E P (S "__file__") 173 (T (S "/claim/cut.py") 172)),(E P (S "__cached__") 174 N),(E P (S "_sre") 275 (R 12)),(E P (S "_wall") 288 (R 38)),(E P (S "tspecials") 324 (R 43)),(E P (S "_name_disallowed_re") 350 (R 48)),(E P (S "_value_disallowed_re") 384 (R 53)),(E P (S "_formatparam") 394 (R 61)),(E P (S "Headers") 554 (R 184)),(E P (S "_netrclex") 614 (R 226)),(E P (S "b1_set") 676 (R 238)),(E P (S "in_table_b1") 683 (R 248)),(E P (S "b3_exceptions") 2634 (R 249)),(E P (S "map_table_b3") 2642 (R 294)),(E P (S "LPAR") 2644 (I 7 2643)),(E P (S "RPAR") 2646 (I 8 2645)),(E P (S "LSQB") 2648 (I 9 2647)),(E P (S "RSQB") 2650 (I 10 2649)),(E P (S "COLON") 2652 (I 11 2651)),(E P (S "COMMA") 2654 (I 12 2653)),(E P (S "SEMI") 2656 (I 13 2655)),(E P (S "PLUS") 2658 (I 14 2657)),(E P (S "MINUS") 2660 (I 15 2659)),(E P (S "STAR") 2662 (I 16 2661)),(E P (S "SLASH") 2664 (I 17 2663)),(E P (S "VBAR") 2666 (I 18 2665)),(E P (S "AMPER") 2668 (I 19 2667)),(E P (S "LESS") 2670 (I 20 2669)),(E P (S "GREATER") 2672 (I 21 2671)),(E P (S "EQUAL") 2674 (I 22 2673)),(E P (S "DOT") 2676 (I 23 2675)),(E P (S "PERCENT") 2678 (I 24 2677)),(E P (S "LBRACE") 2680 (I 25 2679)),(E P (S "RBRACE") 2682 (I 26 2681)),(E P (S "EQEQUAL") 2684 (I 27 2683)),(E P (S "NOTEQUAL") 2686 (I 28 2685)),(E P (S "LESSEQUAL") 2688 (I 29 2687)),(E P (S "GREATEREQUAL") 2690 (I 30 2689)),(E P (S "TILDE") 2692 (I 31 2691)),(E P (S "CIRCUMFLEX") 2694 (I 32 2693)),(E P (S "LEFTSHIFT") 2696 (I 33 2695)),(E P (S "RIGHTSHIFT") 2698 (I 34 2697)),(E P (S "DOUBLESTAR") 2700 (I 35 2699)),(E P (S "PLUSEQUAL") 2702 (I 36 2701)),(E P (S "MINEQUAL") 2704 (I 37 2703)),(E P (S "STAREQUAL") 2706 (I 38 2705)),(E P (S "SLASHEQUAL") 2708 (I 39 2707)),(E P (S "PERCENTEQUAL") 2710 (I 40 2709)),(E P (S "AMPEREQUAL") 2712 (I 41 2711)),(E P (S "VBAREQUAL") 2714 (I 42 2713)),(E P (S "CIRCUMFLEXEQUAL") 2716 (I 43 2715)),(E P (S "LEFTSHIFTEQUAL") 2718 (I 44 2717)),(E P (S "RIGHTSHIFTEQUAL") 2720 (I 45 2719)),(E P (S "DOUBLESTAREQUAL") 2722 (I 46 2721)),(E P (S "DOUBLESLASH") 2724 (I 47 2723)),(E P (S "DOUBLESLASHEQUAL") 2726 (I 48 2725)),(E P (S "AT") 2728 (I 49 2727)),(E P (S "ATEQUAL") 2730 (I 50 2729)),(E P (S "RARROW") 2732 (I 51 2731)),(E P (S "ELLIPSIS") 2734 (I 52 2733)),(E P (S "COLONEQUAL") 2736 (I 53 2735)),(E P (S "EXCLAMATION") 2738 (I 54 2737)),(E P (S "EXACT_TOKEN_TYPES") 2835 (R 295))]) 70),#[]⟩
def uG (b:Bool)(P:Params):Obj:=⟨(Y "dict"),none,(Data.dict (List.toArray [(E P (S "!") 2739 (I 54 2737)),(E P (S "!=") 2741 (I 28 2685)),(E P (S "%") 2743 (I 24 2677)),(E P (S "%=") 2745 (I 40 2709)),(E P (S "&") 2747 (I 19 2667)),(E P (S "&=") 2749 (I 41 2711)),(E P (S "(") 2751 (I 7 2643)),(E P (S ")") 2753 (I 8 2645)),(E P (S "*") 2755 (I 16 2661)),(E P (S "**") 2757 (I 35 2699)),(E P (S "**=") 2759 (I 46 2721)),(E P (S "*=") 2761 (I 38 2705)),(E P (S "+") 2763 (I 14 2657)),(E P (S "+=") 2765 (I 36 2701)),(E P (S ",") 2767 (I 12 2653)),(E P (S "-") 2769 (I 15 2659)),(E P (S "-=") 2771 (I 37 2703)),(E P (S "->") 2773 (I 51 2731)),(E P (S ".") 2775 (I 23 2675)),(E P (S "...") 2777 (I 52 2733)),(E P (S "/") 2779 (I 17 2663)),(E P (S "//") 2781 (I 47 2723)),(E P (S "//=") 2783 (I 48 2725)),(E P (S "/=") 2785 (I 39 2707)),(E P (S ":") 2787 (I 11 2651)),(E P (S ":=") 2789 (I 53 2735)),(E P (S ";") 2791 (I 13 2655)),(E P (S "<") 2793 (I 20 2669)),(E P (S "<<") 2795 (I 33 2695)),(E P (S "<<=") 2797 (I 44 2717)),(E P (S "<=") 2799 (I 29 2687)),(E P (S "=") 2801 (I 22 2673)),(E P (S "==") 2803 (I 27 2683)),(E P (S ">") 2805 (I 21 2671)),(E P (S ">=") 2807 (I 30 2689)),(E P (S ">>") 2808 (I 34 2697)),(E P (S ">>=") 2809 (I 45 2719)),(E P (S "@") 2810 (I 49 2727)),(E P (S "@=") 2811 (I 50 2729)),(E P (S "[") 2812 (I 9 2647)),(E P (S "]") 2813 (I 10 2649)),(E P (S "^") 2814 (I 32 2693)),(E P (S "^=") 2815 (I 43 2715)),(E P (S "{") 2816 (I 25 2679)),(E P (S "|") 2817 (I 18 2665)),(E P (S "|=") 2818 (I 42 2713)),(E P (S "}") 2819 (I 26 2681)),(E P (S "~") 2820 (I 31 2691))]) 48),#[]⟩
def zMD (b:Bool)(P:Params):Obj:=⟨(Y "dict"),none,(Data.dict (List.toArray [(E P (S "->") 2773 (I 51 2731)),(E P (S ".") 2775 (I 23 2675)),(E P (S "...") 2777 (I 52 2733)),(E P (S "/") 2779 (I 17 2663)),(E P (S "//") 2781 (I 47 2723)),(E P (S "//=") 2783 (I 48 2725)),(E P (S "/=") 2785 (I 39 2707)),(E P (S ":") 2787 (I 11 2651)),(E P (S ":=") 2789 (I 53 2735)),(E P (S ";") 2791 (I 13 2655)),(E P (S "<") 2793 (I 20 2669)),(E P (S "<<") 2795 (I 33 2695)),(E P (S "<<=") 2797 (I 44 2717)),(E P (S "<=") 2799 (I 29 2687)),(E P (S "=") 2801 (I 22 2673)),(E P (S "==") 2803 (I 27 2683)),(E P (S ">") 2805 (I 21 2671))]) 17),#[]⟩
def zLR (b:Bool)(P:Params):Obj:=⟨(Y "dict"),none,(Data.dict (List.toArray [(E P (S ">=") 2807 (I 30 2689)),(E P (S ">>") 2808 (I 34 2697)),(E P (S ">>=") 2809 (I 45 2719)),(E P (S "@") 2810 (I 49 2727)),(E P (S "@=") 2811 (I 50 2729)),(E P (S "[") 2812 (I 9 2647)),(E P (S "]") 2813 (I 10 2649)),(E P (S "^") 2814 (I 32 2693)),(E P (S "^=") 2815 (I 43 2715)),(E P (S "{") 2816 (I 25 2679)),(E P (S "|") 2817 (I 18 2665)),(E P (S "|=") 2818 (I 42 2713)),(E P (S "}") 2819 (I 26 2681)),(E P (S "~") 2820 (I 31 2691))]) 14),#[]⟩
def t4 (b:Bool)(P:Params):BT:=(.node (top.o_1 P) (.node (top.o_2 P) (.node (zTy b P) (.node (top.o_8 P) (.node (top.o_16 P) (.node (top.o_32 P) (.node (top.o_69 P) (.node (top.o_133 P) (.node (zDe b P) .nil .nil) .nil) (.node (top.o_283 P) .nil .nil)) (.node (top.o_101 P) (.node (top.o_165 P) (.node (zD9 b P) .nil .nil) .nil) (.node (top.o_315 P) .nil .nil))) (.node (top.o_50 P) (.node (top.o_85 P) (.node (top.o_149 P) (.node (zDY b P) .nil .nil) .nil) (.node (top.o_299 P) .nil .nil)) (.node (top.o_117 P) (.node (top.o_181 P) .nil .nil) (.node (zAH b P) .nil .nil)))) (.node (top.o_24 P) (.node (top.o_42 P) (.node (top.o_77 P) (.node (top.o_141 P) (.node (zCM b P) .nil .nil) .nil) (.node (top.o_291 P) .nil .nil)) (.node (top.o_109 P) (.node (top.o_173 P) (.node (uG b P) .nil .nil) .nil) (.node (zAj b P) .nil .nil))) (.node (top.o_58 P) (.node (top.o_93 P) (.node (top.o_157 P) (.node (zDj b P) .nil .nil) .nil) (.node (top.o_307 P) .nil .nil)) (.node (top.o_125 P) (.node (top.o_189 P) .nil .nil) (.node (zAA b P) .nil .nil))))) (.node (top.o_12 P) (.node (top.o_20 P) (.node (top.o_38 P) (.node (top.o_73 P) (.node (top.o_137 P) (.node (zDA b P) .nil .nil) .nil) (.node (top.o_287 P) .nil .nil)) (.node (top.o_105 P) (.node (top.o_169 P) (.node (zIw b P) .nil .nil) .nil) (.node (top.o_319 P) .nil .nil))) (.node (top.o_54 P) (.node (top.o_89 P) (.node (top.o_153 P) (.node (zDk b P) .nil .nil) .nil) (.node (top.o_303 P) .nil .nil)) (.node (top.o_121 P) (.node (top.o_185 P) .nil .nil) (.node (zBU b P) .nil .nil)))) (.node (top.o_28 P) (.node (top.o_46 P) (.node (top.o_81 P) (.node (top.o_145 P) (.node (zEg b P) .nil .nil) .nil) (.node (top.o_295 P) .nil .nil)) (.node (top.o_113 P) (.node (top.o_177 P) .nil .nil) (.node (zAE b P) .nil .nil))) (.node (top.o_62 P) (.node (top.o_97 P) (.node (top.o_161 P) (.node (zD3 b P) .nil .nil) .nil) (.node (top.o_311 P) .nil .nil)) (.node (top.o_129 P) (.node (top.o_193 P) .nil .nil) (.node (zDm b P) .nil .nil)))))) (.node (top.o_6 P) (.node (top.o_10 P) (.node (top.o_18 P) (.node (top.o_36 P) (.node (top.o_71 P) (.node (top.o_135 P) (.node (zDa b P) .nil .nil) .nil) (.node (top.o_285 P) .nil .nil)) (.node (top.o_103 P) (.node (top.o_167 P) (.node (zHU b P) .nil .nil) .nil) (.node (top.o_317 P) .nil .nil))) (.node (top.o_52 P) (.node (top.o_87 P) (.node (top.o_151 P) (.node (zCN b P) .nil .nil) .nil) (.node (top.o_301 P) .nil .nil)) (.node (top.o_119 P) (.node (top.o_183 P) .nil .nil) (.node (zAs b P) .nil .nil)))) (.node (top.o_26 P) (.node (top.o_44 P) (.node (top.o_79 P) (.node (top.o_143 P) (.node (zDr b P) .nil .nil) .nil) (.node (top.o_293 P) .nil .nil)) (.node (top.o_111 P) (.node (top.o_175 P) (.node (zLR b P) .nil .nil) .nil) (.node (zAw b P) .nil .nil))) (.node (top.o_60 P) (.node (top.o_95 P) (.node (top.o_159 P) (.node (zEl b P) .nil .nil) .nil) (.node (top.o_309 P) .nil .nil)) (.node (top.o_127 P) (.node (top.o_191 P) .nil .nil) (.node (xO b P) .nil .nil))))) (.node (top.o_14 P) (.node (top.o_22 P) (.node (top.o_40 P) (.node (top.o_75 P) (.node (top.o_139 P) (.node (zDy b P) .nil .nil) .nil) (.node (top.o_289 P) .nil .nil)) (.node (top.o_107 P) (.node (top.o_171 P) (.node (zF1 b P) .nil .nil) .nil) (.node (top.o_321 P) .nil .nil))) (.node (top.o_56 P) (.node (top.o_91 P) (.node (top.o_155 P) (.node (zDM b P) .nil .nil) .nil) (.node (top.o_305 P) .nil .nil)) (.node (top.o_123 P) (.node (top.o_187 P) .nil .nil) (.node (zBA b P) .nil .nil)))) (.node (zNP b P) (.node (top.o_48 P) (.node (top.o_83 P) (.node (top.o_147 P) (.node (zDn b P) .nil .nil) .nil) (.node (top.o_297 P) .nil .nil)) (.node (top.o_115 P) (.node (top.o_179 P) .nil .nil) (.node (zAq b P) .nil .nil))) (.node (top.o_64 P) (.node (top.o_99 P) (.node (top.o_163 P) (.node (zD7 b P) .nil .nil) .nil) (.node (top.o_313 P) .nil .nil)) (.node (top.o_131 P) (.node (top.o_281 P) .nil .nil) (.node (zC1 b P) .nil .nil))))))) (.node (top.o_3 P) (.node (top.o_5 P) (.node (top.o_9 P) (.node (top.o_17 P) (.node (top.o_35 P) (.node (top.o_70 P) (.node (top.o_134 P) (.node (zDD b P) .nil .nil) .nil) (.node (top.o_284 P) .nil .nil)) (.node (top.o_102 P) (.node (top.o_166 P) (.node (zH5 b P) .nil .nil) .nil) (.node (top.o_316 P) .nil .nil))) (.node (top.o_51 P) (.node (top.o_86 P) (.node (top.o_150 P) (.node (zDU b P) .nil .nil) .nil) (.node (top.o_300 P) .nil .nil)) (.node (top.o_118 P) (.node (top.o_182 P) .nil .nil) (.node (zAt b P) .nil .nil)))) (.node (top.o_25 P) (.node (top.o_43 P) (.node (top.o_78 P) (.node (top.o_142 P) (.node (zC3 b P) .nil .nil) .nil) (.node (top.o_292 P) .nil .nil)) (.node (top.o_110 P) (.node (top.o_174 P) (.node (zMD b P) .nil .nil) .nil) (.node (zAn b P) .nil .nil))) (.node (top.o_59 P) (.node (top.o_94 P) (.node (top.o_158 P) (.node (zCD b P) .nil .nil) .nil) (.node (top.o_308 P) .nil .nil)) (.node (top.o_126 P) (.node (top.o_190 P) .nil .nil) (.node (vP b P) .nil .nil))))) (.node (top.o_13 P) (.node (top.o_21 P) (.node (top.o_39 P) (.node (top.o_74 P) (.node (top.o_138 P) (.node (zCV b P) .nil .nil) .nil) (.node (top.o_288 P) .nil .nil)) (.node (top.o_106 P) (.node (top.o_170 P) (.node (zIW b P) .nil .nil) .nil) (.node (top.o_320 P) .nil .nil))) (.node (top.o_55 P) (.node (top.o_90 P) (.node (top.o_154 P) (.node (zCJ b P) .nil .nil) .nil) (.node (top.o_304 P) .nil .nil)) (.node (top.o_122 P) (.node (top.o_186 P) .nil .nil) (.node (zBx b P) .nil .nil)))) (.node (top.o_29 P) (.node (top.o_47 P) (.node (top.o_82 P) (.node (top.o_146 P) (.node (zDS b P) .nil .nil) .nil) (.node (top.o_296 P) .nil .nil)) (.node (top.o_114 P) (.node (top.o_178 P) .nil .nil) (.node (zAB b P) .nil .nil))) (.node (top.o_63 P) (.node (top.o_98 P) (.node (top.o_162 P) (.node (zCH b P) .nil .nil) .nil) (.node (top.o_312 P) .nil .nil)) (.node (top.o_130 P) (.node (top.o_194 P) .nil .nil) (.node (zDQ b P) .nil .nil)))))) (.node (top.o_7 P) (.node (top.o_11 P) (.node (top.o_19 P) (.node (top.o_37 P) (.node (top.o_72 P) (.node (top.o_136 P) (.node (zEc b P) .nil .nil) .nil) (.node (top.o_286 P) .nil .nil)) (.node (top.o_104 P) (.node (top.o_168 P) (.node (zIT b P) .nil .nil) .nil) (.node (top.o_318 P) .nil .nil))) (.node (top.o_53 P) (.node (top.o_88 P) (.node (top.o_152 P) (.node (zDC b P) .nil .nil) .nil) (.node (top.o_302 P) .nil .nil)) (.node (top.o_120 P) (.node (top.o_184 P) .nil .nil) (.node (zBM b P) .nil .nil)))) (.node (top.o_27 P) (.node (top.o_45 P) (.node (top.o_80 P) (.node (top.o_144 P) (.node (zCz b P) .nil .nil) .nil) (.node (top.o_294 P) .nil .nil)) (.node (top.o_112 P) (.node (top.o_176 P) .nil .nil) (.node (zAM b P) .nil .nil))) (.node (top.o_61 P) (.node (top.o_96 P) (.node (top.o_160 P) (.node (zEi b P) .nil .nil) .nil) (.node (top.o_310 P) .nil .nil)) (.node (top.o_128 P) (.node (top.o_192 P) .nil .nil) (.node (zDx b P) .nil .nil))))) (.node (top.o_15 P) (.node (top.o_23 P) (.node (top.o_41 P) (.node (top.o_76 P) (.node (top.o_140 P) (.node (zDI b P) .nil .nil) .nil) (.node (top.o_290 P) .nil .nil)) (.node (top.o_108 P) (.node (top.o_172 P) (.node (zEe b P) .nil .nil) .nil) (.node (top.o_322 P) .nil .nil))) (.node (top.o_57 P) (.node (top.o_92 P) (.node (top.o_156 P) (.node (zDu b P) .nil .nil) .nil) (.node (top.o_306 P) .nil .nil)) (.node (top.o_124 P) (.node (top.o_188 P) .nil .nil) (.node (zBJ b P) .nil .nil)))) (.node (top.o_31 P) (.node (top.o_49 P) (.node (top.o_84 P) (.node (top.o_148 P) (.node (zEh b P) .nil .nil) .nil) (.node (top.o_298 P) .nil .nil)) (.node (top.o_116 P) (.node (top.o_180 P) .nil .nil) (.node (xB b P) .nil .nil))) (.node (top.o_68 P) (.node (top.o_100 P) (.node (top.o_164 P) (.node (zDG b P) .nil .nil) .nil) (.node (top.o_314 P) .nil .nil)) (.node (top.o_132 P) (.node (top.o_282 P) .nil .nil) (.node (zDT b P) .nil .nil))))))))
def zMr:List Stmt:=[st 63]
theorem zSP (b:Bool)(w:World)(os:OsState):segRunT treeTable pw (w.withFollow "special-get-raises" false) 28 ann 1 979 (sh (t3 b (w.withFollow "special-get-raises" false).params) 295 2739 os) (piecesOf zMr top.env_1 cdE ⟨205,0,205,11⟩ fr0)=some (.next,sh (t4 b (w.withFollow "special-get-raises" false).params) 298 2836 os,cdE,⟨206,0,206,17⟩):=zFY (by kernel_rfl)
theorem zTw (b:Bool)(w:World)(os:OsState):segRunT treeTable pw (w.withFollow "special-get-raises" true) 28 ann 1 979 (sh (t3 b (w.withFollow "special-get-raises" true).params) 295 2739 os) (piecesOf zMr top.env_1 cdE ⟨205,0,205,11⟩ fr0)=some (.next,sh (t4 b (w.withFollow "special-get-raises" true).params) 298 2836 os,cdE,⟨206,0,206,17⟩):=zFY (by kernel_rfl)
def zIn (b:Bool)(P:Params):Obj:=⟨(Y "dict"),none,(Data.dict (List.toArray [(E P (S "__name__") 165 (T (S "law_sh0076_01") 2836)),(E P (S "__doc__") 166 N),(E P (S "__package__") 167 N),(E P (S "__loader__") 168 (B "__main__.__loader__#opaque")),(E P (S "__spec__") 169 N),(E P (S "__annotations__") 170 (R 6)),(E P (S "__builtins__") 171 (R 4)),(E P (S "__file__") 173 (T (S "/claim/cut.py") 172)),(E P (S "__cached__") 174 N),(E P (S "_sre") 275 (R 12)),(E P (S "_wall") 288 (R 38)),(E P (S "tspecials") 324 (R 43)),(E P (S "_name_disallowed_re") 350 (R 48)),(E P (S "_value_disallowed_re") 384 (R 53)),(E P (S "_formatparam") 394 (R 61)),(E P (S "Headers") 554 (R 184)),(E P (S "_netrclex") 614 (R 226)),(E P (S "b1_set") 676 (R 238)),(E P (S "in_table_b1") 683 (R 248)),(E P (S "b3_exceptions") 2634 (R 249)),(E P (S "map_table_b3") 2642 (R 294)),(E P (S "LPAR") 2644 (I 7 2643)),(E P (S "RPAR") 2646 (I 8 2645)),(E P (S "LSQB") 2648 (I 9 2647)),(E P (S "RSQB") 2650 (I 10 2649)),(E P (S "COLON") 2652 (I 11 2651)),(E P (S "COMMA") 2654 (I 12 2653)),(E P (S "SEMI") 2656 (I 13 2655)),(E P (S "PLUS") 2658 (I 14 2657)),(E P (S "MINUS") 2660 (I 15 2659)),(E P (S "STAR") 2662 (I 16 2661)),(E P (S "SLASH") 2664 (I 17 2663)),(E P (S "VBAR") 2666 (I 18 2665)),(E P (S "AMPER") 2668 (I 19 2667)),(E P (S "LESS") 2670 (I 20 2669)),(E P (S "GREATER") 2672 (I 21 2671)),(E P (S "EQUAL") 2674 (I 22 2673)),(E P (S "DOT") 2676 (I 23 2675)),(E P (S "PERCENT") 2678 (I 24 2677)),(E P (S "LBRACE") 2680 (I 25 2679)),(E P (S "RBRACE") 2682 (I 26 2681)),(E P (S "EQEQUAL") 2684 (I 27 2683)),(E P (S "NOTEQUAL") 2686 (I 28 2685)),(E P (S "LESSEQUAL") 2688 (I 29 2687)),(E P (S "GREATEREQUAL") 2690 (I 30 2689)),(E P (S "TILDE") 2692 (I 31 2691)),(E P (S "CIRCUMFLEX") 2694 (I 32 2693)),(E P (S "LEFTSHIFT") 2696 (I 33 2695)),(E P (S "RIGHTSHIFT") 2698 (I 34 2697)),(E P (S "DOUBLESTAR") 2700 (I 35 2699)),(E P (S "PLUSEQUAL") 2702 (I 36 2701)),(E P (S "MINEQUAL") 2704 (I 37 2703)),(E P (S "STAREQUAL") 2706 (I 38 2705)),(E P (S "SLASHEQUAL") 2708 (I 39 2707)),(E P (S "PERCENTEQUAL") 2710 (I 40 2709)),(E P (S "AMPEREQUAL") 2712 (I 41 2711)),(E P (S "VBAREQUAL") 2714 (I 42 2713)),(E P (S "CIRCUMFLEXEQUAL") 2716 (I 43 2715)),(E P (S "LEFTSHIFTEQUAL") 2718 (I 44 2717)),(E P (S "RIGHTSHIFTEQUAL") 2720 (I 45 2719)),(E P (S "DOUBLESTAREQUAL") 2722 (I 46 2721)),(E P (S "DOUBLESLASH") 2724 (I 47 2723)),(E P (S "DOUBLESLASHEQUAL") 2726 (I 48 2725)),(E P (S "AT") 2728 (I 49 2727)),(E P (S "ATEQUAL") 2730 (I 50 2729)),(E P (S "RARROW") 2732 (I 51 2731)),(E P (S "ELLIPSIS") 2734 (I 52 2733)),(E P (S "COLONEQUAL") 2736 (I 53 2735)),(E P (S "EXCLAMATION") 2738 (I 54 2737)),(E P (S "EXACT_TOKEN_TYPES") 2835 (R 295)),(E P (S "_law_cells") 2847 (R 304)),(E P (S "_law_row") 2853 (R 309)),(E P (S "_law_operators") 2860 (R 316)),(E P (S "_law_face") 2867 (R 323)),(E P (S "_law_written") 2879 (R 330)),(E P (S "_law_lexer") 2888 (R 337)),(E P (S "_law_prepared") 2894 (R 342)),(E P (S "_law_riffled") 2900 (R 347)),(E P (S "_law_unlike") 2906 (R 352)),(E P (S "law") 2912 (R 357))]) 80),#[]⟩
def zRC (b:Bool)(P:Params):Obj:=⟨N,none,(Data.fields #[(I 2 0),(I 0 0),(R 37),(I 9 0),(I 0 0),(R 60),(I 18 0),(I 0 0),(R 67),(I 105 0),(I 0 0),(R 194),(I 150 0),(I 0 0),(R 247),(I 153 0),(I 0 0),(R 293),(I 208 0),(I 0 0),(R 303),(I 213 0),(I 0 0),(R 308),(I 222 0),(I 0 0),(R 315),(I 225 0),(I 0 0),(R 322),(I 227 0),(I 0 0),(R 329),(I 243 0),(I 0 0),(R 336),(I 249 0),(I 0 0),(R 341),(I 251 0),(I 0 0),(R 346),(I 262 0),(I 0 0),(R 351),(I 276 0),(I 0 0),(R 356)]),#[]⟩
def zP6 (b:Bool)(P:Params):Obj:=⟨(Y "tuple"),none,(Data.seq #[] 0),#[]⟩
def zOA (b:Bool)(P:Params):Obj:=⟨N,none,(Data.fields #[]),#[]⟩
def zPn (b:Bool)(P:Params):Obj:=⟨(Y "tuple"),none,(Data.seq #[(T (S "script") 2841),(T (S "cells") 2842),(T (S "place") 2843),(T (S "number") 2844)] 0),#[]⟩
def zP9 (b:Bool)(P:Params):Obj:=⟨(Y "tuple"),none,(Data.seq #[] 0),#[]⟩
def zPB (b:Bool)(P:Params):Obj:=⟨N,none,(Data.func (fn (st 65) (S "_law_cells") 0 [] N N N N none N N 0)),#[]⟩
def zLq (b:Bool)(P:Params):Obj:=⟨(Y "code"),none,(Data.fields #[(T (S "_law_cells") 2838),(T (S "_law_cells") 2839),(T (S "/claim/cut.py") 2840),(I 208 0),(I 1 0),(I 0 0),(I 0 0),(I 3 0),(R 298),(Value.bool true),(I 276 0),(R 299),N,(R 300),(R 301),(R 302),(I 2845 0),(I 208 0),(T (S "/claim/cut.py") 2846)]),#[]⟩
def zH3 (b:Bool)(P:Params):Obj:=⟨(Y "function"),none,(Data.func (fn (st 65) (S "_law_cells") 3 [] N N N (T (S "law_sh0076_01") 2836) none (R 303) N 0)),#[]⟩
def zP5 (b:Bool)(P:Params):Obj:=⟨(Y "tuple"),none,(Data.seq #[] 0),#[]⟩
def zQn (b:Bool)(P:Params):Obj:=⟨N,none,(Data.fields #[]),#[]⟩
def zOo (b:Bool)(P:Params):Obj:=⟨N,none,(Data.func (fn (st 66) (S "_law_row") 0 [] N N N N none N N 0)),#[]⟩
def zMf (b:Bool)(P:Params):Obj:=⟨(Y "code"),none,(Data.fields #[(T (S "_law_row") 2848),(T (S "_law_row") 2849),(T (S "/claim/cut.py") 2850),(I 213 0),(I 1 0),(I 0 0),(I 0 0),(I 3 0),(R 305),(Value.bool true),(I 276 0),(R 306),N,N,N,(R 307),(I 2851 0),(I 213 0),(T (S "/claim/cut.py") 2852)]),#[]⟩
def zFH (b:Bool)(P:Params):Obj:=⟨(Y "function"),none,(Data.func (fn (st 66) (S "_law_row") 3 [] N N N (T (S "law_sh0076_01") 2836) none (R 308) N 0)),#[]⟩
def zO1 (b:Bool)(P:Params):Obj:=⟨(Y "tuple"),none,(Data.seq #[] 0),#[]⟩
def zQO (b:Bool)(P:Params):Obj:=⟨N,none,(Data.fields #[]),#[]⟩
def zQz (b:Bool)(P:Params):Obj:=⟨(Y "tuple"),none,(Data.seq #[(T (S "signs") 2857)] 0),#[]⟩
def zPT (b:Bool)(P:Params):Obj:=⟨(Y "tuple"),none,(Data.seq #[] 0),#[]⟩
def zQM (b:Bool)(P:Params):Obj:=⟨N,none,(Data.func (fn (st 67) (S "_law_operators") 0 [] N N N N none N N 0)),#[]⟩
def zLy (b:Bool)(P:Params):Obj:=⟨(Y "code"),none,(Data.fields #[(T (S "_law_operators") 2854),(T (S "_law_operators") 2855),(T (S "/claim/cut.py") 2856),(I 222 0),(I 0 0),(I 0 0),(I 0 0),(I 3 0),(R 310),(Value.bool true),(I 276 0),(R 311),N,(R 312),(R 313),(R 314),(I 2858 0),(I 222 0),(T (S "/claim/cut.py") 2859)]),#[]⟩
def zIt (b:Bool)(P:Params):Obj:=⟨(Y "function"),none,(Data.func (fn (st 67) (S "_law_operators") 3 [] N N N (T (S "law_sh0076_01") 2836) none (R 315) N 0)),#[]⟩
def zQS (b:Bool)(P:Params):Obj:=⟨(Y "tuple"),none,(Data.seq #[] 0),#[]⟩
def zOy (b:Bool)(P:Params):Obj:=⟨N,none,(Data.fields #[]),#[]⟩
def zP2 (b:Bool)(P:Params):Obj:=⟨(Y "tuple"),none,(Data.seq #[(T (S "card") 2864)] 0),#[]⟩
def zPd (b:Bool)(P:Params):Obj:=⟨(Y "tuple"),none,(Data.seq #[] 0),#[]⟩
def zO5 (b:Bool)(P:Params):Obj:=⟨N,none,(Data.func (fn (st 68) (S "_law_face") 0 [] N N N N none N N 0)),#[]⟩
def zMw (b:Bool)(P:Params):Obj:=⟨(Y "code"),none,(Data.fields #[(T (S "_law_face") 2861),(T (S "_law_face") 2862),(T (S "/claim/cut.py") 2863),(I 225 0),(I 1 0),(I 0 0),(I 0 0),(I 3 0),(R 317),(Value.bool true),(I 276 0),(R 318),N,(R 319),(R 320),(R 321),(I 2865 0),(I 225 0),(T (S "/claim/cut.py") 2866)]),#[]⟩
def zH2 (b:Bool)(P:Params):Obj:=⟨(Y "function"),none,(Data.func (fn (st 68) (S "_law_face") 3 [] N N N (T (S "law_sh0076_01") 2836) none (R 322) N 0)),#[]⟩
def zQV (b:Bool)(P:Params):Obj:=⟨(Y "tuple"),none,(Data.seq #[] 0),#[]⟩
def zP8 (b:Bool)(P:Params):Obj:=⟨N,none,(Data.fields #[]),#[]⟩
def zN6 (b:Bool)(P:Params):Obj:=⟨(Y "tuple"),none,(Data.seq #[(T (S "card") 2871),(T (S "look") 2872),(T (S "word") 2873),(T (S "odd") 2874),(T (S "text") 2875),(T (S "sign") 2876)] 0),#[]⟩
def zPI (b:Bool)(P:Params):Obj:=⟨(Y "tuple"),none,(Data.seq #[] 0),#[]⟩
def zN9 (b:Bool)(P:Params):Obj:=⟨N,none,(Data.func (fn (st 69) (S "_law_written") 0 [] N N N N none N N 0)),#[]⟩
def zMg (b:Bool)(P:Params):Obj:=⟨(Y "code"),none,(Data.fields #[(T (S "_law_written") 2868),(T (S "_law_written") 2869),(T (S "/claim/cut.py") 2870),(I 227 0),(I 2 0),(I 0 0),(I 0 0),(I 3 0),(R 324),(Value.bool true),(I 276 0),(R 325),N,(R 326),(R 327),(R 328),(I 2877 0),(I 227 0),(T (S "/claim/cut.py") 2878)]),#[]⟩
def zIJ (b:Bool)(P:Params):Obj:=⟨(Y "function"),none,(Data.func (fn (st 69) (S "_law_written") 3 [] N N N (T (S "law_sh0076_01") 2836) none (R 329) N 0)),#[]⟩
def zQG (b:Bool)(P:Params):Obj:=⟨(Y "tuple"),none,(Data.seq #[] 0),#[]⟩
def zQR (b:Bool)(P:Params):Obj:=⟨N,none,(Data.fields #[]),#[]⟩
def zPb (b:Bool)(P:Params):Obj:=⟨(Y "tuple"),none,(Data.seq #[(T (S "text") 2883),(T (S "stand") 2884)] 0),#[]⟩
def zQ5 (b:Bool)(P:Params):Obj:=⟨(Y "tuple"),none,(Data.seq #[(T (S "signs") 2885)] 0),#[]⟩
def zOj (b:Bool)(P:Params):Obj:=⟨N,none,(Data.func (fn (st 70) (S "_law_lexer") 0 [] N N N N none N N 0)),#[]⟩
def zAC (b:Bool)(P:Params):Obj:=⟨(Y "code"),none,(Data.fields #[(T (S "_law_lexer") 2880),(T (S "_law_lexer") 2881),(T (S "/claim/cut.py") 2882),(I 243 0),(I 1 0),(I 0 0),(I 0 0),(I 3 0),(R 331),(Value.bool true),(I 276 0),(R 332),N,(R 333),(R 334),(R 335),(I 2886 0),(I 243 0),(T (S "/claim/cut.py") 2887)]),#[]⟩
def zFB (b:Bool)(P:Params):Obj:=⟨(Y "function"),none,(Data.func (fn (st 70) (S "_law_lexer") 3 [] N N N (T (S "law_sh0076_01") 2836) none (R 336) N 0)),#[]⟩
def zOC (b:Bool)(P:Params):Obj:=⟨(Y "tuple"),none,(Data.seq #[] 0),#[]⟩
def zOx (b:Bool)(P:Params):Obj:=⟨N,none,(Data.fields #[]),#[]⟩
def zQr (b:Bool)(P:Params):Obj:=⟨N,none,(Data.func (fn (st 71) (S "_law_prepared") 0 [] N N N N none N N 0)),#[]⟩
def zMi (b:Bool)(P:Params):Obj:=⟨(Y "code"),none,(Data.fields #[(T (S "_law_prepared") 2889),(T (S "_law_prepared") 2890),(T (S "/claim/cut.py") 2891),(I 249 0),(I 1 0),(I 0 0),(I 0 0),(I 3 0),(R 338),(Value.bool true),(I 276 0),(R 339),N,N,N,(R 340),(I 2892 0),(I 249 0),(T (S "/claim/cut.py") 2893)]),#[]⟩
def zIL (b:Bool)(P:Params):Obj:=⟨(Y "function"),none,(Data.func (fn (st 71) (S "_law_prepared") 3 [] N N N (T (S "law_sh0076_01") 2836) none (R 341) N 0)),#[]⟩
def zQx (b:Bool)(P:Params):Obj:=⟨(Y "tuple"),none,(Data.seq #[] 0),#[]⟩
def zQP (b:Bool)(P:Params):Obj:=⟨N,none,(Data.fields #[]),#[]⟩
def zQb (b:Bool)(P:Params):Obj:=⟨N,none,(Data.func (fn (st 72) (S "_law_riffled") 0 [] N N N N none N N 0)),#[]⟩
def zLk (b:Bool)(P:Params):Obj:=⟨(Y "code"),none,(Data.fields #[(T (S "_law_riffled") 2895),(T (S "_law_riffled") 2896),(T (S "/claim/cut.py") 2897),(I 251 0),(I 2 0),(I 0 0),(I 0 0),(I 3 0),(R 343),(Value.bool true),(I 276 0),(R 344),N,N,N,(R 345),(I 2898 0),(I 251 0),(T (S "/claim/cut.py") 2899)]),#[]⟩
def zFC (b:Bool)(P:Params):Obj:=⟨(Y "function"),none,(Data.func (fn (st 72) (S "_law_riffled") 3 [] N N N (T (S "law_sh0076_01") 2836) none (R 346) N 0)),#[]⟩
def zQ1 (b:Bool)(P:Params):Obj:=⟨(Y "tuple"),none,(Data.seq #[] 0),#[]⟩
def zQN (b:Bool)(P:Params):Obj:=⟨N,none,(Data.fields #[]),#[]⟩
def zOv (b:Bool)(P:Params):Obj:=⟨N,none,(Data.func (fn (st 73) (S "_law_unlike") 0 [] N N N N none N N 0)),#[]⟩
def zLi (b:Bool)(P:Params):Obj:=⟨(Y "code"),none,(Data.fields #[(T (S "_law_unlike") 2901),(T (S "_law_unlike") 2902),(T (S "/claim/cut.py") 2903),(I 262 0),(I 3 0),(I 0 0),(I 0 0),(I 3 0),(R 348),(Value.bool true),(I 276 0),(R 349),N,N,N,(R 350),(I 2904 0),(I 262 0),(T (S "/claim/cut.py") 2905)]),#[]⟩
def zFq (b:Bool)(P:Params):Obj:=⟨(Y "function"),none,(Data.func (fn (st 73) (S "_law_unlike") 3 [] N N N (T (S "law_sh0076_01") 2836) none (R 351) N 0)),#[]⟩
def zOe (b:Bool)(P:Params):Obj:=⟨(Y "tuple"),none,(Data.seq #[] 0),#[]⟩
def zQW (b:Bool)(P:Params):Obj:=⟨N,none,(Data.fields #[]),#[]⟩
def zO6 (b:Bool)(P:Params):Obj:=⟨N,none,(Data.func (fn (st 74) (S "law") 0 [] N N N N none N N 0)),#[]⟩
def zMq (b:Bool)(P:Params):Obj:=⟨(Y "code"),none,(Data.fields #[(T (S "law") 2907),(T (S "law") 2908),(T (S "/claim/cut.py") 2909),(I 276 0),(I 1 0),(I 0 0),(I 0 0),(I 3 0),(R 353),(Value.bool true),(I 276 0),(R 354),N,N,N,(R 355),(I 2910 0),(I 276 0),(T (S "/claim/cut.py") 2911)]),#[]⟩
def zFx (b:Bool)(P:Params):Obj:=⟨(Y "function"),none,(Data.func (fn (st 74) (S "law") 3 [] N N N (T (S "law_sh0076_01") 2836) none (R 356) N 0)),#[]⟩
def t5 (b:Bool)(P:Params):BT:=(.node (top.o_1 P) (.node (top.o_2 P) (.node (zIn b P) (.node (top.o_8 P) (.node (top.o_16 P) (.node (top.o_32 P) (.node (top.o_69 P) (.node (top.o_133 P) (.node (zDe b P) .nil .nil) .nil) (.node (top.o_283 P) (.node (zP2 b P) .nil .nil) .nil)) (.node (top.o_101 P) (.node (top.o_165 P) (.node (zD9 b P) .nil .nil) .nil) (.node (top.o_315 P) (.node (zLi b P) .nil .nil) .nil))) (.node (top.o_50 P) (.node (top.o_85 P) (.node (top.o_149 P) (.node (zDY b P) .nil .nil) .nil) (.node (top.o_299 P) (.node (zOj b P) .nil .nil) .nil)) (.node (top.o_117 P) (.node (top.o_181 P) (.node (zLq b P) .nil .nil) .nil) (.node (zAH b P) .nil .nil)))) (.node (top.o_24 P) (.node (top.o_42 P) (.node (top.o_77 P) (.node (top.o_141 P) (.node (zCM b P) .nil .nil) .nil) (.node (top.o_291 P) (.node (zPI b P) .nil .nil) .nil)) (.node (top.o_109 P) (.node (top.o_173 P) (.node (uG b P) .nil .nil) .nil) (.node (zAj b P) .nil .nil))) (.node (top.o_58 P) (.node (top.o_93 P) (.node (top.o_157 P) (.node (zDj b P) .nil .nil) .nil) (.node (top.o_307 P) (.node (zQx b P) .nil .nil) .nil)) (.node (top.o_125 P) (.node (top.o_189 P) (.node (zQO b P) .nil .nil) .nil) (.node (zAA b P) .nil .nil))))) (.node (top.o_12 P) (.node (top.o_20 P) (.node (top.o_38 P) (.node (top.o_73 P) (.node (top.o_137 P) (.node (zDA b P) .nil .nil) .nil) (.node (top.o_287 P) (.node (zH2 b P) .nil .nil) .nil)) (.node (top.o_105 P) (.node (top.o_169 P) (.node (zIw b P) .nil .nil) .nil) (.node (top.o_319 P) (.node (zO6 b P) .nil .nil) .nil))) (.node (top.o_54 P) (.node (top.o_89 P) (.node (top.o_153 P) (.node (zDk b P) .nil .nil) .nil) (.node (top.o_303 P) (.node (zOx b P) .nil .nil) .nil)) (.node (top.o_121 P) (.node (top.o_185 P) (.node (zOo b P) .nil .nil) .nil) (.node (zBU b P) .nil .nil)))) (.node (top.o_28 P) (.node (top.o_46 P) (.node (top.o_81 P) (.node (top.o_145 P) (.node (zEg b P) .nil .nil) .nil) (.node (top.o_295 P) (.node (zQG b P) .nil .nil) .nil)) (.node (top.o_113 P) (.node (top.o_177 P) (.node (zOA b P) .nil .nil) .nil) (.node (zAE b P) .nil .nil))) (.node (top.o_62 P) (.node (top.o_97 P) (.node (top.o_161 P) (.node (zD3 b P) .nil .nil) .nil) (.node (top.o_311 P) (.node (zFC b P) .nil .nil) .nil)) (.node (top.o_129 P) (.node (top.o_193 P) (.node (zLy b P) .nil .nil) .nil) (.node (zDm b P) .nil .nil)))))) (.node (top.o_6 P) (.node (top.o_10 P) (.node (top.o_18 P) (.node (top.o_36 P) (.node (top.o_71 P) (.node (top.o_135 P) (.node (zDa b P) .nil .nil) .nil) (.node (top.o_285 P) (.node (zO5 b P) .nil .nil) .nil)) (.node (top.o_103 P) (.node (top.o_167 P) (.node (zHU b P) .nil .nil) .nil) (.node (top.o_317 P) (.node (zOe b P) .nil .nil) .nil))) (.node (top.o_52 P) (.node (top.o_87 P) (.node (top.o_151 P) (.node (zCN b P) .nil .nil) .nil) (.node (top.o_301 P) (.node (zFB b P) .nil .nil) .nil)) (.node (top.o_119 P) (.node (top.o_183 P) (.node (zP5 b P) .nil .nil) .nil) (.node (zAs b P) .nil .nil)))) (.node (top.o_26 P) (.node (top.o_44 P) (.node (top.o_79 P) (.node (top.o_143 P) (.node (zDr b P) .nil .nil) .nil) (.node (top.o_293 P) (.node (zMg b P) .nil .nil) .nil)) (.node (top.o_111 P) (.node (top.o_175 P) (.node (zLR b P) .nil .nil) .nil) (.node (zAw b P) .nil .nil))) (.node (top.o_60 P) (.node (top.o_95 P) (.node (top.o_159 P) (.node (zEl b P) .nil .nil) .nil) (.node (top.o_309 P) (.node (zQb b P) .nil .nil) .nil)) (.node (top.o_127 P) (.node (top.o_191 P) (.node (zPT b P) .nil .nil) .nil) (.node (xO b P) .nil .nil))))) (.node (top.o_14 P) (.node (top.o_22 P) (.node (top.o_40 P) (.node (top.o_75 P) (.node (top.o_139 P) (.node (zDy b P) .nil .nil) .nil) (.node (top.o_289 P) (.node (zP8 b P) .nil .nil) .nil)) (.node (top.o_107 P) (.node (top.o_171 P) (.node (zF1 b P) .nil .nil) .nil) (.node (top.o_321 P) (.node (zFx b P) .nil .nil) .nil))) (.node (top.o_56 P) (.node (top.o_91 P) (.node (top.o_155 P) (.node (zDM b P) .nil .nil) .nil) (.node (top.o_305 P) (.node (zMi b P) .nil .nil) .nil)) (.node (top.o_123 P) (.node (top.o_187 P) (.node (zFH b P) .nil .nil) .nil) (.node (zBA b P) .nil .nil)))) (.node (zRC b P) (.node (top.o_48 P) (.node (top.o_83 P) (.node (top.o_147 P) (.node (zDn b P) .nil .nil) .nil) (.node (top.o_297 P) (.node (zPb b P) .nil .nil) .nil)) (.node (top.o_115 P) (.node (top.o_179 P) (.node (zP9 b P) .nil .nil) .nil) (.node (zAq b P) .nil .nil))) (.node (top.o_64 P) (.node (top.o_99 P) (.node (top.o_163 P) (.node (zD7 b P) .nil .nil) .nil) (.node (top.o_313 P) (.node (zQN b P) .nil .nil) .nil)) (.node (top.o_131 P) (.node (top.o_281 P) (.node (zQS b P) .nil .nil) .nil) (.node (zC1 b P) .nil .nil))))))) (.node (top.o_3 P) (.node (top.o_5 P) (.node (top.o_9 P) (.node (top.o_17 P) (.node (top.o_35 P) (.node (top.o_70 P) (.node (top.o_134 P) (.node (zDD b P) .nil .nil) .nil) (.node (top.o_284 P) (.node (zPd b P) .nil .nil) .nil)) (.node (top.o_102 P) (.node (top.o_166 P) (.node (zH5 b P) .nil .nil) .nil) (.node (top.o_316 P) (.node (zFq b P) .nil .nil) .nil))) (.node (top.o_51 P) (.node (top.o_86 P) (.node (top.o_150 P) (.node (zDU b P) .nil .nil) .nil) (.node (top.o_300 P) (.node (zAC b P) .nil .nil) .nil)) (.node (top.o_118 P) (.node (top.o_182 P) (.node (zH3 b P) .nil .nil) .nil) (.node (zAt b P) .nil .nil)))) (.node (top.o_25 P) (.node (top.o_43 P) (.node (top.o_78 P) (.node (top.o_142 P) (.node (zC3 b P) .nil .nil) .nil) (.node (top.o_292 P) (.node (zN9 b P) .nil .nil) .nil)) (.node (top.o_110 P) (.node (top.o_174 P) (.node (zMD b P) .nil .nil) .nil) (.node (zAn b P) .nil .nil))) (.node (top.o_59 P) (.node (top.o_94 P) (.node (top.o_158 P) (.node (zCD b P) .nil .nil) .nil) (.node (top.o_308 P) (.node (zQP b P) .nil .nil) .nil)) (.node (top.o_126 P) (.node (top.o_190 P) (.node (zQz b P) .nil .nil) .nil) (.node (vP b P) .nil .nil))))) (.node (top.o_13 P) (.node (top.o_21 P) (.node (top.o_39 P) (.node (top.o_74 P) (.node (top.o_138 P) (.node (zCV b P) .nil .nil) .nil) (.node (top.o_288 P) (.node (zQV b P) .nil .nil) .nil)) (.node (top.o_106 P) (.node (top.o_170 P) (.node (zIW b P) .nil .nil) .nil) (.node (top.o_320 P) (.node (zMq b P) .nil .nil) .nil))) (.node (top.o_55 P) (.node (top.o_90 P) (.node (top.o_154 P) (.node (zCJ b P) .nil .nil) .nil) (.node (top.o_304 P) (.node (zQr b P) .nil .nil) .nil)) (.node (top.o_122 P) (.node (top.o_186 P) (.node (zMf b P) .nil .nil) .nil) (.node (zBx b P) .nil .nil)))) (.node (top.o_29 P) (.node (top.o_47 P) (.node (top.o_82 P) (.node (top.o_146 P) (.node (zDS b P) .nil .nil) .nil) (.node (top.o_296 P) (.node (zQR b P) .nil .nil) .nil)) (.node (top.o_114 P) (.node (top.o_178 P) (.node (zPn b P) .nil .nil) .nil) (.node (zAB b P) .nil .nil))) (.node (top.o_63 P) (.node (top.o_98 P) (.node (top.o_162 P) (.node (zCH b P) .nil .nil) .nil) (.node (top.o_312 P) (.node (zQ1 b P) .nil .nil) .nil)) (.node (top.o_130 P) (.node (top.o_194 P) (.node (zIt b P) .nil .nil) .nil) (.node (zDQ b P) .nil .nil)))))) (.node (top.o_7 P) (.node (top.o_11 P) (.node (top.o_19 P) (.node (top.o_37 P) (.node (top.o_72 P) (.node (top.o_136 P) (.node (zEc b P) .nil .nil) .nil) (.node (top.o_286 P) (.node (zMw b P) .nil .nil) .nil)) (.node (top.o_104 P) (.node (top.o_168 P) (.node (zIT b P) .nil .nil) .nil) (.node (top.o_318 P) (.node (zQW b P) .nil .nil) .nil))) (.node (top.o_53 P) (.node (top.o_88 P) (.node (top.o_152 P) (.node (zDC b P) .nil .nil) .nil) (.node (top.o_302 P) (.node (zOC b P) .nil .nil) .nil)) (.node (top.o_120 P) (.node (top.o_184 P) (.node (zQn b P) .nil .nil) .nil) (.node (zBM b P) .nil .nil)))) (.node (top.o_27 P) (.node (top.o_45 P) (.node (top.o_80 P) (.node (top.o_144 P) (.node (zCz b P) .nil .nil) .nil) (.node (top.o_294 P) (.node (zIJ b P) .nil .nil) .nil)) (.node (top.o_112 P) (.node (top.o_176 P) (.node (zP6 b P) .nil .nil) .nil) (.node (zAM b P) .nil .nil))) (.node (top.o_61 P) (.node (top.o_96 P) (.node (top.o_160 P) (.node (zEi b P) .nil .nil) .nil) (.node (top.o_310 P) (.node (zLk b P) .nil .nil) .nil)) (.node (top.o_128 P) (.node (top.o_192 P) (.node (zQM b P) .nil .nil) .nil) (.node (zDx b P) .nil .nil))))) (.node (top.o_15 P) (.node (top.o_23 P) (.node (top.o_41 P) (.node (top.o_76 P) (.node (top.o_140 P) (.node (zDI b P) .nil .nil) .nil) (.node (top.o_290 P) (.node (zN6 b P) .nil .nil) .nil)) (.node (top.o_108 P) (.node (top.o_172 P) (.node (zEe b P) .nil .nil) .nil) (.node (top.o_322 P) .nil .nil))) (.node (top.o_57 P) (.node (top.o_92 P) (.node (top.o_156 P) (.node (zDu b P) .nil .nil) .nil) (.node (top.o_306 P) (.node (zIL b P) .nil .nil) .nil)) (.node (top.o_124 P) (.node (top.o_188 P) (.node (zO1 b P) .nil .nil) .nil) (.node (zBJ b P) .nil .nil)))) (.node (top.o_31 P) (.node (top.o_49 P) (.node (top.o_84 P) (.node (top.o_148 P) (.node (zEh b P) .nil .nil) .nil) (.node (top.o_298 P) (.node (zQ5 b P) .nil .nil) .nil)) (.node (top.o_116 P) (.node (top.o_180 P) (.node (zPB b P) .nil .nil) .nil) (.node (xB b P) .nil .nil))) (.node (top.o_68 P) (.node (top.o_100 P) (.node (top.o_164 P) (.node (zDG b P) .nil .nil) .nil) (.node (top.o_314 P) (.node (zOv b P) .nil .nil) .nil)) (.node (top.o_132 P) (.node (top.o_282 P) (.node (zOy b P) .nil .nil) .nil) (.node (zDT b P) .nil .nil))))))))
def zRM:List Stmt:=[st 64,st 65,st 66,st 67,st 68,st 69,st 70,st 71,st 72,st 73,st 74]
theorem g5 (b:Bool)(w:World)(os:OsState):segRunT treeTable pw w 28 ann 1 295 (sh (t4 b w.params) 298 2836 os) (piecesOf zRM top.env_1 cdE ⟨206,0,206,17⟩ fr0)=some (.next,sh (t5 b w.params) 358 2913 os,cdE,⟨276,0,306,62⟩):=zFY (by kernel_rfl)
end Mine
end
section
noncomputable section
namespace Mine
def Go (w:World)(n:Nat)(s:Shared)(t:Thread)(s':Shared)(t':Thread):Prop:=segGo treeTable pw w 28 ann 1 n s t=some (s',t')
theorem Go.trans {w:World}:∀{n m:Nat} {s s' s2:Shared} {t t' t2:Thread},Go w n s t s' t'->Go w m s' t' s2 t2->Go w (n + m) s t s2 t2
 | 0,m,s,s',s2,t,t',t2,h,k=>by
  simp only [Go,segGo,Option.some.injEq,Prod.mk.injEq] at h;obtain ⟨rfl,rfl⟩:=h;rw [Nat.zero_add]; exact k
 | n + 1,m,s,s',s2,t,t',t2,h,k=>by
  rw [show n + 1 + m=n + m + 1 by omega];unfold Go segGo at h ⊢;cases he:endAt 1 t with
  | some f=>rw [he] at h; cases h
  | none=>
   rw [he] at h;cases hk:stepOk 28 ann t with
   | false=>rw [hk] at h; cases h
   | true=>
    rw [hk] at h;cases hs:step (denote treeTable) pw w s t with
    | halt o s3=>rw [hs] at h; cases h
    | go s3 t3=>rw [hs] at h; exact Go.trans h k
@[reducible] def at0 (m:Sem Fin) (pos:Pos):Thread:=⟨m,cdE,pos,fr0⟩
def Ev {α:Type}(w:World)(m:Sem α)(s:Shared)(a:α)(s':Shared)(n:Nat):Prop:=
 ∀(K:α->Sem Fin) (H:Value->Sem Fin) (gd:Bool->Bool) (lv:List Value->List Value) (pos:Pos),∃pos',Go w n s (at0 (m.wrap K H gd lv) pos) s' (at0 (K a) pos')
section
variable {α β:Type} {w:World} {s s' s2:Shared} {n m':Nat}
theorem Ev.pure {a:α}:Ev w (pure a) s a s 0:=fun K H gd lv pos=>⟨pos,rfl⟩
theorem Ev.bind {m:Sem α}{f:α->Sem β}{a:α}{b:β}(h1:Ev w m s a s' n)(h2:Ev w (f a) s' b s2 m'):Ev w (m >>=f) s b s2 (n + m'):=fun K H gd lv pos=>by
 rw [Sem.bind_eq_wrap',Sem.wrap_wrap];obtain ⟨p1,e1⟩:=h1 (fun a=>(f a).wrap K H gd lv) (fun e=>(Sem.raise e).wrap K H gd lv) (fun g=>gd (id g)) (fun l=>lv (id l)) pos;obtain ⟨p2,e2⟩:=h2 K H gd lv p1;exact ⟨p2,e1.trans e2⟩
theorem Ev.keep {m:Sem α}{vs:List Value}{a:α}(h:Ev w m s a s' n):Ev w (m.keep vs) s a s' n:=fun K H gd lv pos=>by
 rw [Sem.keep_eq_wrap,Sem.wrap_wrap];exact h K (fun e=>(Sem.raise e).wrap K H gd lv) (fun g=>gd (id g)) (fun l=>lv (vs ++ l)) pos
theorem Ev.onRaise {m:Sem α}{k:Value->Sem Unit}{a:α}(h:Ev w m s a s' n):Ev w (m.onRaise k) s a s' n:=fun K H gd lv pos=>by
 rw [Sem.onRaise_eq_wrap,Sem.wrap_wrap];exact h K _ _ _ pos
theorem Ev.holding {m:Sem α}{vs:List Value}{a:α}(h:Ev w m s a s' n):Ev w (holding vs m) s a s' n:=by
 unfold PySem.holding;split
 ·exact h
 ·exact h.keep
theorem Ev.rule {t:String}:Ev w (rule t) s () s 1:=fun K H gd lv pos=>⟨pos,by obtain ⟨h,g,d,t,os⟩:=s; rfl⟩
theorem Ev.standAt {p:Pos}:Ev w (standAt p) s () s 1:=fun K H gd lv pos=>⟨p,by obtain ⟨h,g,d,t,os⟩:=s; rfl⟩
theorem Ev.point:Ev w point s () s 1:=fun K H gd lv pos=>⟨pos,by obtain ⟨h,g,d,t,os⟩:=s; rfl⟩
theorem Ev.ask:Ev w ask s ⟨pw,w.params⟩ s 1:=fun K H gd lv pos=>⟨pos,by obtain ⟨h,g,d,t,os⟩:=s; rfl⟩
theorem Ev.fresh:Ev w fresh s s.toks {s with toks:=s.toks + 1} 1:=fun K H gd lv pos=>⟨pos,by obtain ⟨h,g,d,t,os⟩:=s; rfl⟩
theorem Go.one {t t':Thread}(h1:endAt 1 t=none)(h2:stepOk 28 ann t=true)(h3:step (denote treeTable) pw w s t= .go s' t'):Go w 1 s t s' t':=by
 unfold Go segGo;rw [h1,h2,h3];rfl
theorem Ev.loadPart {a:Addr}{q:Option Value}{o:Obj}(ho:s.heap.get? a=some o):Ev w (loadPart a q) s o s 1:=fun K H gd lv pos=>⟨pos,Go.one rfl rfl (by
 obtain ⟨h,g,d,t,os⟩:=s;show step _ pw w ⟨h,g,d,t,os⟩ ⟨.load a q fun x=>(Sem.pure x).wrap K H gd lv,cdE,pos,fr0⟩=_;simp only [step];rw [show h.get? a=some o from ho];rfl)⟩
theorem Ev.load {a:Addr}{o:Obj}(ho:s.heap.get? a=some o):Ev w (load a) s o s 1:=Ev.loadPart ho
theorem Ev.updatePart {a:Addr}{q:Option Value}{o:Obj}{f:Obj->Obj}(ho:s.heap.get? a=some o)(ha:Nat.ble 28 a=true):Ev w (updatePart a q f) s () {s with heap:=s.heap.update a f} 1:=fun K H gd lv pos=>⟨pos,Go.one rfl (by
  show (_ && (Nat.ble 28 a || a==mainNs || a==cStatics || ann==some (.ref a)))=true;rw [ha]; rfl) (by
 obtain ⟨h,g,d,t,os⟩:=s;show step _ pw w ⟨h,g,d,t,os⟩ ⟨.update a q f fun x=>(Sem.pure x).wrap K H gd lv,cdE,pos,fr0⟩=_;simp only [step];rw [show (h.get? a).isSome=true by rw [show h.get? a=some o from ho]; rfl];rfl)⟩
theorem Ev.alloc {o:Obj}:Ev w (alloc o) s s.heap.objs.size {s with heap:=s.heap.push o} 1:=fun K H gd lv pos=>⟨pos,Go.one rfl rfl (by
 obtain ⟨h,g,d,t,os⟩:=s;rfl)⟩
theorem Ev.cong {m:Sem α}{a:α}{s1:Shared}{n1:Nat}(h:Ev w m s a s' n)(e1:s'=s1)(e2:n=n1):Ev w m s a s1 n1:=by subst e1 e2; exact h
end
theorem Go.congr {w:World}{n:Nat}{s s':Shared}{t t' t2:Thread}(h:Go w n s t s' t')(e:t=t2):Go w n s t2 s' t':=e▸h
abbrev zRG:String:="special-get-raises"
theorem zKj (c:Bool)(w:World)(k:Int)(t:Nat)(heap:Heap)(gens:Array GenState)(d:Drawn)(tk:Nat)(os:OsState)(K:Int->Sem Fin)(H:Value->Sem Fin)(gd:Bool->Bool)(lv:List Value->List Value)(pos:Pos):
  segGo treeTable pw (w.withFollow zRG c) 28 ann 1 5 ⟨heap,gens,d,tk,os⟩ (at0 ((pyHash (.int k t)).wrap K H gd lv) pos)=
   some (⟨heap,gens,d,tk + 1,os⟩,at0 ((pyHashByItsType.reduced (rawHash k)).wrap K H gd lv) pos):=by
 cases c
 ·rw [Fast.te3277212676724774461,Fast.te14364793385576792824]
  kernel_rfl
 ·rw [Fast.te3277212676724774461,Fast.te14364793385576792824]
  kernel_rfl
theorem zGF (w:World)(k:Int)(t:Nat)(s:Shared)(K:Int->Sem Fin)(H:Value->Sem Fin)(gd:Bool->Bool)(lv:List Value->List Value)(pos:Pos):
  Go w 5 s (at0 ((pyHash (.int k t)).wrap K H gd lv) pos) {s with toks:=s.toks + 1} (at0 ((pyHashByItsType.reduced (rawHash k)).wrap K H gd lv) pos):=by
 obtain ⟨heap,gens,d,tk,os⟩:=s;have:=zKj (w.params.followText zRG) w k t heap gens d tk os K H gd lv pos;rw [World.withFollow_self] at this;exact this
theorem zKd {k:Int}(h0:0<=k)(h1:k < 2 ^ 60):rawHash k=k:=by
 unfold rawHash;have e:(((k.natAbs % (2 ^ 61 - 1:Nat):Nat)):Int)=k:=by
  rw [Nat.mod_eq_of_lt (by omega)]; omega
 dsimp only;have e1:((k.natAbs:Int) % ((2 ^ 61 - 1:Nat):Int))=k:=by
  rw [<-Int.natCast_emod]; exact e
 rw [e1,if_neg (by omega:¬k < 0)];rw [if_neg (by rw [beq_iff_eq]; omega)]
theorem Ev.hash {w:World}{s:Shared}{k:Int}{t:Nat}(h0:0<=k)(h1:k < 2 ^ 60):Ev w (pyHash (.int k t)) s k {s with toks:=s.toks + 1} 5:=fun K H gd lv pos=>by
 refine ⟨pos,?_⟩;have:=zGF w k t s K H gd lv pos;rw [zKd h0 h1] at this;have e:pyHashByItsType.reduced k=Pure.pure k:=by
  unfold pyHashByItsType.reduced;have c1:(decide (-(2 ^ 63:Int)<=k) && decide (k < 2 ^ 63))=true:=by
   rw [Bool.and_eq_true]; exact ⟨decide_eq_true (by omega),decide_eq_true (by omega)⟩
  have c2:(k==-1)=false:=by rw [beq_eq_false_iff_ne]; omega
  rw [if_pos c1,if_neg (by rw [c2]; exact Bool.false_ne_true)]
 rw [e] at this;exact this
abbrev dOf (es:List DictEntry)(n:Nat):Obj:={cls:= .type "dict",data:= .dict es.toArray n}
theorem zHT {es:List DictEntry}{k:Int}(h:∀e∈es,e.hash≠k):placesWithHash es.toArray.size (fun i=>es.toArray[i]?.map (·.hash)) k=[]:=by
 unfold placesWithHash;rw [List.filter_eq_nil_iff];intro i _ hi;dsimp only at hi;rw [List.getElem?_toArray] at hi;cases q:es[i]? with
 | none=>rw [q] at hi; cases hi
 | some e=>
  rw [q] at hi;simp only [Option.map_some,beq_iff_eq,Option.some.injEq] at hi;exact h e (List.mem_of_getElem? q) hi
theorem Ev.find_none {w:World}{s:Shared}{d:Addr}{es:List DictEntry}{ep:Nat}{k:Int}{t:Nat}(ho:s.heap.get? d=some (dOf es ep))(h:∀e∈es,e.hash≠k):
  Ev w (dictFind d (.int k t) k) s none s 1:=by
 unfold dictFind;refine Ev.holding ?_;have e1:Ev w (dictEntries d (keyPart (.int k t))) s es.toArray s 1:=by
  unfold dictEntries;exact (Ev.bind (Ev.loadPart ho) (m':=0) (by exact Ev.pure)).cong rfl rfl
 refine (Ev.bind e1 (m':=0) ?_).cong rfl rfl;dsimp only;rw [zHT h];exact Ev.pure
theorem zE2 {h:Heap}{d:Addr}{f:Obj->Obj}{o:Obj}(ho:h.get? d=some o):h.update d f=h.update d (fun _=>f o):=by
 obtain ⟨objs,life⟩:=h;have e:objs[d]? =some o:=by
  unfold Heap.get? at ho;dsimp only at ho;split at ho
  ·cases ho
  ·exact ho
 show Heap.mk _ _=Heap.mk _ _;refine congrArg (Heap.mk · life) ?_;apply Array.ext_getElem?;intro i;rw [Array.getElem?_modify,Array.getElem?_modify];split
 ·rename_i q; subst q; rw [e]; rfl
 ·rfl
theorem zBk {h:Heap}{d:Addr}{o o':Obj}(ho:h.get? d=some o)(hf:o'.isFreed=false):(h.update d (fun _=>o')).get? d=some o':=Heap.get?_update_self (fun _=>o') ho hf
theorem Ev.setNew {w:World}{s:Shared}{d:Addr}{es:List DictEntry}{ep:Nat}{k:Int}{t:Nat}{v:Value}(ho:s.heap.get? d=some (dOf es ep))(h:∀e∈es,e.hash≠k)(hd:Nat.ble 28 d=true)(hz:es.length<=1000):
  Ev w (dictSetHashed d (.int k t) k v) s () {s with heap:=s.heap.update d (fun _=>dOf (es ++ [⟨k,.int k t,v⟩]) (ep + 1))} 5:=by
 unfold dictSetHashed;refine Ev.holding ?_;refine (Ev.bind (Ev.find_none ho h) (m':=4) ?_).cong rfl rfl;dsimp only;refine (Ev.bind Ev.rule (m':=3) ?_).cong rfl rfl;unfold updateDictKeys;refine (Ev.bind (Ev.loadPart ho) (m':=2) ?_).cong rfl rfl;dsimp only;have e:=Ev.updatePart (w:=w) (q:=keyPart (.int k t)) (f:=Obj.mapDictKeys (·.push ⟨k,.int k t,v⟩)) ho hd;rw [zE2 ho] at e;have eo:Obj.mapDictKeys (·.push ⟨k,.int k t,v⟩) (dOf es ep)=dOf (es ++ [⟨k,.int k t,v⟩]) (ep + 1):=by
  show Obj.mk _ _ (Data.dict (es.toArray.push _) _) _=Obj.mk _ _ _ _;rw [List.push_toArray]
 rw [eo] at e;refine (Ev.bind e (m':=1) ?_).cong rfl rfl;unfold lookBehind;refine (Ev.bind (Ev.loadPart (zBk ho rfl)) (m':=0) ?_).cong rfl rfl;have:(dOf (es ++ [⟨k,.int k t,v⟩]) (ep + 1)).data.pastItsLine=none:=pastItsLine_dict (by rw [List.size_toArray,List.length_append,sizeLine_eq]; simp; omega);rw [this];exact Ev.pure
theorem zFS {h:Heap}{d:Addr}{a b:Obj}:(h.update d (fun _=>a)).update d (fun _=>b)=h.update d (fun _=>b):=by
 obtain ⟨objs,life⟩:=h;show Heap.mk _ _=Heap.mk _ _;refine congrArg (Heap.mk · life) ?_;apply Array.ext_getElem?;intro i;simp only [Array.getElem?_modify];split
 ·cases objs[i]? <;>rfl
 ·rfl
theorem zC0 {h:Heap}{d:Addr}{o:Obj}(ho:h.get? d=some o):h.update d (fun _=>o)=h:=by
 obtain ⟨objs,life⟩:=h;have e:objs[d]? =some o:=by
  unfold Heap.get? at ho;dsimp only at ho;split at ho
  ·cases ho
  ·exact ho
 show Heap.mk _ _=Heap.mk _ _;refine congrArg (Heap.mk · life) ?_;apply Array.ext_getElem?;intro i;simp only [Array.getElem?_modify];split
 ·rename_i q; subst q; rw [e]; rfl
 ·rfl
theorem Ev.set {w:World}{s:Shared}{d:Addr}{es:List DictEntry}{ep:Nat}{k:Int}{t:Nat}{v:Value}(h0:0<=k)(h1:k < 2 ^ 60)(ho:s.heap.get? d=some (dOf es ep))(h:∀e∈es,e.hash≠k)(hd:Nat.ble 28 d=true)(hz:es.length<=1000):
  Ev w (dictSet d (.int k t) v) s () {s with heap:=s.heap.update d (fun _=>dOf (es ++ [⟨k,.int k t,v⟩]) (ep + 1)),toks:=s.toks + 1} 10:=by
 unfold dictSet;refine Ev.holding ?_;exact (Ev.bind (Ev.hash h0 h1) (Ev.setNew (s:={s with toks:=s.toks + 1}) ho h hd hz)).cong rfl rfl
def asc:Int->List (Int×Str)->Bool
 | _,[]=>true
 | lo,p::r=>decide (lo<=p.1) && decide (p.1 < 2 ^ 60) && asc (p.1 + 1) r
def yG:Nat->List (Int×Str)->List DictEntry
 | _,[]=>[]
 | tk,p::r=>⟨p.1,.int p.1 tk,.str p.2 (tk + 1)⟩::yG (tk + 3) r
theorem xK:∀(tk:Nat) (q:List (Int×Str)),(yG tk q).length=q.length
 | _,[]=>rfl
 | tk,p::r=>congrArg (· + 1) (xK (tk + 3) r)
abbrev pr (pos:Pos)(p:Int×Str):Sem Value×Sem Value:=(mkInt p.1,do let x <-mkText p.2; standAt pos; pure x)
theorem Ev.mkInt {w:World}{s:Shared}{i:Int}:Ev w (mkInt i) s (.int i s.toks) {s with toks:=s.toks + 1} 1:=by
 unfold PySem.mkInt;exact (Ev.bind Ev.fresh (m':=0) (by exact Ev.pure)).cong rfl rfl
theorem Ev.mkText {w:World}{s:Shared}{x:Str}:Ev w (mkText x) s (.str x s.toks) {s with toks:=s.toks + 1} 1:=by
 unfold PySem.mkText;exact (Ev.bind Ev.fresh (m':=0) (by exact Ev.pure)).cong rfl rfl
theorem zJH {w:World}{d:Addr}{pos:Pos}(hd:Nat.ble 28 d=true):∀(q:List (Int×Str)) (lo:Int) (es:List DictEntry) (ep:Nat) (s:Shared),0<=lo->asc lo q=true->s.heap.get? d=some (dOf es ep)->
  (∀e∈es,e.hash < lo)->es.length + q.length<=1000->
  Ev w (forIn (q.map (pr pos)) PUnit.unit fun x (_:PUnit)=>match x with | (k,v)=>do
    let kv <-k
    let vv <-holding [kv] v
    holding [kv,vv] (dictSet d kv vv)
    pure (ForInStep.yield PUnit.unit)) s PUnit.unit {s with heap:=s.heap.update d (fun _=>dOf (es ++ yG s.toks q) (ep + q.length)),toks:=s.toks + 3 * q.length} (13 * q.length)
 | [],lo,es,ep,s,_,_,ho,_,_=>by
  refine Ev.cong (n:=0) (s':=s) (by exact Ev.pure) ?_ rfl;simp only [yG,List.append_nil,List.length_nil,Nat.add_zero,Nat.mul_zero];rw [zC0 ho]
 | p::r,lo,es,ep,s,hlo,ha,ho,hes,hz=>by
  simp only [asc,Bool.and_eq_true,decide_eq_true_eq] at ha;obtain ⟨⟨a1,a2⟩,a3⟩:=ha;rw [List.map_cons,List.forIn_cons];simp only [List.length_cons] at hz;have e1:Ev w (pr pos p).1 s (.int p.1 s.toks) {s with toks:=s.toks + 1} 1:=Ev.mkInt;have e2:Ev w (holding [.int p.1 s.toks] (pr pos p).2) {s with toks:=s.toks + 1} (.str p.2 (s.toks + 1)) {s with toks:=s.toks + 1 + 1} 2:=
   Ev.holding ((Ev.bind Ev.mkText (m':=1) ((Ev.bind Ev.standAt (m':=0) (by exact Ev.pure)).cong rfl rfl)).cong rfl rfl)
  have e3:=Ev.set (w:=w) (s:={s with toks:=s.toks + 1 + 1}) (t:=s.toks) (v:= .str p.2 (s.toks + 1)) (by omega) a2 ho (fun e he=>by have:=hes e he; omega) hd (by omega);have ih:=zJH (w:=w) (pos:=pos) hd r (p.1 + 1) (es ++ [⟨p.1,.int p.1 s.toks,.str p.2 (s.toks + 1)⟩]) (ep + 1)
   {s with heap:=s.heap.update d (fun _=>dOf (es ++ [⟨p.1,.int p.1 s.toks,.str p.2 (s.toks + 1)⟩]) (ep + 1)),toks:=s.toks + 1 + 1 + 1} (by omega) a3 (zBk ho rfl)
   (fun e he=>by
    rcases List.mem_append.mp he with q | q
    ·have:=hes e q; omega
    ·rcases List.mem_singleton.mp q with rfl; show p.1 < p.1 + 1; omega) (by simp only [List.length_append,List.length_cons,List.length_nil]; omega)
  refine (Ev.bind (Ev.bind e1 (Ev.bind e2 (Ev.bind (Ev.holding e3) (m':=0) (by exact Ev.pure)))) (by exact ih)).cong ?_ ?_
  ·simp only [zFS,yG,List.append_assoc,List.cons_append,List.nil_append,List.length_cons]
   have t1:s.toks + 1 + 1 + 1 + 3 * r.length=s.toks + 3 * (r.length + 1):=by omega
   have t2:ep + 1 + r.length=ep + (r.length + 1):=by omega
   rw [t1,t2]
  ·simp only [List.length_cons]; omega
theorem Ev.entries {w:World}{s:Shared}{a:Addr}{q:Option Value}{es:List DictEntry}{ep:Nat}(ho:s.heap.get? a=some (dOf es ep)):Ev w (dictEntries a q) s es.toArray s 1:=by
 unfold dictEntries;exact (Ev.bind (Ev.loadPart ho) (m':=0) (by exact Ev.pure)).cong rfl rfl
theorem Ev.epoch {w:World}{s:Shared}{a:Addr}{q:Option Value}{es:List DictEntry}{ep:Nat}(ho:s.heap.get? a=some (dOf es ep)):Ev w (dictEpoch a q) s ep s 1:=by
 unfold dictEpoch;exact (Ev.bind (Ev.loadPart ho) (m':=0) (by exact Ev.pure)).cong rfl rfl
theorem Ev.putNew {w:World}{s:Shared}{d:Addr}{es:List DictEntry}{ep:Nat}{k:Int}{t:Nat}{v:Value}(ho:s.heap.get? d=some (dOf es ep))(h:∀e∈es,e.hash≠k)(hd:Nat.ble 28 d=true)(hz:es.length<=1000):
  Ev w (dictPut d k (.int k t) v) s () {s with heap:=s.heap.update d (fun _=>dOf (es ++ [⟨k,.int k t,v⟩]) (ep + 1))} 4:=by
 unfold dictPut;refine (Ev.bind (Ev.find_none ho h) (m':=3) ?_).cong rfl rfl;dsimp only;unfold updateDictKeys;refine (Ev.bind (Ev.loadPart ho) (m':=2) ?_).cong rfl rfl;dsimp only;have e:=Ev.updatePart (w:=w) (q:=none) (f:=Obj.mapDictKeys (·.push ⟨k,.int k t,v⟩)) ho hd;rw [zE2 ho] at e;have eo:Obj.mapDictKeys (·.push ⟨k,.int k t,v⟩) (dOf es ep)=dOf (es ++ [⟨k,.int k t,v⟩]) (ep + 1):=by
  show Obj.mk _ _ (Data.dict (es.toArray.push _) _) _=Obj.mk _ _ _ _;rw [List.push_toArray]
 rw [eo] at e;refine (Ev.bind e (m':=1) ?_).cong rfl rfl;unfold lookBehind;refine (Ev.bind (Ev.loadPart (zBk ho rfl)) (m':=0) ?_).cong rfl rfl;have:(dOf (es ++ [⟨k,.int k t,v⟩]) (ep + 1)).data.pastItsLine=none:=pastItsLine_dict (by rw [List.size_toArray,List.length_append,sizeLine_eq]; simp; omega);rw [this];exact Ev.pure
def zBt (es:List DictEntry):Prop:=∀e∈es,∃t,e.key= .int e.hash t
def zBB:List DictEntry->List DictEntry->Prop
 | _,[]=>True
 | es,e::r=>(∀x∈es,x.hash≠e.hash)/\zBB (es ++ [e]) r
theorem zAe {w:World}{d a:Addr}{sub:List DictEntry}{epa:Nat}(hd:Nat.ble 28 d=true)(hk:zBt sub)(hda:d≠a):∀(m i:Nat) (es:List DictEntry) (ep:Nat) (s:Shared),i + m=sub.length->
  s.heap.get? d=some (dOf es ep)->s.heap.get? a=some (dOf sub epa)->zBB es (sub.drop i)->es.length + m<=1000->
  Ev w (forIn (List.range' i m) PUnit.unit fun i (_:PUnit)=>do
    let __do_lift <-dictEntries a
    match __do_lift[i]? with
     | some e=>do
      holding [e.key,e.val]
        (if false=true then do
         let __do_lift <-dictFind d e.key e.hash
         if __do_lift.isSome=true then do
           rule "dict.merge.duplicate-key"
           let __do_lift <-newExc (Value.type "KeyError") [e.key]
           raiseNew __do_lift
           dictPut d e.hash e.key e.val
          else dictPut d e.hash e.key e.val
        else dictPut d e.hash e.key e.val)
      let __do_lift <-dictEpoch a
      if (__do_lift !=epa)=true then do
        unsupported "dict.changed-during-merge"
        pure (ForInStep.yield PUnit.unit)
       else pure (ForInStep.yield PUnit.unit)
     | x=>do
      unsupported "dict.changed-during-merge"
      pure (ForInStep.yield PUnit.unit)) s PUnit.unit {s with heap:=s.heap.update d (fun _=>dOf (es ++ sub.drop i) (ep + m))} (6 * m)
 | 0,i,es,ep,s,hi,ho,ha,hp,hz=>by
  refine Ev.cong (n:=0) (s':=s) (by exact Ev.pure) ?_ rfl;have:sub.drop i=[]:=List.drop_eq_nil_iff.mpr (by omega);rw [this,List.append_nil,Nat.add_zero,zC0 ho]
 | m + 1,i,es,ep,s,hi,ho,ha,hp,hz=>by
  rw [List.range'_succ,List.forIn_cons];have hlt:i < sub.length:=by omega
  have hdr:sub.drop i=sub[i]::sub.drop (i + 1):=List.drop_eq_getElem_cons hlt;rw [hdr] at hp;obtain ⟨p1,p2⟩:=hp;obtain ⟨t,ht⟩:=hk sub[i] (List.getElem_mem hlt);have e2:=Ev.putNew (w:=w) (t:=t) (v:=sub[i].val) ho p1 hd (by omega);have heq:(⟨sub[i].hash,.int sub[i].hash t,sub[i].val⟩:DictEntry)=sub[i]:=by rw [<-ht]
  rw [heq] at e2;have ha':({s with heap:=s.heap.update d (fun _=>dOf (es ++ [sub[i]]) (ep + 1))}:Shared).heap.get? a=some (dOf sub epa):=(Heap.get?_update_ne _ _ _ _ (Ne.symm hda)).trans ha;have ih:=zAe (w:=w) (epa:=epa) hd hk hda m (i + 1) (es ++ [sub[i]]) (ep + 1) {s with heap:=s.heap.update d (fun _=>dOf (es ++ [sub[i]]) (ep + 1))} (by omega) (zBk ho rfl) ha' p2
   (by simp only [List.length_append,List.length_cons,List.length_nil]; omega)
  refine (Ev.bind (n:=6) (a:=ForInStep.yield PUnit.unit) ((Ev.bind (Ev.entries ha) (m':=5) (b:=ForInStep.yield PUnit.unit) (s2:={s with heap:=s.heap.update d (fun _=>dOf (es ++ [sub[i]]) (ep + 1))}) ?_).cong rfl rfl) (by exact ih)).cong ?_ ?_
  ·rw [List.getElem?_toArray,List.getElem?_eq_getElem hlt]
   dsimp only;rw [ht];rw [if_neg Bool.false_ne_true];refine (Ev.bind (Ev.holding e2) (m':=1) ((Ev.bind (Ev.epoch ha') (m':=0) ?_).cong rfl rfl)).cong rfl rfl;rw [if_neg (by simp)];exact Ev.pure
  ·simp only [zFS,List.append_assoc,List.cons_append,List.nil_append]
   rw [hdr];have:ep + 1 + m=ep + (m + 1):=by omega
   rw [this]
  ·omega
theorem zMn:isSubtype (.type "dict") (.type "dict")=pure true:=by rw [isSubtype_type]; kernel_rfl
theorem zKg:typeLookup (.type "dict") (Str.ofString "__iter__")=pure (some (.builtin "dict.__iter__")):=by rw [typeLookup_type,builtinLookup_eq_fast]; kernel_rfl
theorem Ev.typeDict {w:World}{s:Shared}{a:Addr}{es:List DictEntry}{ep:Nat}(ho:s.heap.get? a=some (dOf es ep)):Ev w (typeOf (.ref a)) s (.type "dict") s 1:=by
 unfold typeOf;exact (Ev.bind (Ev.loadPart ho) (m':=0) (by exact Ev.pure)).cong rfl rfl
theorem Ev.merge {w:World}{s:Shared}{d a:Addr}{es sub:List DictEntry}{ep epa:Nat}(hd:Nat.ble 28 d=true)(hk:zBt sub)(hda:d≠a)(hne:es≠[])(hs:(a==sysModules)=false)
  (ho:s.heap.get? d=some (dOf es ep)) (ha:s.heap.get? a=some (dOf sub epa)) (hp:zBB es sub) (hz:es.length + sub.length<=1000):
  Ev w (mergeMapping d (.ref a) false) s () {s with heap:=s.heap.update d (fun _=>dOf (es ++ sub) (ep + sub.length))} (5 + 6 * sub.length):=by
 unfold mergeMapping;dsimp only;have e1:Ev w (isInstance (.ref a) (.type "dict")) s true s 1:=by
  unfold isInstance;refine (Ev.bind (Ev.typeDict ha) (m':=0) ?_).cong rfl rfl;rw [zMn]; exact Ev.pure
 have e2:Ev w (specialOf (.ref a) (Str.ofString "__iter__")) s (some (.builtin "dict.__iter__")) s 1:=by
  unfold specialOf;refine (Ev.bind (Ev.typeDict ha) (m':=0) ?_).cong rfl rfl;rw [zKg]; exact Ev.pure
 refine (Ev.bind e1 (m':=4 + 6 * sub.length) ?_).cong rfl (by omega);rw [if_pos rfl];refine (Ev.bind e2 (m':=3 + 6 * sub.length) ?_).cong rfl (by omega);refine (Ev.bind (n:=0) (by exact Ev.pure) (m':=3 + 6 * sub.length) ?_).cong rfl (by omega);have b1:(some (Value.builtin "dict.__iter__")==some (Value.builtin "dict.__iter__"))=true:=by decide +kernel
 rw [b1];dsimp only;rw [hs,if_neg Bool.false_ne_true];refine (Ev.bind (Ev.entries ho) (m':=2 + 6 * sub.length) ?_).cong rfl (by omega);have b2:es.toArray.isEmpty=false:=by cases es with | nil=>exact absurd rfl hne | cons _ _=>rfl
 rw [b2,if_neg Bool.false_ne_true];refine (Ev.bind (Ev.entries ha) (m':=1 + 6 * sub.length) ?_).cong rfl (by omega);refine (Ev.bind (Ev.epoch ha) (m':=6 * sub.length) ?_).cong rfl (by omega);rw [List.size_toArray,List.range_eq_range'];have:=zAe (w:=w) (epa:=epa) hd hk hda sub.length 0 es ep s (by omega) ho ha hp hz;exact (Ev.bind this (m':=0) (by exact Ev.pure)).cong rfl rfl
theorem zGz {h:Heap}{o o':Obj}:(h.push o).update h.objs.size (fun _=>o')=h.push o':=by
 obtain ⟨objs,life⟩:=h;show Heap.mk _ _=Heap.mk _ _;refine congrArg (Heap.mk · life) ?_;apply Array.ext_getElem?;intro i;simp only [Array.getElem?_modify,Array.getElem?_push];split
 ·rename_i q; subst q; simp
 ·split
  ·rename_i q1 q2; exact absurd q2.symm q1
  ·rfl
theorem Ev.subLong {w:World}{s:Shared}{pos:Pos}{q:List (Int×Str)}{lo:Int}(hlo:0<=lo)(ha:asc lo q=true)(hl:15 < q.length)(hz:q.length<=1000)(hd:Nat.ble 28 s.heap.objs.size=true):
  Ev w (subDict (q.map (pr pos))) s s.heap.objs.size {s with heap:=s.heap.push (dOf (yG s.toks q) q.length),toks:=s.toks + 3 * q.length} (2 + 13 * q.length):=by
 unfold subDict;refine (Ev.bind Ev.alloc (m':=1 + 13 * q.length) ?_).cong rfl (by omega);refine (Ev.bind (n:=1 + 13 * q.length) (m':=0) (s':={s with heap:=s.heap.push (dOf (yG s.toks q) q.length),toks:=s.toks + 3 * q.length}) (a:=()) (Ev.holding ?_) (by exact Ev.pure)).cong rfl (by omega);rw [List.length_map,if_neg (by omega)];refine (Ev.bind Ev.rule (m':=13 * q.length) ?_).cong rfl (by omega);have:=zJH (w:=w) (pos:=pos) hd q lo [] 0 {s with heap:=s.heap.push (dOf [] 0)} hlo ha (Heap.get?_push_size _ rfl) (fun e he=>nomatch he) (by simp only [List.length_nil]; omega);refine (Ev.bind this (m':=0) (by exact Ev.pure)).cong ?_ rfl;simp only [zGz,List.nil_append,Nat.zero_add]
def kF:Nat->Nat->List (Int×Str)->List DictEntry
 | _,_,[]=>[]
 | tk,u,p::r=>⟨p.1,.int p.1 tk,.str p.2 (tk + 1)⟩::kF (tk + 2) u r
def zI1:Nat->List (Int×Str)->List (Value×Value)
 | _,[]=>[]
 | tk,p::r=>(.int p.1 tk,.str p.2 (tk + 1))::zI1 (tk + 2) r
theorem zGX {w:World}{pos:Pos}:∀(q:List (Int×Str)) (s:Shared),Ev w (evalPairs (q.map (pr pos))) s (zI1 s.toks q) {s with toks:=s.toks + 2 * q.length} (3 * q.length)
 | [],s=>by exact Ev.pure
 | p::r,s=>by
  rw [List.map_cons];unfold evalPairs;have e1:Ev w (pr pos p).1 s (.int p.1 s.toks) {s with toks:=s.toks + 1} 1:=Ev.mkInt;have e2:Ev w (holding [.int p.1 s.toks] (pr pos p).2) {s with toks:=s.toks + 1} (.str p.2 (s.toks + 1)) {s with toks:=s.toks + 1 + 1} 2:=
   Ev.holding ((Ev.bind Ev.mkText (m':=1) ((Ev.bind Ev.standAt (m':=0) (by exact Ev.pure)).cong rfl rfl)).cong rfl rfl)
  have ih:=zGX (w:=w) (pos:=pos) r {s with toks:=s.toks + 1 + 1};refine (Ev.bind e1 (Ev.bind e2 (Ev.bind (Ev.holding ih) (m':=0) (by exact Ev.pure)))).cong ?_ ?_
  ·simp only [List.length_cons]
   have:s.toks + 1 + 1 + 2 * r.length=s.toks + 2 * (r.length + 1):=by omega
   rw [this]
  ·simp only [List.length_cons]; omega
theorem zGt {w:World}{d:Addr}(hd:Nat.ble 28 d=true):∀(q:List (Int×Str)) (lo:Int) (tk:Nat) (es:List DictEntry) (ep:Nat) (s:Shared),0<=lo->asc lo q=true->s.heap.get? d=some (dOf es ep)->
  (∀e∈es,e.hash < lo)->es.length + q.length<=1000->
  Ev w (forIn (zI1 tk q) PUnit.unit fun x (_:PUnit)=>match x with | (k,v)=>do
    dictSet d k v
    pure (ForInStep.yield PUnit.unit)) s PUnit.unit {s with heap:=s.heap.update d (fun _=>dOf (es ++ kF tk 0 q) (ep + q.length)),toks:=s.toks + q.length} (10 * q.length)
 | [],lo,tk,es,ep,s,_,_,ho,_,_=>by
  refine Ev.cong (n:=0) (s':=s) (by exact Ev.pure) ?_ rfl;simp only [kF,List.append_nil,List.length_nil,Nat.add_zero];rw [zC0 ho]
 | p::r,lo,tk,es,ep,s,hlo,ha,ho,hes,hz=>by
  simp only [asc,Bool.and_eq_true,decide_eq_true_eq] at ha;obtain ⟨⟨a1,a2⟩,a3⟩:=ha;simp only [zI1];rw [List.forIn_cons];simp only [List.length_cons] at hz;have e3:=Ev.set (w:=w) (s:=s) (t:=tk) (v:= .str p.2 (tk + 1)) (by omega) a2 ho (fun e he=>by have:=hes e he; omega) hd (by omega);have ih:=zGt (w:=w) hd r (p.1 + 1) (tk + 2) (es ++ [⟨p.1,.int p.1 tk,.str p.2 (tk + 1)⟩]) (ep + 1)
   {s with heap:=s.heap.update d (fun _=>dOf (es ++ [⟨p.1,.int p.1 tk,.str p.2 (tk + 1)⟩]) (ep + 1)),toks:=s.toks + 1} (by omega) a3 (zBk ho rfl)
   (fun e he=>by
    rcases List.mem_append.mp he with q | q
    ·have:=hes e q; omega
    ·rcases List.mem_singleton.mp q with rfl; show p.1 < p.1 + 1; omega) (by simp only [List.length_append,List.length_cons,List.length_nil]; omega)
  refine (Ev.bind (Ev.bind e3 (m':=0) (by exact Ev.pure)) (by exact ih)).cong ?_ ?_
  ·simp only [zFS,kF,List.append_assoc,List.cons_append,List.nil_append,List.length_cons]
   have t1:s.toks + 1 + r.length=s.toks + (r.length + 1):=by omega
   have t2:ep + 1 + r.length=ep + (r.length + 1):=by omega
   rw [t1,t2]
  ·simp only [List.length_cons]; omega
theorem Ev.subShort {w:World}{s:Shared}{pos:Pos}{q:List (Int×Str)}{lo:Int}(hlo:0<=lo)(ha:asc lo q=true)(hl:q.length<=15)(hd:Nat.ble 28 s.heap.objs.size=true):
  Ev w (subDict (q.map (pr pos))) s s.heap.objs.size {s with heap:=s.heap.push (dOf (kF s.toks 0 q) q.length),toks:=s.toks + 3 * q.length} (1 + 13 * q.length):=by
 unfold subDict;refine (Ev.bind Ev.alloc (m':=13 * q.length) ?_).cong rfl (by omega);refine (Ev.bind (n:=13 * q.length) (m':=0) (s':={s with heap:=s.heap.push (dOf (kF s.toks 0 q) q.length),toks:=s.toks + 3 * q.length}) (a:=()) (Ev.holding ?_) (by exact Ev.pure)).cong rfl (by omega);rw [List.length_map,if_pos hl];have p:=zGX (w:=w) (pos:=pos) q {s with heap:=s.heap.push (dOf [] 0)};have:=zGt (w:=w) hd q lo s.toks [] 0 {s with heap:=s.heap.push (dOf [] 0),toks:=s.toks + 2 * q.length} hlo ha (Heap.get?_push_size _ rfl) (fun e he=>nomatch he) (by simp only [List.length_nil]; omega);refine (Ev.bind p (Ev.holding (Ev.bind this (m':=0) (by exact Ev.pure)))).cong ?_ (by omega);simp only [zGz,List.nil_append,Nat.zero_add];have:s.toks + 2 * q.length + q.length=s.toks + 3 * q.length:=by omega
 rw [this]
abbrev itm (pos:Pos)(p:Int×Str):Option (Sem Value)×Sem Value:=(some (mkInt p.1),do let x <-mkText p.2; standAt pos; pure x)
abbrev St2:=Option Addr×List (Sem Value×Sem Value)
def bf:{bf:(Option (Sem Value)×Sem Value->St2->Sem (ForInStep St2))×(St2->Sem Value) // ∀items,dictDisplay items=(forIn items ((none,[]):St2) bf.1) >>=bf.2}:=⟨(_,_),fun _=>rfl⟩
def vR (run:List (Sem Value×Sem Value))(main:Option Addr):Sem (Option Addr):=
 if run.isEmpty=true then pure main else match main with
  | none=>do let a <-subDict run; pure (some a)
  | some d=>do
   let sub <-holding [.ref d] (subDict run)
   (holding [.ref d,.ref sub] (mergeMapping d (.ref sub) false)).onRaise fun x=>do
    let _ <-holding [.ref d,x] (runValue (.builtin "proto.let_go" {}))
    pure ()
   pure (some d)
theorem zFz (k v:Sem Value)(m:Option Addr)(run:List (Sem Value×Sem Value)):bf.1.1 (some k,v) (m,run)=
  if ((run ++ [(k,v)]).length==17)=true then (vR (run ++ [(k,v)]) m >>=fun main=>pure (ForInStep.yield (main,[]))) else pure (ForInStep.yield (m,run ++ [(k,v)])):=rfl
theorem zQT (m:Option Addr)(run:List (Sem Value×Sem Value)):bf.1.2 (m,run)=(vR run m >>=fun r=>match r with | some d=>pure (.ref d) | none=>newDict):=rfl
theorem zEk {w:World}{pos:Pos}{rest:List (Option (Sem Value)×Sem Value)}{main main':Option Addr}{fin:St2}{s s1 s2:Shared}{n1 n2:Nat}:
  ∀(c r0:List (Int×Str)),c≠[]->r0.length + c.length=17->Ev w (vR ((r0 ++ c).map (pr pos)) main) s main' s1 n1->Ev w (forIn rest ((main',[]):St2) bf.1.1) s1 fin s2 n2->
  Ev w (forIn (c.map (itm pos) ++ rest) ((main,r0.map (pr pos)):St2) bf.1.1) s fin s2 (n1 + n2)
 | [],_,h,_,_,_=>absurd rfl h
 | [p],r0,_,hl,h1,h2=>by
  rw [List.map_cons,List.cons_append,List.forIn_cons,zFz];have e:r0.map (pr pos) ++ [pr pos p]=(r0 ++ [p]).map (pr pos):=by rw [List.map_append]; rfl
  rw [show (mkInt p.1,do let x <-mkText p.2; standAt pos; pure x)=pr pos p from rfl,e,if_pos (by rw [List.length_map,List.length_append]; simp only [List.length_cons,List.length_nil] at hl ⊢; rw [hl]; rfl)];have e2:Ev w (vR ((r0 ++ [p]).map (pr pos)) main >>=fun m=>pure (ForInStep.yield ((m,[]):St2))) s (ForInStep.yield (main',[])) s1 n1:=(Ev.bind h1 (m':=0) (by exact Ev.pure)).cong rfl rfl;exact Ev.bind e2 (by exact h2)
 | p::p2::r,r0,_,hl,h1,h2=>by
  rw [List.map_cons,List.cons_append,List.forIn_cons,zFz];have e:r0.map (pr pos) ++ [pr pos p]=(r0 ++ [p]).map (pr pos):=by rw [List.map_append]; rfl
  rw [show (mkInt p.1,do let x <-mkText p.2; standAt pos; pure x)=pr pos p from rfl,e,if_neg (by
   rw [List.length_map,List.length_append]; simp only [List.length_cons,List.length_nil] at hl ⊢;rw [beq_iff_eq]; omega)]
  have ih:=zEk (w:=w) (pos:=pos) (rest:=rest) (main:=main) (main':=main') (fin:=fin) (s:=s) (s1:=s1) (s2:=s2) (p2::r) (r0 ++ [p]) (by simp) (by simp only [List.length_append,List.length_cons,List.length_nil] at hl ⊢; omega)
   (by rw [List.append_assoc]; exact h1) h2
  have e2:Ev w (pure (ForInStep.yield ((main,(r0 ++ [p]).map (pr pos)):St2))) s (ForInStep.yield (main,(r0 ++ [p]).map (pr pos))) s 0:=Ev.pure;exact (Ev.bind e2 (by exact ih)).cong rfl (by omega)
theorem zJl {w:World}{pos:Pos}{main:Option Addr}{s:Shared}:∀(c r0:List (Int×Str)),r0.length + c.length < 17->
  Ev w (forIn (c.map (itm pos)) ((main,r0.map (pr pos)):St2) bf.1.1) s (main,(r0 ++ c).map (pr pos)) s 0
 | [],r0,_=>by rw [List.append_nil]; exact Ev.pure
 | p::r,r0,hl=>by
  rw [List.map_cons,List.forIn_cons,zFz];have e:r0.map (pr pos) ++ [pr pos p]=(r0 ++ [p]).map (pr pos):=by rw [List.map_append]; rfl
  rw [show (mkInt p.1,do let x <-mkText p.2; standAt pos; pure x)=pr pos p from rfl,e,if_neg (by
   rw [List.length_map,List.length_append]; simp only [List.length_cons,List.length_nil] at hl ⊢;rw [beq_iff_eq]; omega)]
  have ih:=zJl (w:=w) (pos:=pos) (main:=main) (s:=s) r (r0 ++ [p]) (by simp only [List.length_append,List.length_cons,List.length_nil] at hl ⊢; omega);rw [List.append_assoc] at ih;have e2:Ev w (pure (ForInStep.yield ((main,(r0 ++ [p]).map (pr pos)):St2))) s (ForInStep.yield (main,(r0 ++ [p]).map (pr pos))) s 0:=Ev.pure;exact (Ev.bind e2 (by exact ih)).cong rfl rfl
structure Bs where
 t:BT
 n:Nat
 tk:Nat
 es:List DictEntry
 ep:Nat
abbrev Bs.sh (b:Bs)(os:OsState):Shared:=(Mine.sh b.t b.n b.tk os).abs
def wY:Int->List (Int×Str)->Int
 | lo,[]=>lo
 | _,p::r=>wY (p.1 + 1) r
theorem zA0:∀(c:List (Int×Str)) (lo:Int) (r:List (Int×Str)),asc lo (c ++ r)=(asc lo c && asc (wY lo c) r)
 | [],lo,r=>by simp [asc,wY]
 | p::c,lo,r=>by simp only [List.cons_append,asc,wY,zA0 c,Bool.and_assoc]
theorem zDp:∀(c:List (Int×Str)) (lo:Int),asc lo c=true->lo<=wY lo c
 | [],lo,_=>Int.le_refl _
 | p::c,lo,h=>by
  simp only [asc,Bool.and_eq_true,decide_eq_true_eq] at h;have:=zDp c (p.1 + 1) h.2;simp only [wY]; omega
theorem zAG:∀(c:List (Int×Str)) (lo:Int) (tk:Nat),asc lo c=true->∀e∈yG tk c,lo<=e.hash/\e.hash < wY lo c
 | [],_,_,_,e,he=>nomatch he
 | p::c,lo,tk,h,e,he=>by
  simp only [asc,Bool.and_eq_true,decide_eq_true_eq] at h;have l:=zDp c (p.1 + 1) h.2;simp only [wY];rcases List.mem_cons.mp he with rfl | he
  ·exact ⟨h.1.1,by show p.1 < _; omega⟩
  ·have:=zAG c (p.1 + 1) (tk + 3) h.2 e he
   exact ⟨by omega,this.2⟩
theorem zGO:∀(c:List (Int×Str)) (lo:Int) (tk u:Nat),asc lo c=true->∀e∈kF tk u c,lo<=e.hash/\e.hash < wY lo c
 | [],_,_,_,_,e,he=>nomatch he
 | p::c,lo,tk,u,h,e,he=>by
  simp only [asc,Bool.and_eq_true,decide_eq_true_eq] at h;have l:=zDp c (p.1 + 1) h.2;simp only [wY];rcases List.mem_cons.mp he with rfl | he
  ·exact ⟨h.1.1,by show p.1 < _; omega⟩
  ·have:=zGO c (p.1 + 1) (tk + 2) u h.2 e he
   exact ⟨by omega,this.2⟩
theorem zDH:∀(c:List (Int×Str)) (lo:Int) (tk:Nat) (es:List DictEntry),asc lo c=true->(∀e∈es,e.hash < lo)->zBB es (yG tk c)
 | [],_,_,_,_,_=>trivial
 | p::c,lo,tk,es,h,hes=>by
  simp only [asc,Bool.and_eq_true,decide_eq_true_eq] at h;refine ⟨fun x hx=>by have:=hes x hx; show x.hash≠p.1; omega,zDH c (p.1 + 1) (tk + 3) _ h.2 fun e he=>?_⟩;rcases List.mem_append.mp he with q | q
  ·have:=hes e q; omega
  ·rcases List.mem_singleton.mp q with rfl; show p.1 < p.1 + 1; omega
theorem zB3:∀(c:List (Int×Str)) (lo:Int) (tk u:Nat) (es:List DictEntry),asc lo c=true->(∀e∈es,e.hash < lo)->zBB es (kF tk u c)
 | [],_,_,_,_,_,_=>trivial
 | p::c,lo,tk,u,es,h,hes=>by
  simp only [asc,Bool.and_eq_true,decide_eq_true_eq] at h;refine ⟨fun x hx=>by have:=hes x hx; show x.hash≠p.1; omega,zB3 c (p.1 + 1) (tk + 2) u _ h.2 fun e he=>?_⟩;rcases List.mem_append.mp he with q | q
  ·have:=hes e q; omega
  ·rcases List.mem_singleton.mp q with rfl; show p.1 < p.1 + 1; omega
theorem zEG:∀(tk:Nat) (c:List (Int×Str)),zBt (yG tk c)
 | _,[]=>fun e he=>nomatch he
 | tk,p::c=>fun e he=>by
  rcases List.mem_cons.mp he with rfl | he
  ·exact ⟨tk,rfl⟩
  ·exact zEG (tk + 3) c e he
theorem zCI:∀(tk u:Nat) (c:List (Int×Str)),zBt (kF tk u c)
 | _,_,[]=>fun e he=>nomatch he
 | tk,u,p::c=>fun e he=>by
  rcases List.mem_cons.mp he with rfl | he
  ·exact ⟨tk,rfl⟩
  ·exact zCI (tk + 2) u c e he
theorem zA2:∀(tk u:Nat) (q:List (Int×Str)),(kF tk u q).length=q.length
 | _,_,[]=>rfl
 | tk,u,p::r=>congrArg (· + 1) (zA2 (tk + 2) u r)
def zD6 (d:Nat)(b:Bs)(sub:List DictEntry)(tk:Nat):Bs:=
 {t:=(b.t.ins b.n (dOf sub sub.length)).set d (fun _=>dOf (b.es ++ sub) (b.ep + sub.length)),n:=b.n + 1,tk,es:=b.es ++ sub,ep:=b.ep + sub.length}
structure BsOk (d:Nat) (b:Bs) (lo:Int):Prop where
 get:b.t.get d=some (dOf b.es b.ep)
 lt:d < b.n
 big:Nat.ble 28 d=true
 low:∀e∈b.es,e.hash < lo
 pos:0<=lo
 ne:b.es≠[]
theorem zK8 {w:World}{os:OsState}{d:Nat}{b:Bs}{lo:Int}{sub:List DictEntry}{run:List (Sem Value×Sem Value)}{tk n1:Nat}(O:BsOk d b lo)
  (hs:Ev w (subDict run) (b.sh os) b.n {b.sh os with heap:=(b.sh os).heap.push (dOf sub sub.length),toks:=tk} n1) (hk:zBt sub) (hp:zBB b.es sub) (hz:b.es.length + sub.length<=1000)
  (hi:((b.t.ins b.n (dOf sub sub.length)).get b.n).isSome=true) (hr:run.isEmpty=false):
  Ev w (vR run (some d)) (b.sh os) (some d) ((zD6 d b sub tk).sh os) (n1 + (5 + 6 * sub.length))/\(zD6 d b sub tk).t.get d=some (dOf (b.es ++ sub) (b.ep + sub.length)):=by
 have hdn:d≠b.n:=Nat.ne_of_lt O.lt;have g1:(b.t.ins b.n (dOf sub sub.length)).get d=some (dOf b.es b.ep):=by rw [BT.get_ins _ _ _ hi,if_neg hdn]; exact O.get
 have g2:(b.t.ins b.n (dOf sub sub.length)).get b.n=some (dOf sub sub.length):=by rw [BT.get_ins _ _ _ hi,if_pos rfl]
 have gg:(zD6 d b sub tk).t.get d=some (dOf (b.es ++ sub) (b.ep + sub.length)):=by
  show (BT.set _ _ _).get d=_;rw [BT.get_set,if_pos rfl,g1]; rfl
 refine ⟨?_,gg⟩;unfold vR;rw [hr,if_neg Bool.false_ne_true];dsimp only;have hh:(b.sh os).heap.push (dOf sub sub.length)=absHeap (b.t.ins b.n (dOf sub sub.length)) (b.n + 1) {}:=(absHeap_ins hi).symm;rw [hh] at hs;refine Ev.bind (Ev.holding hs) ?_;have f1:(absHeap (b.t.ins b.n (dOf sub sub.length)) (b.n + 1) {}).get? d=some (dOf b.es b.ep):=abs_get (Nat.lt_succ_of_lt O.lt) g1;have f2:(absHeap (b.t.ins b.n (dOf sub sub.length)) (b.n + 1) {}).get? b.n=some (dOf sub sub.length):=abs_get (Nat.lt_succ_self _) g2;have hsy:(b.n==sysModules)=false:=by
  rw [beq_eq_false_iff_ne];have:=Nat.le_of_ble_eq_true O.big;have:=O.lt;show b.n≠1;omega
 have m:=Ev.merge (w:=w) (s:={b.sh os with heap:=absHeap (b.t.ins b.n (dOf sub sub.length)) (b.n + 1) {},toks:=tk}) O.big hk hdn O.ne hsy f1 f2 hp hz;refine (Ev.bind (Ev.onRaise (Ev.holding m)) (m':=0) (by exact Ev.pure)).cong ?_ rfl;show Shared.mk _ _ _ _ _=Shared.mk _ _ _ _ _;rw [show (absHeap (b.t.ins b.n (dOf sub sub.length)) (b.n + 1) ({}:Life)).update d (fun _=>dOf (b.es ++ sub) (b.ep + sub.length))=absHeap (zD6 d b sub tk).t (b.n + 1) {} from (absHeap_set g1).symm];rfl
def zKi (d:Nat):Bs->List (List (Int×Str))->Bs
 | b,[]=>b
 | b,c::r=>zKi d (zD6 d b (yG b.tk c) (b.tk + 3 * c.length)) r
def okB (d:Nat):Bs->List (List (Int×Str))->Bool
 | _,[]=>true
 | b,c::r=>Nat.beq c.length 17 && ((b.t.ins b.n (dOf (yG b.tk c) 17)).get b.n).isSome && Nat.ble (b.es.length + 17) 1000 && okB d (zD6 d b (yG b.tk c) (b.tk + 3 * c.length)) r
def zRk:Int->List (List (Int×Str))->Int
 | lo,[]=>lo
 | lo,c::r=>zRk (wY lo c) r
theorem zLf {d:Nat}{b:Bs}{lo:Int}{c:List (Int×Str)}{tk:Nat}(O:BsOk d b lo)(ha:asc lo c=true)(g:(zD6 d b (yG b.tk c) tk).t.get d=some (dOf (b.es ++ yG b.tk c) (b.ep + (yG b.tk c).length))):
  BsOk d (zD6 d b (yG b.tk c) tk) (wY lo c):=by
 have l:=zDp c lo ha;refine ⟨g,Nat.lt_succ_of_lt O.lt,O.big,fun e he=>?_,by have:=O.pos; omega,fun q=>O.ne (List.append_eq_nil_iff.mp q).1⟩;rcases List.mem_append.mp he with q | q
 ·have:=O.low e q; omega
 ·exact (zAG c lo b.tk ha e q).2
theorem zJL {w:World}{os:OsState}{pos:Pos}{d:Nat}{rest:List (Option (Sem Value)×Sem Value)}{fin:St2}{s2:Shared}{n2:Nat}:
  ∀(cs:List (List (Int×Str))) (b:Bs) (lo:Int),BsOk d b lo->asc lo cs.flatten=true->okB d b cs=true->
  Ev w (forIn rest ((some d,[]):St2) bf.1.1) ((zKi d b cs).sh os) fin s2 n2->
  Ev w (forIn (cs.flatten.map (itm pos) ++ rest) ((some d,[]):St2) bf.1.1) (b.sh os) fin s2 (330 * cs.length + n2)
 | [],b,lo,_,_,_,h=>h.cong rfl (by simp)
 | c::r,b,lo,O,ha,hk,h=>by
  simp only [okB,Bool.and_eq_true] at hk;obtain ⟨⟨⟨k1,k2⟩,k3⟩,k4⟩:=hk;have hl:c.length=17:=Nat.eq_of_beq_eq_true k1;rw [List.flatten_cons,zA0,Bool.and_eq_true] at ha;have el:(yG b.tk c).length=17:=by rw [xK]; exact hl
  have hd28:Nat.ble 28 (b.sh os).heap.objs.size=true:=by
   show Nat.ble 28 (absHeap b.t b.n {}).objs.size=true;rw [absHeap_size];exact Nat.ble_eq_true_of_le (Nat.le_trans (Nat.le_of_ble_eq_true O.big) (Nat.le_of_lt O.lt))
  have hs:=Ev.subLong (w:=w) (s:=b.sh os) (pos:=pos) (q:=c) O.pos ha.1 (by omega) (by omega) hd28;have hsz:(b.sh os).heap.objs.size=b.n:=absHeap_size ..;rw [hsz] at hs;have hs':Ev w (subDict (c.map (pr pos))) (b.sh os) b.n {b.sh os with heap:=(b.sh os).heap.push (dOf (yG b.tk c) (yG b.tk c).length),toks:=b.tk + 3 * c.length} (2 + 13 * c.length):=by
   rw [el]; rw [hl] at hs ⊢; exact hs
  have k3':=Nat.le_of_ble_eq_true k3;obtain ⟨e1,g⟩:=zK8 O hs' (zEG _ _) (zDH c lo b.tk b.es ha.1 O.low) (by omega) (by rw [el]; exact k2) (by cases c with | nil=>simp at hl | cons _ _=>rfl);have O':=zLf (tk:=b.tk + 3 * c.length) O ha.1 g;have ih:=zJL (w:=w) (os:=os) (pos:=pos) (d:=d) (rest:=rest) (fin:=fin) (s2:=s2) (n2:=n2) r _ _ O' ha.2 k4 h;have:=zEk (w:=w) (pos:=pos) (rest:=r.flatten.map (itm pos) ++ rest) (main:=some d) (fin:=fin) c [] (fun q=>by rw [q] at hl; simp at hl) (by simp only [List.length_nil]; omega) e1 ih;rw [List.flatten_cons,List.map_append,List.append_assoc];refine this.cong rfl ?_;rw [el]; simp only [List.length_cons]; omega
theorem zIy {w:World}{os:OsState}{pos:Pos}{t:BT}{n tk:Nat}{c0 last:List (Int×Str)}{cs:List (List (Int×Str))}{b1 b2:Bs}{lo:Int}(hlo:0<=lo)
  (hb1:b1=⟨t.ins n (dOf (yG tk c0) 17),n + 1,tk + 51,yG tk c0,17⟩) (hb2:b2=zKi n b1 cs) (hl0:Nat.beq c0.length 17=true) (hll:Nat.ble last.length 15=true) (hle:last.isEmpty=false)
  (ha:asc lo (c0 ++ (cs.flatten ++ last))=true) (hn:Nat.ble 28 n=true) (h0:((t.ins n (dOf (yG tk c0) 17)).get n).isSome=true) (hk:okB n b1 cs=true)
  (hi:((b2.t.ins b2.n (dOf (kF b2.tk 0 last) last.length)).get b2.n).isSome=true) (hz:Nat.ble (b2.es.length + last.length) 1000=true):
  Ev w (dictDisplay ((c0 ++ (cs.flatten ++ last)).map (itm pos))) ((Mine.sh t n tk os).abs) (.ref n) ((zD6 n b2 (kF b2.tk 0 last) (b2.tk + 3 * last.length)).sh os) (223 + 330 * cs.length + (6 + 19 * last.length)):=by
 have hl:c0.length=17:=Nat.eq_of_beq_eq_true hl0;have el:(yG tk c0).length=17:=by rw [xK]; exact hl
 rw [zA0,Bool.and_eq_true,zA0,Bool.and_eq_true] at ha;obtain ⟨a0,a1,a2⟩:=ha;have hsz:((Mine.sh t n tk os).abs).heap.objs.size=n:=absHeap_size ..;have s0:=Ev.subLong (w:=w) (s:=(Mine.sh t n tk os).abs) (pos:=pos) (q:=c0) hlo a0 (by omega) (by omega) (by rw [hsz]; exact hn);rw [hsz,hl] at s0;have hh:((Mine.sh t n tk os).abs).heap.push (dOf (yG tk c0) 17)=absHeap (t.ins n (dOf (yG tk c0) 17)) (n + 1) {}:=(absHeap_ins h0).symm;have f0:Ev w (vR (([] ++ c0).map (pr pos)) none) ((Mine.sh t n tk os).abs) (some n) (b1.sh os) 223:=by
  unfold vR;rw [List.nil_append,if_neg (by cases c0 with | nil=>simp at hl | cons _ _=>exact Bool.false_ne_true)];refine (Ev.bind s0 (m':=0) (by exact Ev.pure)).cong ?_ rfl;rw [hb1];show Shared.mk _ _ _ _ _=Shared.mk _ _ _ _ _;rw [show ((Mine.sh t n tk os).abs).heap.push (dOf (yG ((Mine.sh t n tk os).abs).toks c0) 17)=absHeap (t.ins n (dOf (yG tk c0) 17)) (n + 1) {} from hh];rfl
 have O1:BsOk n b1 (wY lo c0):=by
  have l:=zDp c0 lo a0;rw [hb1];refine ⟨?_,Nat.lt_succ_self _,hn,fun e he=>(zAG c0 lo tk a0 e he).2,by omega,fun q=>?_⟩
  ·rw [BT.get_ins _ _ _ h0,if_pos rfl]
  ·have:(yG tk c0).length=0:=by rw [show yG tk c0=[] from q]; rfl
   omega
 have ends:∀(cs:List (List (Int×Str))) (b:Bs) (lo:Int),BsOk n b lo->asc lo cs.flatten=true->okB n b cs=true->BsOk n (zKi n b cs) (wY lo cs.flatten):=by
  intro cs
  induction cs with
  | nil=>intro b lo O _ _; exact O
  | cons c r ih=>
   intro b lo O ha hk;simp only [okB,Bool.and_eq_true] at hk;obtain ⟨⟨⟨k1,k2⟩,k3⟩,k4⟩:=hk;have hl:c.length=17:=Nat.eq_of_beq_eq_true k1;rw [List.flatten_cons,zA0,Bool.and_eq_true] at ha;have el:(yG b.tk c).length=17:=by rw [xK]; exact hl
   have g:(zD6 n b (yG b.tk c) (b.tk + 3 * c.length)).t.get n=some (dOf (b.es ++ yG b.tk c) (b.ep + (yG b.tk c).length)):=by
    show (BT.set _ _ _).get n=_;rw [BT.get_set,if_pos rfl,el,BT.get_ins _ _ _ k2,if_neg (Nat.ne_of_lt O.lt),O.get]; rfl
   have:=ih _ _ (zLf O ha.1 g) ha.2 k4;have e:wY lo (c::r).flatten=wY (wY lo c) r.flatten:=by
    rw [List.flatten_cons];clear this ih k4 k3 k2 k1 hl ha el g O b
    induction c generalizing lo with
    | nil=>rfl
    | cons p c ihc=>exact ihc (p.1 + 1)
   rw [e]; exact this
 have O2:BsOk n b2 (wY (wY lo c0) cs.flatten):=by rw [hb2]; exact ends cs b1 _ O1 a1 hk
 have hd28:Nat.ble 28 (b2.sh os).heap.objs.size=true:=by
  show Nat.ble 28 (absHeap b2.t b2.n {}).objs.size=true;rw [absHeap_size];exact Nat.ble_eq_true_of_le (Nat.le_trans (Nat.le_of_ble_eq_true O2.big) (Nat.le_of_lt O2.lt))
 have s2:=Ev.subShort (w:=w) (s:=b2.sh os) (pos:=pos) (q:=last) O2.pos a2 (Nat.le_of_ble_eq_true hll) hd28;have hsz2:(b2.sh os).heap.objs.size=b2.n:=absHeap_size ..;rw [hsz2] at s2;have eS:(kF b2.tk 0 last).length=last.length:=zA2 ..;have s2':Ev w (subDict (last.map (pr pos))) (b2.sh os) b2.n {b2.sh os with heap:=(b2.sh os).heap.push (dOf (kF b2.tk 0 last) (kF b2.tk 0 last).length),toks:=b2.tk + 3 * last.length} (1 + 13 * last.length):=by
  rw [eS]; exact s2
 have hzz:=Nat.le_of_ble_eq_true hz;have e2:=(zK8 O2 s2' (zCI _ _ _) (zB3 last _ b2.tk 0 b2.es a2 O2.low) (by omega) (by rw [eS]; exact hi) (by cases last with | nil=>cases hle | cons _ _=>rfl)).1;rw [eS] at e2;rw [bf.2];have tl:Ev w (forIn (last.map (itm pos)) ((some n,[]):St2) bf.1.1) ((zKi n b1 cs).sh os) (some n,([] ++ last).map (pr pos)) (b2.sh os) 0:=by
  rw [<-hb2]; exact zJl last [] (by have:=Nat.le_of_ble_eq_true hll; simp only [List.length_nil]; omega)
 have rr:=zJL (w:=w) (os:=os) (pos:=pos) cs b1 _ O1 a1 hk tl;have ch:=zEk (w:=w) (pos:=pos) (main:=none) c0 [] (fun q=>by rw [q] at hl; simp at hl) (by simp only [List.length_nil]; omega) f0 rr;rw [List.map_append,List.map_append];refine (Ev.bind (n:=223 + (330 * cs.length + 0)) (by exact ch) (m':=6 + 19 * last.length) ?_).cong rfl (by omega);rw [List.nil_append,zQT];refine (Ev.bind e2 (m':=0) (by exact Ev.pure)).cong rfl (by omega)
end Mine
end
end
section
noncomputable section
namespace Mine
def b3k:List (Option PySem.Expr):=match st 13 with | .Assign _ (.Dict ks _ _) _=>ks | _=>[]
def b3v:List PySem.Expr:=match st 13 with | .Assign _ (.Dict _ vs _) _=>vs | _=>[]
def b3p:Pos:=match st 13 with | .Assign _ (.Dict _ _ p) _=>p | _=>default
def b3q:Pos:=match st 13 with | .Assign _ _ p=>p | _=>default
theorem zSW:st 13= .Assign [.Name (S "b3_exceptions") ⟨152,0,152,13⟩] (.Dict b3k b3v b3p) b3q:=by kernel_rfl
def zRf:Option PySem.Expr×PySem.Expr->Int×Str
 | (some (.Constant (.int i) _ _),.Constant (.str s) _ _)=>(i,s)
 | _=>(0,S "")
def zLC:List (Int×Str):=(b3k.zip b3v).map zRf
theorem zMM:((evalEachOpt b3k top.env_1).zip ((evalEach b3v top.env_1).map fun v=>do let x <-v; standAt b3p; pure x))=zLC.map (itm b3p):=by kernel_rfl
def b3c (j:Nat):List (Int×Str):=(zLC.drop (17 * j)).take 17
def zLS:List (List (Int×Str)):=(List.range 37).map fun j=>b3c (j + 1)
def zDf:List (Int×Str):=zLC.drop 646
theorem zJP:b3c 0 ++ (zLS.flatten ++ zDf)=zLC:=by kernel_rfl
theorem zRP:asc 0 (b3c 0 ++ (zLS.flatten ++ zDf))=true:=by rw [zJP]; kernel_rfl
def b1B (t:BT):Bs:=⟨t.ins 249 (dOf (yG 684 (b3c 0)) 17),250,735,yG 684 (b3c 0),17⟩
def t2m (b:Bool)(P:Params):BT:=(.node (top.o_1 P) (.node (top.o_2 P) (.node (zRQ b P) (.node (top.o_8 P) (.node (top.o_16 P) (.node (top.o_32 P) (.node (top.o_69 P) (.node (top.o_133 P) (.node (zDe b P) .nil .nil) .nil) (.node (top.o_283 P) .nil .nil)) (.node (top.o_101 P) (.node (top.o_165 P) (.node (zD9 b P) .nil .nil) .nil) (.node (top.o_315 P) .nil .nil))) (.node (top.o_50 P) (.node (top.o_85 P) (.node (top.o_149 P) (.node (zDY b P) .nil .nil) .nil) (.node (top.o_299 P) .nil .nil)) (.node (top.o_117 P) (.node (top.o_181 P) .nil .nil) (.node (zAH b P) .nil .nil)))) (.node (top.o_24 P) (.node (top.o_42 P) (.node (top.o_77 P) (.node (top.o_141 P) (.node (zCM b P) .nil .nil) .nil) (.node (top.o_291 P) .nil .nil)) (.node (top.o_109 P) (.node (top.o_173 P) .nil .nil) (.node (zAj b P) .nil .nil))) (.node (top.o_58 P) (.node (top.o_93 P) (.node (top.o_157 P) (.node (zDj b P) .nil .nil) .nil) (.node (top.o_307 P) .nil .nil)) (.node (top.o_125 P) (.node (top.o_189 P) .nil .nil) (.node (zAA b P) .nil .nil))))) (.node (top.o_12 P) (.node (top.o_20 P) (.node (top.o_38 P) (.node (top.o_73 P) (.node (top.o_137 P) (.node (zDA b P) .nil .nil) .nil) (.node (top.o_287 P) .nil .nil)) (.node (top.o_105 P) (.node (top.o_169 P) .nil .nil) (.node (top.o_319 P) .nil .nil))) (.node (top.o_54 P) (.node (top.o_89 P) (.node (top.o_153 P) (.node (zDk b P) .nil .nil) .nil) (.node (top.o_303 P) .nil .nil)) (.node (top.o_121 P) (.node (top.o_185 P) .nil .nil) (.node (zBU b P) .nil .nil)))) (.node (top.o_28 P) (.node (top.o_46 P) (.node (top.o_81 P) (.node (top.o_145 P) (.node (zEg b P) .nil .nil) .nil) (.node (top.o_295 P) .nil .nil)) (.node (top.o_113 P) (.node (top.o_177 P) .nil .nil) (.node (zAE b P) .nil .nil))) (.node (top.o_62 P) (.node (top.o_97 P) (.node (top.o_161 P) (.node (zD3 b P) .nil .nil) .nil) (.node (top.o_311 P) .nil .nil)) (.node (top.o_129 P) (.node (top.o_193 P) .nil .nil) (.node (zDm b P) .nil .nil)))))) (.node (top.o_6 P) (.node (top.o_10 P) (.node (top.o_18 P) (.node (top.o_36 P) (.node (top.o_71 P) (.node (top.o_135 P) (.node (zDa b P) .nil .nil) .nil) (.node (top.o_285 P) .nil .nil)) (.node (top.o_103 P) (.node (top.o_167 P) .nil .nil) (.node (top.o_317 P) .nil .nil))) (.node (top.o_52 P) (.node (top.o_87 P) (.node (top.o_151 P) (.node (zCN b P) .nil .nil) .nil) (.node (top.o_301 P) .nil .nil)) (.node (top.o_119 P) (.node (top.o_183 P) .nil .nil) (.node (zAs b P) .nil .nil)))) (.node (top.o_26 P) (.node (top.o_44 P) (.node (top.o_79 P) (.node (top.o_143 P) (.node (zDr b P) .nil .nil) .nil) (.node (top.o_293 P) .nil .nil)) (.node (top.o_111 P) (.node (top.o_175 P) .nil .nil) (.node (zAw b P) .nil .nil))) (.node (top.o_60 P) (.node (top.o_95 P) (.node (top.o_159 P) (.node (zEl b P) .nil .nil) .nil) (.node (top.o_309 P) .nil .nil)) (.node (top.o_127 P) (.node (top.o_191 P) .nil .nil) (.node (xO b P) .nil .nil))))) (.node (top.o_14 P) (.node (top.o_22 P) (.node (top.o_40 P) (.node (top.o_75 P) (.node (top.o_139 P) (.node (zDy b P) .nil .nil) .nil) (.node (top.o_289 P) .nil .nil)) (.node (top.o_107 P) (.node (top.o_171 P) .nil .nil) (.node (top.o_321 P) .nil .nil))) (.node (top.o_56 P) (.node (top.o_91 P) (.node (top.o_155 P) (.node (zDM b P) .nil .nil) .nil) (.node (top.o_305 P) .nil .nil)) (.node (top.o_123 P) (.node (top.o_187 P) .nil .nil) (.node (zBA b P) .nil .nil)))) (.node (zLO b P) (.node (top.o_48 P) (.node (top.o_83 P) (.node (top.o_147 P) (.node (zDn b P) .nil .nil) .nil) (.node (top.o_297 P) .nil .nil)) (.node (top.o_115 P) (.node (top.o_179 P) .nil .nil) (.node (zAq b P) .nil .nil))) (.node (top.o_64 P) (.node (top.o_99 P) (.node (top.o_163 P) (.node (zD7 b P) .nil .nil) .nil) (.node (top.o_313 P) .nil .nil)) (.node (top.o_131 P) (.node (top.o_281 P) .nil .nil) (.node (zC1 b P) .nil .nil))))))) (.node (top.o_3 P) (.node (top.o_5 P) (.node (top.o_9 P) (.node (top.o_17 P) (.node (top.o_35 P) (.node (top.o_70 P) (.node (top.o_134 P) (.node (zDD b P) .nil .nil) .nil) (.node (top.o_284 P) .nil .nil)) (.node (top.o_102 P) (.node (top.o_166 P) .nil .nil) (.node (top.o_316 P) .nil .nil))) (.node (top.o_51 P) (.node (top.o_86 P) (.node (top.o_150 P) (.node (zDU b P) .nil .nil) .nil) (.node (top.o_300 P) .nil .nil)) (.node (top.o_118 P) (.node (top.o_182 P) .nil .nil) (.node (zAt b P) .nil .nil)))) (.node (top.o_25 P) (.node (top.o_43 P) (.node (top.o_78 P) (.node (top.o_142 P) (.node (zC3 b P) .nil .nil) .nil) (.node (top.o_292 P) .nil .nil)) (.node (top.o_110 P) (.node (top.o_174 P) .nil .nil) (.node (zAn b P) .nil .nil))) (.node (top.o_59 P) (.node (top.o_94 P) (.node (top.o_158 P) (.node (zCD b P) .nil .nil) .nil) (.node (top.o_308 P) .nil .nil)) (.node (top.o_126 P) (.node (top.o_190 P) .nil .nil) (.node (vP b P) .nil .nil))))) (.node (top.o_13 P) (.node (top.o_21 P) (.node (top.o_39 P) (.node (top.o_74 P) (.node (top.o_138 P) (.node (zCV b P) .nil .nil) .nil) (.node (top.o_288 P) .nil .nil)) (.node (top.o_106 P) (.node (top.o_170 P) .nil .nil) (.node (top.o_320 P) .nil .nil))) (.node (top.o_55 P) (.node (top.o_90 P) (.node (top.o_154 P) (.node (zCJ b P) .nil .nil) .nil) (.node (top.o_304 P) .nil .nil)) (.node (top.o_122 P) (.node (top.o_186 P) .nil .nil) (.node (zBx b P) .nil .nil)))) (.node (top.o_29 P) (.node (top.o_47 P) (.node (top.o_82 P) (.node (top.o_146 P) (.node (zDS b P) .nil .nil) .nil) (.node (top.o_296 P) .nil .nil)) (.node (top.o_114 P) (.node (top.o_178 P) .nil .nil) (.node (zAB b P) .nil .nil))) (.node (top.o_63 P) (.node (top.o_98 P) (.node (top.o_162 P) (.node (zCH b P) .nil .nil) .nil) (.node (top.o_312 P) .nil .nil)) (.node (top.o_130 P) (.node (top.o_194 P) .nil .nil) (.node (zDQ b P) .nil .nil)))))) (.node (top.o_7 P) (.node (top.o_11 P) (.node (top.o_19 P) (.node (top.o_37 P) (.node (top.o_72 P) (.node (top.o_136 P) (.node (zEc b P) .nil .nil) .nil) (.node (top.o_286 P) .nil .nil)) (.node (top.o_104 P) (.node (top.o_168 P) .nil .nil) (.node (top.o_318 P) .nil .nil))) (.node (top.o_53 P) (.node (top.o_88 P) (.node (top.o_152 P) (.node (zDC b P) .nil .nil) .nil) (.node (top.o_302 P) .nil .nil)) (.node (top.o_120 P) (.node (top.o_184 P) .nil .nil) (.node (zBM b P) .nil .nil)))) (.node (top.o_27 P) (.node (top.o_45 P) (.node (top.o_80 P) (.node (top.o_144 P) (.node (zCz b P) .nil .nil) .nil) (.node (top.o_294 P) .nil .nil)) (.node (top.o_112 P) (.node (top.o_176 P) .nil .nil) (.node (zAM b P) .nil .nil))) (.node (top.o_61 P) (.node (top.o_96 P) (.node (top.o_160 P) (.node (zEi b P) .nil .nil) .nil) (.node (top.o_310 P) .nil .nil)) (.node (top.o_128 P) (.node (top.o_192 P) .nil .nil) (.node (zDx b P) .nil .nil))))) (.node (top.o_15 P) (.node (top.o_23 P) (.node (top.o_41 P) (.node (top.o_76 P) (.node (top.o_140 P) (.node (zDI b P) .nil .nil) .nil) (.node (top.o_290 P) .nil .nil)) (.node (top.o_108 P) (.node (top.o_172 P) .nil .nil) (.node (top.o_322 P) .nil .nil))) (.node (top.o_57 P) (.node (top.o_92 P) (.node (top.o_156 P) (.node (zDu b P) .nil .nil) .nil) (.node (top.o_306 P) .nil .nil)) (.node (top.o_124 P) (.node (top.o_188 P) .nil .nil) (.node (zBJ b P) .nil .nil)))) (.node (top.o_31 P) (.node (top.o_49 P) (.node (top.o_84 P) (.node (top.o_148 P) (.node (zEh b P) .nil .nil) .nil) (.node (top.o_298 P) .nil .nil)) (.node (top.o_116 P) (.node (top.o_180 P) .nil .nil) (.node (xB b P) .nil .nil))) (.node (top.o_68 P) (.node (top.o_100 P) (.node (top.o_164 P) (.node (zDG b P) .nil .nil) .nil) (.node (top.o_314 P) .nil .nil)) (.node (top.o_132 P) (.node (top.o_282 P) .nil .nil) (.node (zDT b P) .nil .nil))))))))
theorem zSC (b:Bool)(w:World):okB 249 (b1B (t1 b w.params)) zLS=true:=by kernel_rfl
def b2B (t:BT):Bs:=zKi 249 (b1B t) zLS
def b3B (t:BT):Bs:=zD6 249 (b2B t) (kF (b2B t).tk 0 zDf) ((b2B t).tk + 3 * zDf.length)
theorem zRV (b:Bool)(w:World):((b3B (t1 b w.params)).t,(b3B (t1 b w.params)).n,(b3B (t1 b w.params)).tk)=(t2m b w.params,288,2634):=by kernel_rfl
theorem zPi (b:Bool)(w:World)(os:OsState):Ev w (dictDisplay (zLC.map (itm b3p))) (Mine.sh (t1 b w.params) 249 684 os).abs (.ref 249) (Mine.sh (t2m b w.params) 288 2634 os).abs 12515:=by
 have h:=zIy (w:=w) (os:=os) (pos:=b3p) (t:=t1 b w.params) (n:=249) (tk:=684) (c0:=b3c 0) (last:=zDf) (cs:=zLS) (b1:=b1B (t1 b w.params)) (b2:=b2B (t1 b w.params)) (lo:=0) (Int.le_refl 0) rfl rfl
  (by kernel_rfl) (by kernel_rfl) (by kernel_rfl) zRP (by kernel_rfl) (by kernel_rfl) (zSC b w) (by kernel_rfl) (by kernel_rfl)
 rw [zJP] at h;obtain ⟨e1,e2⟩:=Prod.mk.inj (zRV b w);obtain ⟨e2,e3⟩:=Prod.mk.inj e2;refine h.cong ?_ (by kernel_rfl);show (Mine.sh (b3B (t1 b w.params)).t (b3B (t1 b w.params)).n (b3B (t1 b w.params)).tk os).abs=_;rw [e1,e2,e3]
end Mine
end
end
section
noncomputable section
namespace Mine
def EvP {α:Type}(w:World)(m:Sem α)(s:Shared)(a:α)(s':Shared)(n:Nat)(p:Pos):Prop:=
 ∀(K:α->Sem Fin) (H:Value->Sem Fin) (gd:Bool->Bool) (lv:List Value->List Value) (pos:Pos),Go w n s (at0 (m.wrap K H gd lv) pos) s' (at0 (K a) p)
theorem EvP.bind {α β:Type}{w:World}{s s' s2:Shared}{n m':Nat}{p:Pos}{m:Sem α}{f:α->Sem β}{a:α}{b:β}(h1:Ev w m s a s' n)(h2:EvP w (f a) s' b s2 m' p):EvP w (m >>=f) s b s2 (n + m') p:=fun K H gd lv pos=>by
 rw [Sem.bind_eq_wrap',Sem.wrap_wrap];obtain ⟨p1,e1⟩:=h1 (fun a=>(f a).wrap K H gd lv) (fun e=>(Sem.raise e).wrap K H gd lv) (fun g=>gd (id g)) (fun l=>lv (id l)) pos;exact e1.trans (h2 K H gd lv p1)
theorem EvP.cong {α:Type}{w:World}{m:Sem α}{a:α}{s s':Shared}{n n1:Nat}{p:Pos}(h:EvP w m s a s' n p)(e2:n=n1):EvP w m s a s' n1 p:=by subst e2; exact h
theorem zOW (b:Bool)(w:World)(os:OsState)(K:Flow->Sem Fin)(H:Value->Sem Fin)(gd:Bool->Bool)(lv:List Value->List Value)(pos:Pos):
  segGoT treeTable pw w 28 ann 1 7 (Mine.sh (t2m b w.params) 288 2634 os) (at0 ((assignStores top.env_1 (.ref 249) none ((assignEach [.Name (S "b3_exceptions") ⟨152,0,152,13⟩] top.env_1).map (·.2))).wrap K H gd lv) pos)=
   some (Mine.sh (t2 b w.params) 288 2635 os,at0 (K .next) ⟨152,0,152,13⟩):=by
 rw [Fast.te10295753902157049106,Fast.te14364793385576792824]
 kernel_rfl
theorem zOH (b:Bool)(w:World)(os:OsState):EvP w (exec (st 13) top.env_1) (Mine.sh (t1 b w.params) 249 684 os).abs .next (Mine.sh (t2 b w.params) 288 2635 os).abs 12524 ⟨152,0,152,13⟩:=by
 rw [zSW];unfold exec;refine (EvP.bind Ev.standAt (m':=12523) ?_).cong rfl;have e0:swapsWithSole [.Name (S "b3_exceptions") ⟨152,0,152,13⟩] (.Dict b3k b3v b3p) b3q.line top.env_1=Pure.pure false:=rfl;rw [e0];refine (EvP.bind Ev.pure (m':=12523) ?_).cong rfl;rw [if_neg Bool.false_ne_true];have e1:Ev w (eval (.Dict b3k b3v b3p) top.env_1) (Mine.sh (t1 b w.params) 249 684 os).abs (.ref 249) (Mine.sh (t2m b w.params) 288 2634 os).abs 12516:=by
  unfold eval;refine (Ev.bind Ev.standAt (m':=12515) ?_).cong rfl rfl;rw [zMM];exact zPi b w os
 refine (EvP.bind e1 (m':=7) ?_).cong rfl;have e2:swappedStores [.Name (S "b3_exceptions") ⟨152,0,152,13⟩] (.Dict b3k b3v b3p) top.env_1=Pure.pure none:=rfl;rw [e2];refine (EvP.bind Ev.pure (m':=7) ?_).cong rfl;exact fun K H gd lv pos=>segGo_of (zOW b w os K H gd lv pos)
theorem g2 (b:Bool)(w:World)(os:OsState):segRun treeTable pw w 28 ann 1 12525 (sh (t1 b w.params) 249 684 os).abs (piecesOf [st 13] top.env_1 cdE ⟨150,0,151,30⟩ fr0)=some (.next,(sh (t2 b w.params) 288 2635 os).abs,cdE,⟨152,0,152,13⟩):=by
 have h:=zOH b w os (fun f=>match f with | .next=>doneF .next | f=>doneF f) deadEnd id id ⟨150,0,151,30⟩;have e:(execs [st 13] top.env_1).wrap doneF deadEnd id id=(exec (st 13) top.env_1).wrap (fun f=>match f with | .next=>doneF .next | f=>doneF f) deadEnd id id:=by
  rw [execs_cons_wrap];refine Sem.wrap_congr _ _ _ (fun f=>?_) fun _=>rfl;cases f <;>rfl
 show segRun treeTable pw w 28 ann 1 12525 _ ⟨(execs [st 13] top.env_1).wrap doneF deadEnd id id,cdE,_,fr0⟩=_;rw [e];exact seg_go (N:=1) h rfl
end Mine
end
end
section
noncomputable section
namespace Mine
def zTA (P:Params):Obj:=⟨(Y "dict"),none,(Data.dict (List.toArray [(E P (S "__name__") 247 (T (S "_sre") 246)),(E P (S "__doc__") 248 N),(E P (S "__package__") 250 (T (S "") 249)),(E P (S "__loader__") 251 (R 14)),(E P (S "__spec__") 252 (R 26)),(E P (S "compile") 253 (B "_sre.compile")),(E P (S "template") 254 (B "_sre.template")),(E P (S "getcodesize") 255 (B "_sre.getcodesize")),(E P (S "ascii_iscased") 256 (B "_sre.ascii_iscased")),(E P (S "unicode_iscased") 257 (B "_sre.unicode_iscased")),(E P (S "ascii_tolower") 258 (B "_sre.ascii_tolower")),(E P (S "unicode_tolower") 259 (B "_sre.unicode_tolower")),(E P (S "MAGIC") 261 (I 20230612 260)),(E P (S "CODESIZE") 263 (I 4 262)),(E P (S "MAXREPEAT") 265 (I 4294967295 264)),(E P (S "MAXGROUPS") 267 (I 1073741823 266)),(E P (S "copyright") 269 (T (S " SRE 2.2.2 Copyright (c) 1997-2002 by Secret Labs AB ") 268))]) 17),#[]⟩
def He (P:Params):Heap:=Heap.mk (Array.mk [top.o_1 P,top.o_2 P,top.o_3 P,top.o_4 P,top.o_5 P,top.o_6 P,top.o_7 P,top.o_8 P,top.o_9 P,top.o_10 P,top.o_11 P,zTA P,top.o_13 P,top.o_14 P,top.o_15 P,top.o_16 P,top.o_17 P,top.o_18 P,top.o_19 P,top.o_20 P,top.o_21 P,top.o_22 P,top.o_23 P,top.o_24 P,top.o_25 P,top.o_26 P,top.o_27 P,top.o_28 P]) {}
def H0 (P:Params):Heap:=Heap.mk (Array.mk [top.o_1 P,top.o_2 P,top.o_3 P,top.o_4 P,top.o_5 P,top.o_6 P,top.o_7 P,top.o_8 P,top.o_9 P,top.o_10 P,top.o_11 P,top.o_12 P,top.o_13 P,top.o_14 P,top.o_15 P,top.o_16 P,top.o_17 P,top.o_18 P,top.o_19 P,top.o_20 P,top.o_21 P,top.o_22 P,top.o_23 P,top.o_24 P,top.o_25 P,top.o_26 P,top.o_27 P,top.o_28 P]) {}
theorem opn (w:World):importEnds treeTable (opening pw) w 799 (start (opening pw)).1 (start (opening pw)).2=some ⟨He w.params,⟨[]⟩,{},276,(start (opening pw)).1.os⟩:=by
 rw [Fast.te10274390034422433532,Fast.te14364793385576792824,Fast.te1435165496053646825]
 kernel_rfl
theorem fnc (w:World):(fun os=>(fenceModules? pw ⟨He w.params,⟨[]⟩,{},276,os⟩).map (fun s=>(s.heap,s.gens,s.drawn,s.toks)))=fun _=>some (H0 w.params,⟨[]⟩,{},276):=by
 rw [Fast.te14289696077712309145]
 kernel_rfl
theorem zPK:∀w:World,(fencedOpening treeTable pw w 40000).map (fun s=>(s.heap,s.gens,s.drawn,s.toks))=some (H0 w.params,⟨[]⟩,{},276):=open_cut opn (by kernel_rfl) fnc
end Mine
end
end
section
noncomputable section
namespace Mine
theorem pre (w:World)(os:OsState):topGo treeTable pw w 28 ann 12 ⟨H0 w.params,⟨[]⟩,{},276,os⟩ (topStub pw)=some ((sh (top.tree_32 w.params) 32 282 os).abs,⟨denote treeTable cdE,cdE,⟨0,0,0,0⟩,fr0⟩):=by
 rw [Fast.te15667345088766844465,Fast.te11892475500146522536,Fast.te14364793385576792824]
 kernel_rfl
theorem g0 (w:World):∀os:OsState,segRunT treeTable pw w 28 ann 1 999 (sh (top.tree_322 w.params) 231 617 os) (piecesOf zFo top.env_1 cdE ⟨148,0,148,8⟩ fr0)=some (.next,sh (t0 (w.params.followText "set-order") w.params) 242 677 os,cdE,⟨149,0,149,6⟩):=
 byRow2 "special-get-raises" (P:=fun w=>∀os:OsState,segRunT treeTable pw w 28 ann 1 999 (sh (top.tree_322 w.params) 231 617 os) (piecesOf zFo top.env_1 cdE ⟨148,0,148,8⟩ fr0)=some (.next,sh (t0 (w.params.followText "set-order") w.params) 242 677 os,cdE,⟨149,0,149,6⟩))
  (fun w=>byRow2 "set-order" (P:=fun w=>∀os:OsState,segRunT treeTable pw (w.withFollow "special-get-raises" false) 28 ann 1 999 (sh (top.tree_322 (w.withFollow "special-get-raises" false).params) 231 617 os) (piecesOf zFo top.env_1 cdE ⟨148,0,148,8⟩ fr0)=some (.next,sh (t0 ((w.withFollow "special-get-raises" false).params.followText "set-order") (w.withFollow "special-get-raises" false).params) 242 677 os,cdE,⟨149,0,149,6⟩)) zRH zSp w)
  (fun w=>byRow2 "set-order" (P:=fun w=>∀os:OsState,segRunT treeTable pw (w.withFollow "special-get-raises" true) 28 ann 1 999 (sh (top.tree_322 (w.withFollow "special-get-raises" true).params) 231 617 os) (piecesOf zFo top.env_1 cdE ⟨148,0,148,8⟩ fr0)=some (.next,sh (t0 ((w.withFollow "special-get-raises" true).params.followText "set-order") (w.withFollow "special-get-raises" true).params) 242 677 os,cdE,⟨149,0,149,6⟩)) zSn zSd w) w
theorem g4 (b:Bool)(w:World):∀os:OsState,segRunT treeTable pw w 28 ann 1 979 (sh (t3 b w.params) 295 2739 os) (piecesOf zMr top.env_1 cdE ⟨205,0,205,11⟩ fr0)=some (.next,sh (t4 b w.params) 298 2836 os,cdE,⟨206,0,206,17⟩):=
 byRow2 "special-get-raises" (P:=fun w=>∀os:OsState,segRunT treeTable pw w 28 ann 1 979 (sh (t3 b w.params) 295 2739 os) (piecesOf zMr top.env_1 cdE ⟨205,0,205,11⟩ fr0)=some (.next,sh (t4 b w.params) 298 2836 os,cdE,⟨206,0,206,17⟩)) (zSP b) (zTw b) w
theorem fin (b:Bool)(w:World)(os:OsState):topRun treeTable pw w 28 ann 2 (sh (t5 b w.params) 358 2913 os).abs ⟨doneF .next,cdE,⟨276,0,306,62⟩,fr0⟩=some (sh (t5 b w.params) 358 2913 os).abs:=rfl
def zNQ:List Stmt:=zFo ++ (zRl ++ ([st 13] ++ (zRo ++ (zMr ++ (zRM ++ [])))))
theorem zMV:top.sts_32 ++ (top.sts_66 ++ (top.sts_279 ++ zNQ))=zJJ:=by kernel_rfl
abbrev bO (w:World):Bool:=w.params.followText "set-order"
def H1 (P:Params):Heap:=absHeap (t5 (P.followText "set-order") P) 358 {}
def zS8:Nat:=Nat.add 12 (Nat.add 1 (Nat.add 295 (Nat.add 732 (Nat.add 342 (999 + (30 + (12525 + (463 + (979 + (295 + 2))))))))))
theorem zS1 (w:World)(os:OsState):topRun treeTable pw w 28 ann zS8 ⟨H0 w.params,⟨[]⟩,{},276,os⟩ (topStub pw)=some ⟨H1 w.params,⟨[]⟩,{},2913,os⟩:=by
 have k5:=piece_app (rest:=[]) (segRun_of (g5 (bO w) w os)) (fin (bO w) w os);have k4:=piece_app (segRun_of (g4 (bO w) w os)) k5;have k3:=piece_app (segRun_of (g3 (bO w) w os)) k4;have k2:=piece_app (g2 (bO w) w os) k3;have k1:=piece_app (segRun_of (g1 (bO w) w os)) k2;have k0:=piece_app (segRun_of (g0 w os)) k1;have kt:=top.chain pw zJJ w os zNQ _ _ k0;rw [zMV] at kt;have kb:=piece_block (n:=1) (b:=zJJ) (s:=(sh (top.tree_32 w.params) 32 282 os).abs) (c:=cdE) (pos:=⟨0,0,0,0⟩) rfl kt;exact go_top (pre w os) kb
end Mine
end
end
section
noncomputable section
namespace Mine
def qv:Program:={pw with main:={pw.main with body:=[st 0,st 74]}}
def zK2:List Str:=[Str.ofString "_wall",Str.ofString "tspecials",Str.ofString "_name_disallowed_re",Str.ofString "_value_disallowed_re",Str.ofString "_formatparam",Str.ofString "Headers",Str.ofString "_netrclex",Str.ofString "b1_set",Str.ofString "in_table_b1",Str.ofString "b3_exceptions",Str.ofString "map_table_b3",Str.ofString "LPAR",Str.ofString "RPAR",Str.ofString "LSQB",Str.ofString "RSQB",Str.ofString "COLON",Str.ofString "COMMA",Str.ofString "SEMI",Str.ofString "PLUS",Str.ofString "MINUS",Str.ofString "STAR",Str.ofString "SLASH",Str.ofString "VBAR",Str.ofString "AMPER",Str.ofString "LESS",Str.ofString "GREATER",Str.ofString "EQUAL",Str.ofString "DOT",Str.ofString "PERCENT",Str.ofString "LBRACE",Str.ofString "RBRACE",Str.ofString "EQEQUAL",Str.ofString "NOTEQUAL",Str.ofString "LESSEQUAL",Str.ofString "GREATEREQUAL",Str.ofString "TILDE",Str.ofString "CIRCUMFLEX",Str.ofString "LEFTSHIFT",Str.ofString "RIGHTSHIFT",Str.ofString "DOUBLESTAR",Str.ofString "PLUSEQUAL",Str.ofString "MINEQUAL",Str.ofString "STAREQUAL",Str.ofString "SLASHEQUAL",Str.ofString "PERCENTEQUAL",Str.ofString "AMPEREQUAL",Str.ofString "VBAREQUAL",Str.ofString "CIRCUMFLEXEQUAL",Str.ofString "LEFTSHIFTEQUAL",Str.ofString "RIGHTSHIFTEQUAL",Str.ofString "DOUBLESTAREQUAL",Str.ofString "DOUBLESLASH",Str.ofString "DOUBLESLASHEQUAL",Str.ofString "AT",Str.ofString "ATEQUAL",Str.ofString "RARROW",Str.ofString "ELLIPSIS",Str.ofString "COLONEQUAL",Str.ofString "EXCLAMATION",Str.ofString "EXACT_TOKEN_TYPES",Str.ofString "_law_cells",Str.ofString "_law_row",Str.ofString "_law_operators",Str.ofString "_law_face",Str.ofString "_law_written",Str.ofString "_law_lexer",Str.ofString "_law_prepared",Str.ofString "_law_riffled",Str.ofString "_law_unlike"]
def XtL (s:Shared):Bool:=xlAt qv [] s && recOk [] s
def obs (s:Shared):Heap:=s.heap
abbrev sE (P:Params)(os:OsState):Shared:=⟨H1 P,⟨[]⟩,{},2913,os⟩
theorem szs (w:World):((H0 w.params).isNs mainGlobals && (⟨[]⟩:Array GenState).size==0,(H0 w.params).objs.size,(H0 w.params).nsMap mainGlobals "__annotations__")=(true,28,ann):=by
 rw [Fast.te8920871248978507458]
 kernel_rfl
theorem zR7 (w:World)(os:OsState):(staticsOk (importedModules pw.main.body) (H0 w.params) (H1 w.params) && namesBound pw (H1 w.params) && gensDone (sE w.params os) && laidKept (H0 w.params) (H1 w.params))=true:=by
 kernel_rfl
end Mine
end
end
section
noncomputable section
namespace Mine
theorem zR9 (w:World)(os:OsState):openSeen qv zK2 (importedModules pw.main.body) XtL true (sE w.params os)=openGood qv zK2:=by
 rw [Fast.te4187177175401517315]
 kernel_rfl
end Mine
end
end
section
noncomputable section
namespace Mine
theorem qC:LeftO pw qv zK2 XtL obs (fun w=>H1 w.params) 40000:=
 LeftO.of_pieces zPK szs zS1 (by decide +kernel) fun w=>by
  funext os
  rw [zR7,zR9];rfl
def Hk:Hook:=⟨Heap,obs,fun w=>H1 w.params,fun w h=>∀b o,(H1 w.params).get? b=some o->h.get? b=some o,fun w s e b o hb=>by subst_vars; exact (show s.heap=H1 w.params from e)▸hb,fun w h h' a k b o hb=>k b o (a b o hb)⟩
end Mine
end
end
section
namespace Mine
inductive V where
 | none | bool (b:Bool) | int (i:Int) | str (s:Str) | tup (l:List V) | lst (l:List V) | trk (i:Nat) | val (v:Value) | rng (a b c:Int)
 deriving Inhabited
inductive Ob where
 | list (l:List V)
 | ns (kv:List (Str×V))
 | dict (kv:List (Str×V))
 | cell (v:Option V)
 | inst (C:Addr) (d:Nat)
 | meth (f:Addr) (self:V)
 | lam (fd:FuncData) (cl:List (Str×Nat)) (code:Nat)
 | crec (q:Str)
 | itms (d:Nat)
 | liter (src:V) (k:Nat)
 | enum (it:Nat) (k:Nat)
 | junk
 | citer (f:V) (sent:V) (live:Bool)
 | ctab (P:Addr) (made:Bool)
 | stk (b:Nat) (l:List Nat)
 deriving Inhabited
abbrev Sto:=List Ob
def eqL:List Nat->List Nat->Bool
 | [],[]=>true
 | a::l,b::r=>Nat.beq a b && eqL l r
 | _,_=>false
def eqS (x y:Str):Bool:=eqL x.cps.toList y.cps.toList
def lkS {α:Type}:List (Str×α)->Str->Option α
 | [],_=>none
 | (k,v)::r,x=>match eqS x k with
  | true=>some v
  | false=>lkS r x
theorem zJo:∀(a b:List Nat),eqL a b=true ↔ a=b
 | [],[]=>by simp [eqL]
 | [],_::_=>by simp [eqL]
 | _::_,[]=>by simp [eqL]
 | a::l,b::r=>by simp [eqL,zJo l r,Nat.beq_eq]
theorem qT (x y:Str):eqS x y=(x==y):=by
 rw [Bool.eq_iff_iff,beq_iff_eq];unfold eqS;rw [zJo];constructor
 ·intro h
  obtain ⟨a⟩:=x; obtain ⟨b⟩:=y
  congr 1
  exact Array.toList_inj.mp h
 ·rintro rfl; rfl
theorem qV {α:Type}(l:List (Str×α))(x:Str):lkS l x=l.lookup x:=by
 induction l with
 | nil=>rfl
 | cons p r ih=>
  obtain ⟨k,v⟩:=p;unfold lkS;rw [List.lookup_cons,qT,ih];cases x==k <;>rfl
section
variable (ρ:List Addr) (h:Heap)
mutual
def VR:V->Value->Prop
 | .none,x=>x= .none
 | .bool b,x=>x= .bool b
 | .int i,x=>∃t,x= .int i t
 | .str s,x=>∃t,x= .str s t
 | .tup l,x=>∃a items n,x= .ref a/\a ∉ ρ/\h.get? a=some ⟨.type "tuple",none,.seq items n,#[]⟩/\VRs l items.toList
 | .lst l,x=>∃a items n,x= .ref a/\a ∉ ρ/\h.get? a=some ⟨.type "list",none,.seq items n,#[]⟩/\VRs l items.toList
 | .trk i,x=>∃a,ρ[i]? =some a/\x= .ref a
 | .val v,x=>x=v
 | .rng a b c,x=>∃p t u v,x= .ref p/\p ∉ ρ/\h.get? p=some ⟨.type "range",none,.fields #[.int a t,.int b u,.int c v],#[]⟩
def VRs:List V->List Value->Prop
 | [],xs=>xs=[]
 | v::l,xs=>∃y ys,xs=y::ys/\VR v y/\VRs l ys
end
end
def Kpt (o:Obj):Prop:=(∃items n,o.data= .seq items n)\/(o.cls= .type "range"/\∃vs,o.data= .fields vs)
mutual
theorem VR.mono {ρ ρ':List Addr}{h h':Heap}(p:∀(i:Nat) (a:Addr),ρ[i]? =some a->ρ'[i]? =some a)(k:∀a o,a ∉ ρ->h.get? a=some o->Kpt o->h'.get? a=some o/\a ∉ ρ'):∀{v:V} {x:Value},VR ρ h v x->VR ρ' h' v x
 | .none,_,e=>e
 | .bool _,_,e=>e
 | .int _,_,e=>e
 | .str _,_,e=>e
 | .tup l,_,⟨a,items,m,e,n,ho,r⟩=>⟨a,items,m,e,(k a _ n ho (.inl ⟨_,_,rfl⟩)).2,(k a _ n ho (.inl ⟨_,_,rfl⟩)).1,VRs.mono p k r⟩
 | .lst l,_,⟨a,items,m,e,n,ho,r⟩=>⟨a,items,m,e,(k a _ n ho (.inl ⟨_,_,rfl⟩)).2,(k a _ n ho (.inl ⟨_,_,rfl⟩)).1,VRs.mono p k r⟩
 | .trk i,_,⟨a,q,e⟩=>⟨a,p i a q,e⟩
 | .val _,_,e=>e
 | .rng _ _ _,_,⟨q,t,u,v,e,n,ho⟩=>⟨q,t,u,v,e,(k q _ n ho (.inr ⟨rfl,_,rfl⟩)).2,(k q _ n ho (.inr ⟨rfl,_,rfl⟩)).1⟩
theorem VRs.mono {ρ ρ':List Addr}{h h':Heap}(p:∀(i:Nat) (a:Addr),ρ[i]? =some a->ρ'[i]? =some a)(k:∀a o,a ∉ ρ->h.get? a=some o->Kpt o->h'.get? a=some o/\a ∉ ρ'):∀{l:List V} {xs:List Value},VRs ρ h l xs->VRs ρ' h' l xs
 | [],_,e=>e
 | _::_,_,⟨y,ys,e,a,b⟩=>⟨y,ys,e,VR.mono p k a,VRs.mono p k b⟩
end
def OR (ρ:List Addr)(h:Heap):Option V->Option Value->Prop
 | none,none=>True
 | some v,some x=>VR ρ h v x
 | _,_=>False
theorem VRs.length {ρ:List Addr}{h:Heap}:∀{l:List V} {xs:List Value},VRs ρ h l xs->l.length=xs.length
 | [],_,e=>by rw [show _=[] from e]; rfl
 | _::_,_,⟨_,_,e,_,b⟩=>by rw [e]; simp [VRs.length b]
theorem VRs.get {ρ:List Addr}{h:Heap}:∀{l:List V} {xs:List Value} {i:Nat} {v:V},VRs ρ h l xs->l[i]? =some v->∃x,xs[i]? =some x/\VR ρ h v x
 | [],_,_,_,_,q=>by simp at q
 | _::_,_,0,_,⟨y,_,e,a,_⟩,q=>by subst e; simp at q; subst q; exact ⟨y,rfl,a⟩
 | _::_,_,i + 1,_,⟨_,_,e,_,b⟩,q=>by subst e; simp at q; obtain ⟨x,a,c⟩:=VRs.get b q; exact ⟨x,by simpa using a,c⟩
theorem VRs.append {ρ:List Addr}{h:Heap}:∀{l l':List V} {xs xs':List Value},VRs ρ h l xs->VRs ρ h l' xs'->VRs ρ h (l ++ l') (xs ++ xs')
 | [],_,_,_,e,b=>by rw [show _=[] from e]; exact b
 | _::_,_,_,_,⟨y,ys,e,a,r⟩,b=>by subst e; exact ⟨y,_,rfl,a,VRs.append r b⟩
theorem VRs.one {ρ:List Addr}{h:Heap}{v:V}{x:Value}(a:VR ρ h v x):VRs ρ h [v] [x]:=⟨x,[],rfl,a,rfl⟩
theorem VRs.take {ρ:List Addr}{h:Heap}:∀{l:List V} {xs:List Value} (n:Nat),VRs ρ h l xs->VRs ρ h (l.take n) (xs.take n)
 | [],_,n,e=>by rw [show _=[] from e]; simp [VRs]
 | _::_,_,0,_=>by simp [VRs]
 | _::_,_,n + 1,⟨y,ys,e,a,r⟩=>by subst e; exact ⟨y,_,rfl,a,VRs.take n r⟩
theorem VRs.drop {ρ:List Addr}{h:Heap}:∀{l:List V} {xs:List Value} (n:Nat),VRs ρ h l xs->VRs ρ h (l.drop n) (xs.drop n)
 | [],_,n,e=>by rw [show _=[] from e]; simp [VRs]
 | _::_,_,0,r=>r
 | _::_,_,n + 1,⟨y,ys,e,a,r⟩=>by subst e; exact VRs.drop n r
theorem VRs.set {ρ:List Addr}{h:Heap}{v:V}{x:Value}(a:VR ρ h v x):∀{l:List V} {xs:List Value} (n:Nat),VRs ρ h l xs->VRs ρ h (l.set n v) (xs.set n x)
 | [],_,n,e=>by rw [show _=[] from e]; simp [VRs]
 | _::_,_,0,⟨y,ys,e,b,r⟩=>by subst e; exact ⟨x,_,rfl,a,r⟩
 | _::_,_,n + 1,⟨y,ys,e,b,r⟩=>by subst e; exact ⟨y,_,rfl,b,VRs.set a n r⟩
theorem VRs.reverse {ρ:List Addr}{h:Heap}:∀{l:List V} {xs:List Value},VRs ρ h l xs->VRs ρ h l.reverse xs.reverse
 | [],_,e=>by rw [show _=[] from e]; simp [VRs]
 | _::_,_,⟨y,ys,e,a,r⟩=>by subst e; simp only [List.reverse_cons]; exact VRs.append (VRs.reverse r) (VRs.one a)
def NsR (ρ:List Addr)(h:Heap)(a:Addr)(kv:List (Str×V)):Prop:=∃m,h.Ns a m/\∀x,OR ρ h (kv.lookup x) (m x)
def vH (ρ:List Addr)(h:Heap):List (Str×V)->List DictEntry->Prop
 | [],es=>es=[]
 | (k,v)::r,es=>∃e es',es=e::es'/\(∃t,e.key= .str k t)/\VR ρ h v e.val/\vH ρ h r es'
def cellsR (ρ:List Addr):List (Str×Nat)->List (Str×Addr)->Prop
 | [],l=>l=[]
 | (n,i)::r,l=>∃a l',l=(n,a)::l'/\ρ[i]? =some a/\cellsR ρ r l'
def qH (l:List Nat):List V:=(l.map fun c=>V.str ⟨#[c]⟩).reverse
def zNj:List Nat->Bool
 | []=>false
 | _::_=>true
theorem zGP {ρ ρ':List Addr}{h h':Heap}:∀{l:List V} {xs:List Value},(∀v∈l,∃s,v= .str s)->VRs ρ h l xs->VRs ρ' h' l xs
 | [],_,_,e=>e
 | v::l,_,z,⟨y,ys,e,r,rs⟩=>⟨y,ys,e,by
  obtain ⟨s,rfl⟩:=z v (List.mem_cons_self ..);exact r,zGP (fun v hv=>z v (List.mem_cons_of_mem _ hv)) rs⟩
theorem zKr (l:List Nat):∀v∈qH l,∃s,v=V.str s:=by
 intro v hv;unfold qH at hv;rw [List.mem_reverse,List.mem_map] at hv;obtain ⟨c,_,rfl⟩:=hv;exact ⟨_,rfl⟩
theorem zJa {ρ ρ':List Addr}{h h':Heap}{l:List Nat}{xs:List Value}(r:VRs ρ h (qH l) xs):VRs ρ' h' (qH l) xs:=zGP (zKr l) r
structure Cfg where
 P:Addr
 c:Addr
 ps:Array Value
 pos:Pos
def ObR (ρ:List Addr)(h:Heap)(a:Addr):Ob->Prop
 | .list l=>∃items n,h.get? a=some ⟨.type "list",none,.seq items n,#[]⟩/\VRs ρ h l items.toList
 | .ns kv=>NsR ρ h a kv
 | .dict kv=>∃es n,h.get? a=some (dictOf es n)/\vH ρ h kv es
 | .cell v=>∃ov,h.IsCell a ov/\OR ρ h v ov
 | .inst C d=>∃dx,ρ[d]? =some dx/\h.get? a=some (instObj C dx)
 | .meth f self=>∃x,VR ρ h self x/\h.get? a=some (methodObj (.ref f) x)
 | .lam fd cl j=>∃cl' c ct pm,ρ[j]? =some c/\cellsR ρ cl cl'/\h.get? a=some {cls:= .type "function",data:= .func {fd with closure:=cl',code:= .ref c,closureTuple:=ct,pyModule:=pm}}
 | .crec q=>h.CodeRec (.ref a) q
 | .itms d=>∃dx,ρ[d]? =some dx/\h.get? a=some ⟨.type "dict_items",none,.fields #[.ref dx],#[]⟩
 | .liter src k=>∃l,h.IsListIter a l k/\VR ρ h src (.ref l)
 | .junk=>∃o,h.get? a=some o
 | .enum j k=>∃it old,ρ[j]? =some it/\IsEnum h a it k old
 | .citer f sent live=>∃x y,h.get? a=some ⟨.type "callable_iterator",none,.fields #[x,y,.bool (!live)],#[]⟩/\(live=true->VR ρ h f x/\VR ρ h sent y)
 | .stk b l=>l.length<=b/\∃items n,h.get? a=some ⟨.type "list",none,.seq items n,#[]⟩/\VRs ρ h (qH l) items.toList
 | .ctab P made=>∃vs,a=P/\h.get? a=some {cls:= .none,data:= .fields vs}/\(made=false->vs=#[])
abbrev Kp (ρ ρ':List Addr)(h h':Heap):Prop:=∀a o,a ∉ ρ->h.get? a=some o->Kpt o->h'.get? a=some o/\a ∉ ρ'
abbrev Pre (ρ ρ':List Addr):Prop:=∀(i:Nat) (a:Addr),ρ[i]? =some a->ρ'[i]? =some a
theorem OR.mono {ρ ρ':List Addr}{h h':Heap}(p:Pre ρ ρ')(k:Kp ρ ρ' h h'){v:Option V}{x:Option Value}(r:OR ρ h v x):OR ρ' h' v x:=by
 cases v <;>cases x <;>first | exact VR.mono p k r | exact r
theorem vH.mono {ρ ρ':List Addr}{h h':Heap}(p:Pre ρ ρ')(k:Kp ρ ρ' h h'):∀{kv:List (Str×V)} {es:List DictEntry},vH ρ h kv es->vH ρ' h' kv es
 | [],_,e=>e
 | (_,_)::_,_,⟨e,es',q,a,b,c⟩=>⟨e,es',q,a,b.mono p k,c.mono p k⟩
theorem cellsR.mono {ρ ρ':List Addr}(p:Pre ρ ρ'):∀{l:List (Str×Nat)} {cl:List (Str×Addr)},cellsR ρ l cl->cellsR ρ' l cl
 | [],_,e=>e
 | (_,i)::_,_,⟨a,l',q,b,c⟩=>⟨a,l',q,p i a b,c.mono p⟩
theorem ObR.mono {ρ ρ':List Addr}{h h':Heap}(p:Pre ρ ρ')(k:Kp ρ ρ' h h'){a:Addr}(ka:∀o,h.get? a=some o->h'.get? a=some o):∀{ob:Ob},ObR ρ h a ob->ObR ρ' h' a ob
 | .list _,⟨items,n,e,r⟩=>⟨items,n,ka _ e,r.mono p k⟩
 | .ns _,⟨m,⟨o,es,ep,ho,r⟩,hm⟩=>⟨m,⟨o,es,ep,ka _ ho,r⟩,fun x=>(hm x).mono p k⟩
 | .dict _,⟨es,n,e,r⟩=>⟨es,n,ka _ e,r.mono p k⟩
 | .cell _,⟨ov,⟨o,ho,hd⟩,r⟩=>⟨ov,⟨o,ka _ ho,hd⟩,r.mono p k⟩
 | .inst _ d,⟨dx,q,e⟩=>⟨dx,p _ _ q,ka _ e⟩
 | .meth _ _,⟨x,r,e⟩=>⟨x,r.mono p k,ka _ e⟩
 | .lam _ _ _,⟨cl',c,ct,pm,hc,r,e⟩=>⟨cl',c,ct,pm,p _ _ hc,r.mono p,ka _ e⟩
 | .crec _,⟨c,oc,vs,t,c1,c2,c3,c4⟩=>⟨c,oc,vs,t,c1,by cases c1; exact ka _ c2,c3,c4⟩
 | .itms _,⟨dx,q,e⟩=>⟨dx,p _ _ q,ka _ e⟩
 | .liter _ _,⟨l,⟨o,e,q⟩,r⟩=>⟨l,⟨o,ka _ e,q⟩,r.mono p k⟩
 | .junk,⟨o,e⟩=>⟨o,ka _ e⟩
 | .enum _ _,⟨it,old,q,e⟩=>⟨it,old,p _ _ q,ka _ e⟩
 | .citer _ _ _,⟨x,y,e,r⟩=>⟨x,y,ka _ e,fun l=>⟨(r l).1.mono p k,(r l).2.mono p k⟩⟩
 | .ctab _ _,⟨o,z,e,q⟩=>⟨o,z,ka _ e,q⟩
 | .stk _ _,⟨z,items,n,e,r⟩=>⟨z,items,n,ka _ e,r.mono p k⟩
theorem ObR.some {ρ:List Addr}{h:Heap}{a:Addr}:∀{ob:Ob},ObR ρ h a ob->∃o,h.get? a=some o
 | .list _,⟨items,n,e,r⟩=>⟨_,e⟩
 | .ns _,⟨m,⟨o,es,ep,ho,r⟩,hm⟩=>⟨_,ho⟩
 | .dict _,⟨es,n,e,r⟩=>⟨_,e⟩
 | .cell _,⟨ov,⟨o,ho,hd⟩,r⟩=>⟨_,ho⟩
 | .inst _ d,⟨dx,q,e⟩=>⟨_,e⟩
 | .meth _ _,⟨x,r,e⟩=>⟨_,e⟩
 | .lam _ _ _,⟨cl',c,ct,pm,hc,r,e⟩=>⟨_,e⟩
 | .crec _,⟨c,oc,vs,t,c1,c2,c3,c4⟩=>⟨oc,by cases c1; exact c2⟩
 | .itms _,⟨dx,q,e⟩=>⟨_,e⟩
 | .liter _ _,⟨l,⟨o,e,q⟩,r⟩=>⟨_,e⟩
 | .junk,e=>e
 | .enum _ _,⟨it,old,q,e⟩=>⟨_,e⟩
 | .citer _ _ _,⟨x,y,e,r⟩=>⟨_,e⟩
 | .ctab _ _,⟨o,_,e,_⟩=>⟨_,e⟩
 | .stk _ _,⟨_,items,n,e,r⟩=>⟨_,e⟩
structure Inv (K:Frag) (ρ:List Addr) (σ:Sto) (s:Shared):Prop where
 len:ρ.length=σ.length
 nd:ρ.Nodup
 obs:∀(i:Nat) (a:Addr) (ob:Ob),ρ[i]? =some a->σ[i]? =some ob->ObR ρ s.heap a ob
 stat:∀a o,K.lookup a=some o->s.heap.get? a=some o
 sep:∀a∈ρ,K.lookup a=none
 gens:s.gens=#[]
structure Ext (ρ:List Addr) (s:Shared) (ρ':List Addr) (s':Shared):Prop where
 pre:∃l,ρ'=ρ ++ l
 new:∀(i:Nat) (a:Addr),ρ.length<=i->ρ'[i]? =some a->s.heap.get? a=none
 keep:∀a o,a ∉ ρ->s.heap.get? a=some o->s'.heap.get? a=some o
 os:s'.os=s.os
theorem Ext.refl (ρ:List Addr)(s:Shared):Ext ρ s ρ s:=⟨⟨[],by simp⟩,fun i a h e=>(by rw [List.getElem?_eq_none h] at e; cases e),fun _ _ _ e=>e,rfl⟩
theorem Ext.preP {ρ s ρ' s'}(x:Ext ρ s ρ' s'):Pre ρ ρ':=by
 obtain ⟨l,rfl⟩:=x.pre;intro i a e;rw [List.getElem?_append_left (List.getElem?_eq_some_iff.mp e).1]; exact e
theorem Ext.notin {ρ s ρ' s'}(x:Ext ρ s ρ' s'){a:Addr}{o:Obj}(n:a ∉ ρ)(e:s.heap.get? a=some o):a ∉ ρ':=by
 intro hm;obtain ⟨i,hi,q⟩:=List.getElem_of_mem hm;have q':ρ'[i]? =some a:=by rw [List.getElem?_eq_getElem hi,q]
 rcases Nat.lt_or_ge i ρ.length with h | h
 ·obtain ⟨l,rfl⟩:=x.pre
  rw [List.getElem?_append_left h] at q';exact n (List.mem_of_getElem? q')
 ·rw [x.new i a h q'] at e; cases e
theorem Ext.kp {ρ s ρ' s'}(x:Ext ρ s ρ' s'):Kp ρ ρ' s.heap s'.heap:=fun a o n e _=>⟨x.keep a o n e,x.notin n e⟩
theorem Ext.trans {ρ s ρ' s' ρ'' s''}(x:Ext ρ s ρ' s')(y:Ext ρ' s' ρ'' s'')(nd:∀a∈ρ',∃o,s'.heap.get? a=some o):Ext ρ s ρ'' s'':=by
 refine ⟨?_,?_,fun a o n e=>y.keep a o (x.notin n e) (x.keep a o n e),y.os.trans x.os⟩
 ·obtain ⟨l,rfl⟩:=x.pre; obtain ⟨l',rfl⟩:=y.pre; exact ⟨l ++ l',by simp⟩
 ·intro i a h e
  rcases Nat.lt_or_ge i ρ'.length with q | q
  ·obtain ⟨l,hl⟩:=y.pre
   rw [hl,List.getElem?_append_left q] at e;exact x.new i a h e
  ·have z:=y.new i a q e
   cases w:s.heap.get? a with
   | none=>rfl
   | some o=>
    by_cases m:a∈ρ
    ·have m':a∈ρ':=by obtain ⟨l,rfl⟩:=x.pre; exact List.mem_append_left _ m
     obtain ⟨o',e'⟩:=nd a m';rw [z] at e'; cases e'
    ·rw [x.keep a o m w] at z; cases z
theorem Inv.has {K ρ σ s}(I:Inv K ρ σ s):∀a∈ρ,∃o,s.heap.get? a=some o:=by
 intro a m;obtain ⟨i,hi,q⟩:=List.getElem_of_mem m;have q':ρ[i]? =some a:=by rw [List.getElem?_eq_getElem hi,q]
 exact (I.obs i a _ q' (List.getElem?_eq_getElem (I.len▸hi))).some
theorem Ext.then {K ρ s ρ' σ' s' ρ'' s''}(x:Ext ρ s ρ' s')(I:Inv K ρ' σ' s')(y:Ext ρ' s' ρ'' s''):Ext ρ s ρ'' s'':=x.trans y I.has
theorem VR.ext {ρ s ρ' s'}(x:Ext ρ s ρ' s'){v:V}{y:Value}(r:VR ρ s.heap v y):VR ρ' s'.heap v y:=r.mono x.preP x.kp
theorem VRs.ext {ρ s ρ' s'}(x:Ext ρ s ρ' s'){v:List V}{y:List Value}(r:VRs ρ s.heap v y):VRs ρ' s'.heap v y:=r.mono x.preP x.kp
theorem Inv.kin {K ρ σ s}(I:Inv K ρ σ s):K.In s.heap:=I.stat
end Mine
end
section
namespace Mine
section
variable {K:Frag} {ρ:List Addr} {σ:Sto} {s:Shared}
theorem Inv.fresh (I:Inv K ρ σ s):s.heap.objs.size ∉ ρ:=fun m=>by obtain ⟨o,e⟩:=I.has _ m; exact absurd (Heap.lt_size e) (Nat.lt_irrefl _)
theorem yX (h:Heap):h.get? h.objs.size=none:=by
 cases e:h.get? h.objs.size with
 | none=>rfl
 | some o=>exact absurd (Heap.lt_size e) (Nat.lt_irrefl _)
theorem zJ3 (I:Inv K ρ σ s){a:Addr}(n:s.heap.get? a=none):K.lookup a=none:=by
 cases e:K.lookup a with
 | none=>rfl
 | some o=>rw [I.stat _ _ e] at n; cases n
theorem Inv.move {s':Shared}(I:Inv K ρ σ s)(x:Ext ρ s ρ s')(hk:∀a∈ρ,∀o,s.heap.get? a=some o->s'.heap.get? a=some o)(hg:s'.gens=s.gens):Inv K ρ σ s':=
 ⟨I.len,I.nd,fun i a ob e1 e2=>(I.obs i a ob e1 e2).mono (fun _ _ e=>e) x.kp (hk a (List.mem_of_getElem? e1)),fun a o e=>x.keep a o (fun m=>by rw [I.sep a m] at e; cases e) (I.stat a o e),I.sep,hg.trans I.gens⟩
theorem zDw {h':Heap}{tk:Tok}{d:Drawn}(k:∀a o,a ∉ ρ->s.heap.get? a=some o->h'.get? a=some o):Ext ρ s ρ {s with heap:=h',toks:=tk,drawn:=d}:=
 ⟨⟨[],by simp⟩,fun i a h e=>(by rw [List.getElem?_eq_none h] at e; cases e),k,rfl⟩
theorem Inv.toks (I:Inv K ρ σ s)(tk:Tok):Inv K ρ σ {s with toks:=tk}:=⟨I.len,I.nd,I.obs,I.stat,I.sep,I.gens⟩
theorem Ext.toks {ρ':List Addr}{s₀:Shared}(x:Ext ρ' s₀ ρ s)(tk:Tok):Ext ρ' s₀ ρ {s with toks:=tk}:=⟨x.pre,x.new,x.keep,x.os⟩
theorem Inv.keeps {h':Heap}{tk:Tok}(I:Inv K ρ σ s)(k:∀a o,s.heap.get? a=some o->h'.get? a=some o):Inv K ρ σ {s with heap:=h',toks:=tk}:=
 I.move (zDw (s:=s) (d:=s.drawn) fun a o _ e=>k a o e) (fun a _ o e=>k a o e) rfl
theorem uP {h':Heap}{tk:Tok}(k:∀a o,s.heap.get? a=some o->h'.get? a=some o):Ext ρ s ρ {s with heap:=h',toks:=tk}:=zDw (s:=s) (d:=s.drawn) fun a o _ e=>k a o e
theorem Inv.push {a:Addr}{ob:Ob}(I:Inv K ρ σ s)(n:a ∉ ρ)(nk:K.lookup a=none)(r:ObR (ρ ++ [a]) s.heap a ob)
  (kp:∀o,s.heap.get? a=some o->¬Kpt o):Inv K (ρ ++ [a]) (σ ++ [ob]) s:=by
 have p:Pre ρ (ρ ++ [a]):=fun i b e=>by rw [List.getElem?_append_left (List.getElem?_eq_some_iff.mp e).1]; exact e
 have k:Kp ρ (ρ ++ [a]) s.heap s.heap:=fun b o nb e q=>⟨e,fun m=>by
  rcases List.mem_append.mp m with m | m
  ·exact nb m
  ·rw [List.mem_singleton] at m; subst m; exact kp o e q⟩
 refine ⟨by simp [I.len],?_,?_,I.stat,fun b m=>?_,I.gens⟩
 ·refine List.nodup_append.mpr ⟨I.nd,by simp,fun b hb c hc e=>?_⟩
  rw [List.mem_singleton] at hc; subst e; subst hc; exact n hb
 ·intro i b ob' e1 e2
  rcases Nat.lt_or_ge i ρ.length with h | h
  ·rw [List.getElem?_append_left h] at e1
   rw [List.getElem?_append_left (I.len▸h)] at e2;exact (I.obs i b ob' e1 e2).mono p k (fun _ e=>e)
  ·rw [List.getElem?_append_right h] at e1
   rw [List.getElem?_append_right (I.len▸h)] at e2;have hi:i - ρ.length=0:=by
    have:=(List.getElem?_eq_some_iff.mp e1).1;simp at this; omega
   rw [hi] at e1;rw [<-I.len,hi] at e2;cases e1; cases e2; exact r
 ·rcases List.mem_append.mp m with m | m
  ·exact I.sep b m
  ·rw [List.mem_singleton] at m; subst m; exact nk
theorem Ext.push {s₀:Shared}{ρ₀:List Addr}{a:Addr}(x:Ext ρ₀ s₀ ρ s)(n:s₀.heap.get? a=none):Ext ρ₀ s₀ (ρ ++ [a]) s:=by
 refine ⟨?_,?_,x.keep,x.os⟩
 ·obtain ⟨l,rfl⟩:=x.pre; exact ⟨l ++ [a],by simp⟩
 ·intro i b h e
  rcases Nat.lt_or_ge i ρ.length with q | q
  ·rw [List.getElem?_append_left q] at e; exact x.new i b h e
  ·rw [List.getElem?_append_right q] at e
   have hi:i - ρ.length=0:=by
    have:=(List.getElem?_eq_some_iff.mp e).1;simp at this; omega
   rw [hi] at e; cases e; exact n
theorem Inv.alloc {o:Obj}{ob:Ob}{tk:Tok}(I:Inv K ρ σ s)(hf:¬Kpt o\/True)(r:ObR (ρ ++ [s.heap.objs.size]) (s.heap.push o) s.heap.objs.size ob):
  Inv K (ρ ++ [s.heap.objs.size]) (σ ++ [ob]) {s with heap:=s.heap.push o,toks:=tk}/\Ext ρ s (ρ ++ [s.heap.objs.size]) {s with heap:=s.heap.push o,toks:=tk}:=by
 have k:∀a x,s.heap.get? a=some x->(s.heap.push o).get? a=some x:=fun a x e=>Heap.get?_push_of_some _ e;have I':Inv K ρ σ {s with heap:=s.heap.push o,toks:=tk}:=I.keeps k;have p:Pre ρ (ρ ++ [s.heap.objs.size]):=fun i b e=>by rw [List.getElem?_append_left (List.getElem?_eq_some_iff.mp e).1]; exact e
 have kp:Kp ρ (ρ ++ [s.heap.objs.size]) s.heap (s.heap.push o):=fun b x nb e q=>⟨k _ _ e,fun m=>by
  rcases List.mem_append.mp m with m | m
  ·exact nb m
  ·rw [List.mem_singleton] at m; subst m; rw [yX] at e; cases e⟩
 refine ⟨⟨by simp [I.len],?_,?_,I'.stat,fun b m=>?_,I.gens⟩,⟨⟨[_],rfl⟩,?_,fun a x _ e=>k a x e,rfl⟩⟩
 ·refine List.nodup_append.mpr ⟨I.nd,by simp,fun b hb c hc e=>?_⟩
  rw [List.mem_singleton] at hc; subst e; subst hc; exact I.fresh hb
 ·intro i b ob' e1 e2
  rcases Nat.lt_or_ge i ρ.length with h | h
  ·rw [List.getElem?_append_left h] at e1
   rw [List.getElem?_append_left (I.len▸h)] at e2;exact (I.obs i b ob' e1 e2).mono p kp (fun _ e=>k _ _ e)
  ·rw [List.getElem?_append_right h] at e1
   rw [List.getElem?_append_right (I.len▸h)] at e2;have hi:i - ρ.length=0:=by
    have:=(List.getElem?_eq_some_iff.mp e1).1;simp at this; omega
   rw [hi] at e1;rw [<-I.len,hi] at e2;cases e1; cases e2; exact r
 ·rcases List.mem_append.mp m with m | m
  ·exact I.sep b m
  ·rw [List.mem_singleton] at m; subst m; exact zJ3 I (yX _)
 ·intro i b h e
  rw [List.getElem?_append_right h] at e;have hi:i - ρ.length=0:=by
   have:=(List.getElem?_eq_some_iff.mp e).1;simp at this; omega
  rw [hi] at e; cases e; exact yX _
theorem yQ {ρ:List Addr}(nd:ρ.Nodup){i j:Nat}{a:Addr}(e1:ρ[i]? =some a)(e2:ρ[j]? =some a):i=j:=by
 obtain ⟨h1,q1⟩:=List.getElem?_eq_some_iff.mp e1;obtain ⟨h2,q2⟩:=List.getElem?_eq_some_iff.mp e2;exact (List.getElem_inj nd).mp (q1.trans q2.symm)
theorem Inv.upd {i:Nat}{a:Addr}{ob:Ob}{h':Heap}{tk:Tok}(I:Inv K ρ σ s)(e:ρ[i]? =some a)(hb:Heap.ExtBut a s.heap h')
  (r:ObR ρ h' a ob):Inv K ρ (σ.set i ob) {s with heap:=h',toks:=tk}/\Ext ρ s ρ {s with heap:=h',toks:=tk}:=by
 have hm:a∈ρ:=List.mem_of_getElem? e;have x:Ext ρ s ρ {s with heap:=h',toks:=tk}:=zDw (s:=s) (d:=s.drawn) fun b o n q=>hb b o (fun z=>n (z▸hm)) q;refine ⟨⟨by simp [I.len],I.nd,?_,fun b o q=>x.keep b o (fun m=>by rw [I.sep b m] at q; cases q) (I.stat b o q),I.sep,I.gens⟩,x⟩;intro j b ob' e1 e2
 by_cases hj:j=i
 ·subst hj
  rw [e] at e1; cases e1;rw [List.getElem?_set_self (by rw [<-I.len]; exact (List.getElem?_eq_some_iff.mp e).1)] at e2;cases e2; exact r
 ·rw [List.getElem?_set_ne (fun q=>hj q.symm)] at e2
  have hba:b≠a:=fun q=>hj (yQ I.nd e1 (q▸e));exact (I.obs j b ob' e1 e2).mono (fun _ _ e=>e) x.kp (fun o q=>hb b o hba q)
theorem Inv.but {a:Addr}{h':Heap}{tk:Tok}{oa:Obj}(I:Inv K ρ σ s)(n:a ∉ ρ)(nk:K.lookup a=none)(e:s.heap.get? a=some oa)(kp:¬Kpt oa)(hb:Heap.ExtBut a s.heap h'):Inv K ρ σ {s with heap:=h',toks:=tk}:=by
 have k:Kp ρ ρ s.heap h':=fun b o nb q w=>⟨hb b o (fun z=>by subst z; rw [e] at q; cases q; exact kp w) q,nb⟩;exact ⟨I.len,I.nd,fun i b ob e1 e2=>(I.obs i b ob e1 e2).mono (fun _ _ e=>e) k (fun o q=>hb b o (fun z=>n (z▸List.mem_of_getElem? e1)) q),fun b o q=>hb b o (fun z=>by subst z; rw [nk] at q; cases q) (I.stat b o q),I.sep,I.gens⟩
theorem VR.but {a:Addr}{h h':Heap}{oa:Obj}(e:h.get? a=some oa)(kp:¬Kpt oa)(hb:Heap.ExtBut a h h'){v:V}{x:Value}(r:VR ρ h v x):VR ρ h' v x:=
 r.mono (fun _ _ e=>e) fun b o nb q w=>⟨hb b o (fun z=>by subst z; rw [e] at q; cases q; exact kp w) q,nb⟩
theorem VRs.but {a:Addr}{h h':Heap}{oa:Obj}(e:h.get? a=some oa)(kp:¬Kpt oa)(hb:Heap.ExtBut a h h'){v:List V}{x:List Value}(r:VRs ρ h v x):VRs ρ h' v x:=
 r.mono (fun _ _ e=>e) fun b o nb q w=>⟨hb b o (fun z=>by subst z; rw [e] at q; cases q; exact kp w) q,nb⟩
end
end Mine
end
section
namespace Mine
structure AE where
 scope:Scope
 loc:Nat
 cells:List (Str×Nat)
 qual:Str
 code:Value
 deriving Inhabited
structure EnvR (ρ:List Addr) (ae:AE) (env:Env):Prop where
 scope:env.scope=ae.scope
 loc:ρ[ae.loc]? =some env.locals
 cells:cellsR ρ ae.cells env.cells
 glob:env.globals=mainGlobals
 bi:env.builtins=builtinsNs
 qual:env.qual=ae.qual
 code:ae.code= .none\/env.code=ae.code
 kind:env.scope.kind= .function
theorem EnvR.mono {ρ ρ':List Addr}{ae:AE}{env:Env}(p:Pre ρ ρ')(x:EnvR ρ ae env):EnvR ρ' ae env:=
 ⟨x.scope,p _ _ x.loc,x.cells.mono p,x.glob,x.bi,x.qual,x.code,x.kind⟩
theorem EnvR.ext {ρ s ρ' s'}{ae:AE}{env:Env}(x:EnvR ρ ae env)(y:Ext ρ s ρ' s'):EnvR ρ' ae env:=x.mono y.preP
def Rm (A:Around)(n:Nat):Prop:=A.handled=none/\A.depth + 4 * n < recursionLimit/\A.units + 16 * n < cLine
theorem Rm.down {A:Around}{n:Nat}(r:Rm A (n + 1)):Rm A n:=⟨r.1,by have:=r.2.1; omega,by have:=r.2.2; omega⟩
inductive Fl where
 | next | brk | cont | ret (v:V)
 deriving Inhabited
structure Rec where
 e:Expr->AE->Sto->Option (V×Sto)
 t:Expr->AE->Sto->Option (Bool×Sto)
 x:Stmt->AE->Sto->Option (Fl×Sto)
 c:V->List V->List (Str×V)->Sto->Option (V×Sto)
structure Gl where
 glob:Str->Option Value
 mth:Addr->Str->Option Addr
 fn:Addr->Option FuncData
 dfl:Addr->List V
 orc:Addr->List V->Option V
section
variable (M:Model) (A:Around) (K:Frag)
abbrev zAu (ρ:List Addr)(s:Shared)(v:V)(σ':Sto)(Q:Value->Shared->Prop):Prop:=
 ∀ρ' s' x,Inv K ρ' σ' s'->Ext ρ s ρ' s'->VR ρ' s'.heap v x->Q x s'
abbrev zMa {α:Type}(ρ:List Addr)(s:Shared)(b:α)(σ':Sto)(Q:α->Shared->Prop):Prop:=
 ∀ρ' s',Inv K ρ' σ' s'->Ext ρ s ρ' s'->Q b s'
def SE (ρ:List Addr)(s:Shared)(t:Sem Value)(v:V)(σ':Sto):Prop:=∀Q E,zAu K ρ s v σ' Q->wpAny M A t Q E s
def SB {α:Type}(ρ:List Addr)(s:Shared)(t:Sem α)(b:α)(σ':Sto):Prop:=∀Q E,zMa K ρ s b σ' Q->wpAny M A t Q E s
inductive FlR (ρ:List Addr) (h:Heap):Fl->Flow->Prop
 | next:FlR ρ h .next .next
 | brk:FlR ρ h .brk .brk
 | cont:FlR ρ h .cont .cont
 | ret {v x}:VR ρ h v x->FlR ρ h (.ret v) (.ret x)
def SX (ρ:List Addr)(s:Shared)(t:Sem Flow)(f:Fl)(σ':Sto):Prop:=∀Q E,(∀ρ' s' x,Inv K ρ' σ' s'->Ext ρ s ρ' s'->FlR ρ' s'.heap f x->Q x s')->wpAny M A t Q E s
end
structure Snd (M:Model) (K:Frag) (n:Nat) (r:Rec):Prop where
 e:∀e ae σ v σ',r.e e ae σ=some (v,σ')->∀A env ρ s,Rm A n->EnvR ρ ae env->Inv K ρ σ s->SE M A K ρ s (eval e env) v σ'
 t:∀e ae σ b σ',r.t e ae σ=some (b,σ')->∀A env ρ s,Rm A n->EnvR ρ ae env->Inv K ρ σ s->SB M A K ρ s (PySem.isTrue e env (eval e env)) b σ'
 x:∀e ae σ f σ',r.x e ae σ=some (f,σ')->∀A env ρ s,Rm A n->EnvR ρ ae env->Inv K ρ σ s->SX M A K ρ s (exec e env) f σ'
 c:∀f args kw σ v σ',r.c f args kw σ=some (v,σ')->∀A ρ s x xs xk,Rm A n->Inv K ρ σ s->VR ρ s.heap f x->VRs ρ s.heap args xs->(xk.map (·.1)=kw.map (·.1)/\VRs ρ s.heap (kw.map (·.2)) (xk.map (·.2)))->
  SE M A K ρ s (call x xs xk) v σ'
structure GlOK (K:Frag) (G:Gl):Prop where
 glob:∀h,K.In h->∀n v,G.glob n=some v->(∃mg,h.Ns mainGlobals mg/\(mg n=some v\/(mg n=none/\∃mb,h.Ns builtinsNs mb/\mb n=some v)))
def uV (x:Str)(v:V):List (Str×V)->List (Str×V)
 | []=>[(x,v)]
 | (k,w)::r=>if eqS k x then (k,v)::r else (k,w)::uV x v r
theorem zBi (x:Str)(v:V):∀(kv:List (Str×V)) (y:Str),(uV x v kv).lookup y=if y=x then some v else kv.lookup y
 | [],y=>by
  unfold uV
  try rw [qT]
  by_cases h:y=x
  ·subst h; simp
  ·simp [List.lookup_cons,h,beq_eq_false_iff_ne.mpr h]
 | (k,w)::r,y=>by
  unfold uV
  try rw [qT]
  by_cases hk:k=x
  ·subst hk
   rw [if_pos (beq_self_eq_true k)]
   by_cases h:y=k
   ·subst h; simp
   ·simp [List.lookup_cons,beq_eq_false_iff_ne.mpr h,h]
  ·rw [if_neg (by simpa using hk)]
   by_cases h:y=k
   ·subst h; simp [List.lookup_cons,hk]
   ·have ih:=zBi x v r y
    simp [List.lookup_cons,beq_eq_false_iff_ne.mpr h,ih]
def zBb (ae:AE)(σ:Sto)(x:Str):Option V:=
 match lkS ae.cells x with
 | some i=>(match σ[i]? with | some (.cell (some v))=>some v | _=>none)
 | none=>none
def kP (G:Gl)(x:Str)(ae:AE)(σ:Sto):Option V:=
 if eqS x ("__debug__":Str) then none else
 match lkS ae.scope.names x with
 | some .local=>(match σ[ae.loc]? with | some (.ns kv)=>lkS kv x | _=>none)
 | some .cell=>zBb ae σ x
 | some .free=>if eqS x ("__classdict__":Str) then none else zBb ae σ x
 | some .globalImplicit=>(G.glob x).map .val
 | _=>none
theorem qX {ρ:List Addr}{x:Str}:∀{l:List (Str×Nat)} {cl:List (Str×Addr)},cellsR ρ l cl->∀{i:Nat},l.lookup x=some i->∃a,cl.lookup x=some a/\ρ[i]? =some a
 | [],_,_,_,e=>by cases e
 | (n,j)::r,_,⟨a,l',q,b,c⟩,i,e=>by
  subst q;cases h:x==n with
  | true=>simp only [List.lookup_cons,h] at e ⊢; cases e; exact ⟨a,rfl,b⟩
  | false=>simp only [List.lookup_cons,h] at e ⊢; exact qX c e
section
variable {M:Model} {A:Around} {K:Frag} {G:Gl} {ρ:List Addr} {σ:Sto} {s:Shared} {ae:AE} {env:Env}
theorem Inv.ob (I:Inv K ρ σ s){i:Nat}{ob:Ob}(e:σ[i]? =some ob):∃a,ρ[i]? =some a/\ObR ρ s.heap a ob:=by
 have h:=(List.getElem?_eq_some_iff.mp e).1;have h':i < ρ.length:=I.len▸h;exact ⟨ρ[i],List.getElem?_eq_getElem h',I.obs i _ ob (List.getElem?_eq_getElem h') e⟩
theorem zI4 (I:Inv K ρ σ s)(X:EnvR ρ ae env){x:Str}{v:V}(e:zBb ae σ x=some v):∃c y,env.cells.lookup x=some c/\s.heap.IsCell c (some y)/\VR ρ s.heap v y:=by
 unfold zBb at e;simp only [qV] at e;split at e
 ·rename_i i hi
  split at e
  ·rename_i w hw
   cases e;obtain ⟨a,ha,hr⟩:=qX X.cells hi;obtain ⟨ov,hc,ho⟩:=I.obs i a _ hr hw;cases ov with
   | none=>exact ho.elim
   | some y=>exact ⟨a,y,ha,hc,ho⟩
  ·cases e
 ·cases e
theorem zCy (GO:GlOK K G){x:Str}{v:V}(e:kP G x ae σ=some v)(X:EnvR ρ ae env)(I:Inv K ρ σ s){Q:Value->Shared->Prop}{E:Value->Shared->Prop}(q:∀y,VR ρ s.heap v y->Q y s):
  (x==("__debug__":Str))=false/\wpAny M A (loadName env x) Q E s:=by
 unfold kP at e;simp only [qV,qT] at e;split at e
 ·cases e
 rename_i hd;refine ⟨by simpa using hd,?_⟩;have hk:∀k,ae.scope.names.lookup x=some k->env.kindOf x=some k:=fun k h=>by unfold Env.kindOf; rw [X.scope]; exact h
 split at e
 ·rename_i hl
  split at e
  ·rename_i kv hw
   obtain ⟨m,hn,hm⟩:=I.obs ae.loc env.locals _ X.loc hw;have hx:=hm x;rw [e] at hx;cases hv:m x with
   | none=>rw [hv] at hx; exact hx.elim
   | some y=>rw [hv] at hx; exact wpAny_loadName_local X.kind (hk _ hl) hn hv (q y hx)
  ·cases e
 ·rename_i hl
  obtain ⟨c,y,h1,h2,h3⟩:=zI4 I X e;exact wpAny_loadName_cell X.kind (hk _ hl) h1 h2 (q y h3)
 ·rename_i hl
  split at e
  ·cases e
  ·rename_i hcd
   obtain ⟨c,y,h1,h2,h3⟩:=zI4 I X e;exact wpAny_loadName_free X.kind (hk _ hl) h1 h2 (q y h3) (by simpa using hcd)
 ·rename_i hl
  obtain ⟨w,hw,rfl⟩:=Option.map_eq_some_iff.mp e;obtain ⟨mg,hg,h⟩:=GO.glob _ I.kin _ _ hw;have z:wpAny M A (loadGlobal env x) Q E s:=by
   rcases h with h | ⟨h,mb,hb,hv⟩
   ·exact Calls.loadGlobal_global (X.glob▸hg) h (q w rfl)
   ·exact Calls.loadGlobal_builtin (X.glob▸hg) h (X.bi▸hb) hv (q w rfl)
  unfold loadName;simp only [Env.blockKind,X.kind,hk _ hl,ScopeKind.isAnnotationScope,Bool.false_and,Bool.false_eq_true,if_false];exact z
 ·cases e
def qA (x:Str)(v:V)(ae:AE)(σ:Sto):Option Sto:=
 match lkS ae.scope.names x with
 | some .local=>(match σ[ae.loc]? with | some (.ns kv)=>some (σ.set ae.loc (.ns (uV x v kv))) | _=>none)
 | some .cell=>(match lkS ae.cells x with
  | some i=>(match σ[i]? with | some (.cell _)=>some (σ.set i (.cell (some v))) | _=>none)
  | none=>none)
 | _=>none
theorem xH {x:Str}{v:V}{σ':Sto}(e:qA x v ae σ=some σ')(X:EnvR ρ ae env)(I:Inv K ρ σ s){y:Value}(r:VR ρ s.heap v y):SB M A K ρ s (storeName env x y) () σ':=by
 intro Q E q;unfold qA at e;simp only [qV] at e;have hk:∀k,ae.scope.names.lookup x=some k->env.kindOf x=some k:=fun k h=>by unfold Env.kindOf; rw [X.scope]; exact h
 split at e
 ·rename_i hl
  split at e
  ·rename_i kv hw
   cases e;obtain ⟨m,hn,hm⟩:=I.obs ae.loc env.locals _ X.loc hw;refine wpAny_storeName_local (hk _ hl) hn (fun h' hn' hb=>?_) (by rw [X.kind]; rfl);obtain ⟨o,es,ep,ho,hd,_⟩:=id hn;have x1:=I.upd (ob:= .ns (uV x v kv)) (tk:=s.toks + 1) X.loc hb.extBut ?_
   ·exact q _ _ x1.1 x1.2
   ·refine ⟨_,hn',fun z=>?_⟩
    have kp:Kp ρ ρ s.heap h':=fun b o nb e _=>⟨hb.extBut b o (fun z=>nb (z▸List.mem_of_getElem? X.loc)) e,nb⟩;rw [zBi]
    by_cases hz:z=x
    ·simp only [hz,if_true]; exact r.mono (fun _ _ e=>e) kp
    ·simp only [hz,if_false]; exact (hm z).mono (fun _ _ e=>e) kp
  ·cases e
 ·rename_i hl
  split at e
  ·rename_i i hi
   split at e
   ·rename_i w hw
    cases e;obtain ⟨a,ha,hr⟩:=qX X.cells hi;obtain ⟨ov,hc,ho⟩:=I.obs i a _ hr hw;refine wpAny_storeName_cell X.kind (hk _ hl) ha hc fun h' hc' hb=>?_;obtain ⟨o,ho',hd⟩:=id hc;have x1:=I.upd (ob:= .cell (some v)) (tk:=s.toks) hr hb.extBut ?_
    ·exact q _ _ x1.1 x1.2
    ·exact ⟨some y,hc',r.mono (fun _ _ e=>e) fun b o nb e _=>⟨hb.extBut b o (fun z=>nb (z▸List.mem_of_getElem? hr)) e,nb⟩⟩
   ·cases e
  ·cases e
 ·cases e
end
end Mine
end
section
namespace Mine
section
variable {M:Model} {A:Around} {K:Frag} {ρ:List Addr} {σ σ':Sto} {s:Shared}
theorem qK {h:Heap}{i:Int}{t:Tok}:VR ρ h (.int i) (.int i t):=by unfold VR; exact ⟨t,rfl⟩
theorem qJ {h:Heap}{x:Str}{t:Tok}:VR ρ h (.str x) (.str x t):=by unfold VR; exact ⟨t,rfl⟩
theorem qY {h:Heap}:VR ρ h .none .none:=by unfold VR; rfl
theorem kI {h:Heap}{b:Bool}:VR ρ h (.bool b) (.bool b):=by unfold VR; rfl
theorem SE.here {v:V}{x:Value}(I:Inv K ρ σ s)(r:VR ρ s.heap v x){Q:Value->Shared->Prop}(q:zAu K ρ s v σ Q):Q x s:=q _ _ _ I (.refl _ _) r
theorem SE.tok {v:V}{x:Value}{tk:Tok}(I:Inv K ρ σ s)(r:VR ρ s.heap v x){Q:Value->Shared->Prop}(q:zAu K ρ s v σ Q):Q x {s with toks:=tk}:=
 q _ _ _ (I.toks tk) ((Ext.refl _ _).toks tk) r
theorem zX {i:Int}(I:Inv K ρ σ s){Q:Value->Shared->Prop}(q:zAu K ρ s (.int i) σ Q):(Made.int i).post Q s:=SE.tok I qK q
theorem Inv.extra {o:Obj}{tk:Tok}(I:Inv K ρ σ s):Inv K ρ σ {s with heap:=s.heap.push o,toks:=tk}/\Ext ρ s ρ {s with heap:=s.heap.push o,toks:=tk}:=
 ⟨I.keeps fun _ _ e=>Heap.get?_push_of_some _ e,uP fun _ _ e=>Heap.get?_push_of_some _ e⟩
theorem VRs.push {l:List V}{xs:List Value}(r:VRs ρ s.heap l xs)(o:Obj):VRs ρ (s.heap.push o) l xs:=
 r.mono (fun _ _ e=>e) fun b o' nb q w=>⟨Heap.get?_push_of_some _ q,nb⟩
theorem VR.push {l:V}{xs:Value}(r:VR ρ s.heap l xs)(o:Obj):VR ρ (s.heap.push o) l xs:=
 r.mono (fun _ _ e=>e) fun b o' nb q w=>⟨Heap.get?_push_of_some _ q,nb⟩
theorem zLJ {l:List V}{xs:Array Value}(I:Inv K ρ σ s)(r:VRs ρ s.heap l xs.toList){Q:Value->Shared->Prop}(q:zAu K ρ s (.tup l) σ Q):
  Q (.ref s.heap.objs.size) {s with heap:=s.heap.push {cls:= .type "tuple",data:= .seq xs}}:=by
 have x:=I.extra (o:={cls:= .type "tuple",data:= .seq xs}) (tk:=s.toks);exact q _ _ _ x.1 x.2 ⟨_,xs,0,rfl,I.fresh,Heap.get?_push_size _ rfl,r.push _⟩
theorem kM {l:List V}{xs:Array Value}{tk:Tok}(I:Inv K ρ σ s)(r:VRs ρ s.heap l xs.toList){Q:Value->Shared->Prop}(q:zAu K ρ s (.trk σ.length) (σ ++ [.list l]) Q):
  Q (.ref s.heap.objs.size) {s with heap:=s.heap.push {cls:= .type "list",data:= .seq xs},toks:=tk}:=by
 have z:VRs (ρ ++ [s.heap.objs.size]) (s.heap.push {cls:= .type "list",data:= .seq xs}) l xs.toList:=by
  refine r.mono (fun i b e=>by rw [List.getElem?_append_left (List.getElem?_eq_some_iff.mp e).1]; exact e) fun b o nb e _=>⟨Heap.get?_push_of_some _ e,fun m=>?_⟩;rcases List.mem_append.mp m with m | m
  ·exact nb m
  ·rw [List.mem_singleton] at m; subst m; rw [yX] at e; cases e
 have x:=I.alloc (o:={cls:= .type "list",data:= .seq xs}) (ob:= .list l) (tk:=tk) (.inr trivial) ⟨xs,0,Heap.get?_push_size _ rfl,z⟩;exact q _ _ _ x.1 x.2 ⟨s.heap.objs.size,by rw [<-I.len,List.getElem?_append_right (Nat.le_refl _),Nat.sub_self]; rfl,rfl⟩
end
def evL (r:Rec):List Expr->AE->Sto->Option (List V×Sto)
 | [],_,σ=>some ([],σ)
 | .Starred .. ::_,_,_=>none
 | e::es,ae,σ=>match r.e e ae σ with
  | some (v,σ₁)=>(match evL r es ae σ₁ with | some (vs,σ₂)=>some (v::vs,σ₂) | none=>none)
  | none=>none
section
variable {prog:Program} {w:World} {A:Around} {K:Frag} {G:Gl} {n:Nat} {r:Rec} {ρ:List Addr} {σ σ':Sto} {s:Shared} {ae:AE} {env:Env}
theorem xM {e:Expr}{es:List Expr}(h:∀x p,e≠.Starred x p):starEach (e::es) env=(false,eval e env)::starEach es env:=by
 cases e <;>first | rfl | exact absurd rfl (h _ _)
theorem zCw (hr:Snd (model prog w) K n r)(hA:Rm A n){pos:Pos}:∀{es:List Expr} {σ:Sto} {vs:List V} {ρ:List Addr} {s:Shared},evL r es ae σ=some (vs,σ')->EnvR ρ ae env->Inv K ρ σ s->∀(Q:List Value->Shared->Prop) (E:Value->Shared->Prop),
  (∀ρ' s' xs,Inv K ρ' σ' s'->Ext ρ s ρ' s'->VRs ρ' s'.heap vs xs->Q xs s')->wpAny (model prog w) A (spliced (backTo pos (starEach es env))) Q E s
 | [],σ,vs,ρ,s,h,X,I,Q,E,q=>by
  cases h;exact wpAny_items_nil (q _ _ _ I (.refl _ _) rfl)
 | e::es,σ,vs,ρ,s,h,X,I,Q,E,q=>by
  have ns:∀x p,e≠.Starred x p:=fun x p z=>by subst z; cases h
  have h':(match r.e e ae σ with | some (v,σ₁)=>(match evL r es ae σ₁ with | some (vs,σ₂)=>some (v::vs,σ₂) | none=>none) | none=>none)=some (vs,σ'):=by
   cases e <;>first | exact h | exact absurd rfl (ns _ _)
  split at h'
  ·rename_i v σ₁ h1
   split at h'
   ·rename_i vs' σ₂ h2
    cases h';refine wpAny_items_cons (hr.e _ _ _ _ _ h1 A env ρ s hA X I _ _ fun ρ' s' x I' X' rx=>?_) (xM ns);refine zCw hr hA h2 (X.ext X') I' _ _ fun ρ'' s'' xs I'' X'' rxs=>q _ _ _ I'' (X'.then I' X'') ⟨x,xs,rfl,rx.ext X'',rxs⟩
   ·cases h'
  ·cases h'
def wJ:Const->Option V
 | .none=>some .none
 | .bool b=>some (.bool b)
 | .int i=>some (.int i)
 | .str s=>some (.str s)
 | _=>none
theorem zGC {c:Const}{k:Nat}{pos:Pos}{v:V}(h:wJ c=some v)(I:Inv K ρ σ s):SE (model prog w) A K ρ s (eval (.Constant c k pos) env) v σ:=by
 intro Q E q;cases c <;>simp only [wJ,Option.some.injEq,reduceCtorEq] at h <;>subst h
 ·exact wpAny_Constant_none (SE.here I qY q)
 ·exact wpAny_Constant_bool (SE.here I kI q)
 ·exact wpAny_Constant_int (SE.tok I qK q)
 ·exact wpAny_Constant_str (SE.tok I qJ q)
def zA1 (r:Rec)(es:List Expr)(ae:AE)(σ:Sto):Option (V×Sto):=match evL r es ae σ with
 | some (vs,σ')=>if vs.length<=1000 then some (.tup vs,σ') else none
 | none=>none
theorem zQ {n:Nat}(h:n<=1000):n<=sizeLine:=Nat.le_trans h (by decide)
theorem zHi (hr:Snd (model prog w) K n r)(hA:Rm A n){es:List Expr}{k:Nat}{pos:Pos}{v:V}(h:zA1 r es ae σ=some (v,σ'))(X:EnvR ρ ae env)(I:Inv K ρ σ s):SE (model prog w) A K ρ s (eval (.Tuple es k pos) env) v σ':=by
 intro Q E q;unfold zA1 at h;split at h
 ·rename_i vs σ₁ h1
  split at h
  ·rename_i hz
   cases h;refine wpAny_Tuple (zCw hr hA h1 X I _ _ fun ρ' s' xs I' X' rx=>⟨zQ (rx.length▸hz),?_⟩);exact zLJ I' (by simpa using rx) fun ρ'' s'' x I'' X'' r''=>q _ _ _ I'' (X'.then I' X'') r''
  ·cases h
 ·cases h
def zBh (r:Rec)(es:List Expr)(ae:AE)(σ:Sto):Option (V×Sto):=match evL r es ae σ with
 | some (vs,σ')=>if vs.length<=1000 then some (.trk σ'.length,σ' ++ [.list vs]) else none
 | none=>none
theorem zIa (hr:Snd (model prog w) K n r)(hA:Rm A n){es:List Expr}{pos:Pos}{v:V}(h:zBh r es ae σ=some (v,σ'))(X:EnvR ρ ae env)(I:Inv K ρ σ s):SE (model prog w) A K ρ s (eval (.List es pos) env) v σ':=by
 intro Q E q;unfold zBh at h;split at h
 ·rename_i vs σ₁ h1
  split at h
  ·rename_i hz
   cases h;refine wpAny_List (zCw hr hA h1 X I _ _ fun ρ' s' xs I' X' rx=>⟨zQ (rx.length▸hz),?_⟩);exact kM (tk:=s'.toks) I' (by simpa using rx) fun ρ'' s'' x I'' X'' r''=>q _ _ _ I'' (X'.then I' X'') r''
  ·cases h
 ·cases h
def zBq (r:Rec)(t a b:Expr)(ae:AE)(σ:Sto):Option (V×Sto):=match r.t t ae σ with
 | some (true,σ')=>r.e a ae σ'
 | some (false,σ')=>r.e b ae σ'
 | none=>none
theorem zGo (hr:Snd (model prog w) K n r)(hA:Rm A n){t a b:Expr}{pos:Pos}{v:V}(h:zBq r t a b ae σ=some (v,σ'))(X:EnvR ρ ae env)(I:Inv K ρ σ s):SE (model prog w) A K ρ s (eval (.IfExp t a b pos) env) v σ':=by
 intro Q E q;unfold zBq at h;split at h
 ·rename_i σ₁ h1
  refine wpAny_IfExp (hr.t _ _ _ _ _ h1 A env ρ s hA X I _ _ fun ρ' s' I' X'=>?_);exact hr.e _ _ _ _ _ h A env ρ' s' hA (X.ext X') I' _ _ fun ρ'' s'' x I'' X'' r''=>q _ _ _ I'' (X'.then I' X'') r''
 ·rename_i σ₁ h1
  refine wpAny_IfExp (hr.t _ _ _ _ _ h1 A env ρ s hA X I _ _ fun ρ' s' I' X'=>?_);exact hr.e _ _ _ _ _ h A env ρ' s' hA (X.ext X') I' _ _ fun ρ'' s'' x I'' X'' r''=>q _ _ _ I'' (X'.then I' X'') r''
 ·cases h
def uE (r:Rec)(f:V->V->Sto->Option (V×Sto))(a b:Expr)(ae:AE)(σ:Sto):Option (V×Sto):=match r.e a ae σ with
 | some (x,σ₁)=>(match r.e b ae σ₁ with | some (y,σ₂)=>f x y σ₂ | none=>none)
 | none=>none
theorem zAF (hr:Snd (model prog w) K n r)(hA:Rm A n){f:V->V->Sto->Option (V×Sto)}{op:Value->Value->Sem Value}
  (hf:∀a b σ v σ',f a b σ=some (v,σ')->∀ρ s x y,Inv K ρ σ s->VR ρ s.heap a x->VR ρ s.heap b y->SE (model prog w) A K ρ s (op x y) v σ')
  {a b:Expr} {v:V} (h:uE r f a b ae σ=some (v,σ')) (X:EnvR ρ ae env) (I:Inv K ρ σ s) (Q:Value->Shared->Prop) (E:Value->Shared->Prop) (q:zAu K ρ s v σ' Q):
  wpAny (model prog w) A (eval a env) (fun x s₁=>wpAny (model prog w) A (eval b env) (fun y s₂=>wpAny (model prog w) A (op x y) Q E s₂) E s₁) E s:=by
 unfold uE at h;split at h
 ·rename_i x σ₁ h1
  split at h
  ·rename_i y σ₂ h2
   refine hr.e _ _ _ _ _ h1 A env ρ s hA X I _ _ fun ρ' s' x I' X' rx=>?_;refine hr.e _ _ _ _ _ h2 A env ρ' s' hA (X.ext X') I' _ _ fun ρ'' s'' y I'' X'' ry=>?_;exact hf _ _ _ _ _ h ρ'' s'' x y I'' (rx.ext X'') ry _ _ fun ρ₃ s₃ z I₃ X₃ rz=>q _ _ _ I₃ ((X'.then I' X'').then I'' X₃) rz
  ·cases h
 ·cases h
def evs (r:Rec):List Stmt->AE->Sto->Option (Fl×Sto)
 | [],_,σ=>some (.next,σ)
 | st::rest,ae,σ=>match r.x st ae σ with
  | some (.next,σ₁)=>evs r rest ae σ₁
  | some (f,σ₁)=>some (f,σ₁)
  | none=>none
theorem zT (hr:Snd (model prog w) K n r)(hA:Rm A n):∀{st:List Stmt} {σ:Sto} {f:Fl} {ρ:List Addr} {s:Shared},evs r st ae σ=some (f,σ')->EnvR ρ ae env->Inv K ρ σ s->SX (model prog w) A K ρ s (execs st env) f σ'
 | [],σ,f,ρ,s,h,X,I=>by
  cases h;intro Q E q;exact wpAny_execs_nil (q _ _ _ I (.refl _ _) .next)
 | st::rest,σ,f,ρ,s,h,X,I=>by
  intro Q E q;unfold evs at h;split at h
  ·rename_i σ₁ h1
   refine wpAny_execs_cons (hr.x _ _ _ _ _ h1 A env ρ s hA X I _ _ fun ρ' s' x I' X' rf=>?_);cases rf;exact zT hr hA h (X.ext X') I' _ _ fun ρ'' s'' y I'' X'' r''=>q _ _ _ I'' (X'.then I' X'') r''
  ·rename_i f' σ₁ hne h1
   cases h;refine wpAny_execs_cons (hr.x _ _ _ _ _ h1 A env ρ s hA X I _ _ fun ρ' s' x I' X' rf=>?_);cases rf <;>first | exact absurd rfl hne | exact q _ _ _ I' X' .brk | exact q _ _ _ I' X' .cont | exact q _ _ _ I' X' (.ret (by assumption))
  ·cases h
def zHF (r:Rec)(t:Expr)(a b:List Stmt)(ae:AE)(σ:Sto):Option (Fl×Sto):=match r.t t ae σ with
 | some (true,σ')=>evs r a ae σ'
 | some (false,σ')=>evs r b ae σ'
 | none=>none
theorem zL9 (hr:Snd (model prog w) K n r)(hA:Rm A n){t:Expr}{a b:List Stmt}{pos:Pos}{f:Fl}(h:zHF r t a b ae σ=some (f,σ'))(X:EnvR ρ ae env)(I:Inv K ρ σ s):SX (model prog w) A K ρ s (exec (.If t a b pos) env) f σ':=by
 intro Q E q;unfold zHF at h;split at h
 ·rename_i σ₁ h1
  refine wpAny_If (hr.t _ _ _ _ _ h1 A env ρ s hA X I _ _ fun ρ' s' I' X'=>?_);exact zT hr hA h (X.ext X') I' _ _ fun ρ'' s'' y I'' X'' r''=>q _ _ _ I'' (X'.then I' X'') r''
 ·rename_i σ₁ h1
  refine wpAny_If (hr.t _ _ _ _ _ h1 A env ρ s hA X I _ _ fun ρ' s' I' X'=>?_);exact zT hr hA h (X.ext X') I' _ _ fun ρ'' s'' y I'' X'' r''=>q _ _ _ I'' (X'.then I' X'') r''
 ·cases h
def zGp (r:Rec)(e:Option Expr)(ae:AE)(σ:Sto):Option (Fl×Sto):=match e with
 | none=>some (.ret .none,σ)
 | some e=>(match r.e e ae σ with | some (v,σ')=>some (.ret v,σ') | none=>none)
theorem zKY (hr:Snd (model prog w) K n r)(hA:Rm A n){e:Option Expr}{pos:Pos}{f:Fl}(h:zGp r e ae σ=some (f,σ'))(X:EnvR ρ ae env)(I:Inv K ρ σ s):SX (model prog w) A K ρ s (exec (.Return e pos) env) f σ':=by
 intro Q E q;unfold zGp at h;split at h
 ·cases h
  exact wpAny_Return_none (q _ _ _ I (.refl _ _) (.ret rfl))
 ·split at h
  ·rename_i v σ₁ h1
   cases h;exact wpAny_Return_some (hr.e _ _ _ _ _ h1 A env ρ s hA X I _ _ fun ρ' s' x I' X' rx=>q _ _ _ I' X' (.ret rx))
  ·cases h
end
end Mine
end
section
namespace Mine
def zKT {α β:Type}(f:α->Option β):List α->Option (List β)
 | []=>some []
 | v::l=>match f v with
  | some d=>(match zKT f l with | some ds=>some (d::ds) | none=>none)
  | none=>none
def py (σ:Sto):Nat->V->Option PyData
 | 0,_=>none
 | n + 1,v=>match v with
  | .none=>some .none
  | .bool b=>some (.bool b)
  | .int i=>some (.int i)
  | .str s=>some (.str s)
  | .tup l=>(zKT (py σ n) l).map .tuple
  | .lst l=>(zKT (py σ n) l).map .list
  | .trk i=>(match σ[i]? with | some (.list l)=>(zKT (py σ n) l).map .list | _=>none)
  | .val _=>none
  | .rng _ _ _=>none
section
variable {K:Frag} {ρ:List Addr} {σ:Sto} {s:Shared}
theorem zC7 {f:V->Option PyData}(hf:∀(v:V) (d:PyData) (x:Value),f v=some d->VR ρ s.heap v x->∃as,Reads s.heap x d as):∀(l:List V) (ds:List PyData) (xs:List Value),zKT f l=some ds->VRs ρ s.heap l xs->∃as,ReadsAll s.heap xs ds as
 | [],ds,xs,e,r=>by
  cases e;unfold VRs at r; subst r; exact ⟨_,.nil⟩
 | v::l,ds,xs,e,r=>by
  unfold zKT at e;split at e
  ·rename_i d h1
   split at e
   ·rename_i ds' h2
    cases e;unfold VRs at r;obtain ⟨y,ys,rfl,ry,rys⟩:=r;obtain ⟨as,ha⟩:=hf v d y h1 ry;obtain ⟨bs,hb⟩:=zC7 hf l ds' ys h2 rys;exact ⟨_,.cons ha hb⟩
   ·cases e
  ·cases e
theorem qG (I:Inv K ρ σ s):∀(n:Nat) (v:V) (d:PyData) (x:Value),py σ n v=some d->VR ρ s.heap v x->∃as,Reads s.heap x d as
 | 0,_,_,_,e,_=>by unfold py at e; cases e
 | n + 1,v,d,x,e,r=>by
  have ih:=zC7 (ρ:=ρ) (s:=s) (f:=py σ n) (qG I n);unfold py at e;split at e
  ·cases e; unfold VR at r; subst r; exact ⟨_,.none⟩
  ·cases e; unfold VR at r; subst r; exact ⟨_,.bool _⟩
  ·cases e; unfold VR at r; obtain ⟨t,rfl⟩:=r; exact ⟨_,.int _ t⟩
  ·cases e; unfold VR at r; obtain ⟨t,rfl⟩:=r; exact ⟨_,.str _ t⟩
  ·rename_i l
   obtain ⟨ds,h,rfl⟩:=Option.map_eq_some_iff.mp e;unfold VR at r;obtain ⟨a,items,m,rfl,_,ho,rs⟩:=r;obtain ⟨as,h'⟩:=ih l ds items.toList h rs;exact ⟨_,.tuple ho rfl rfl h'⟩
  ·rename_i l
   obtain ⟨ds,h,rfl⟩:=Option.map_eq_some_iff.mp e;unfold VR at r;obtain ⟨a,items,m,rfl,_,ho,rs⟩:=r;obtain ⟨as,h'⟩:=ih l ds items.toList h rs;exact ⟨_,.list ho rfl rfl h'⟩
  ·rename_i i
   split at e
   ·rename_i l hl
    obtain ⟨ds,h,rfl⟩:=Option.map_eq_some_iff.mp e;unfold VR at r;obtain ⟨a,ha,rfl⟩:=r;obtain ⟨items,m,ho,rs⟩:=I.obs i a _ ha hl;obtain ⟨as,h'⟩:=ih l ds items.toList h rs;exact ⟨_,.list ho rfl rfl h'⟩
   ·cases e
  ·cases e
  ·cases e
end
def shp (d:PyData):Bool:=SeqAt.shaped d
def eqA (a b:V)(σ:Sto):Option Bool:=match a,b with
 | .int i,.int j=>some (i==j)
 | .str x,.str y=>some (x.cps.toList==y.cps.toList)
 | .bool x,.bool y=>some (x==y)
 | a,b=>match py σ 9 a,py σ 9 b with
  | some x,some y=>if SeqAt.shaped x && SeqAt.shaped y then some (x.eqv y) else none
  | _,_=>none
section
variable {prog:Program} {w:World} {A:Around} {K:Frag} {G:Gl} {n:Nat} {r:Rec} {ρ:List Addr} {σ σ':Sto} {s:Shared} {ae:AE} {env:Env}
theorem vrI {i:Int}{x:Value}(r:VR ρ s.heap (.int i) x):∃t,x= .int i t:=by unfold VR at r; exact r
theorem vrS {i:Str}{x:Value}(r:VR ρ s.heap (.str i) x):∃t,x= .str i t:=by unfold VR at r; exact r
theorem vrB {i:Bool}{x:Value}(r:VR ρ s.heap (.bool i) x):x= .bool i:=by unfold VR at r; exact r
theorem vrN {x:Value}(r:VR ρ s.heap .none x):x= .none:=by unfold VR at r; exact r
theorem vrV {v x:Value}(r:VR ρ s.heap (.val v) x):x=v:=by unfold VR at r; exact r
theorem vrT {i:Nat}{x:Value}(r:VR ρ s.heap (.trk i) x):∃a,ρ[i]? =some a/\x= .ref a:=by unfold VR at r; exact r
theorem zMI (hA:A.units + 65 < cLine){a b:V}{c:Bool}(h:eqA a b σ=some c){x y:Value}(I:Inv K ρ σ s)(ra:VR ρ s.heap a x)(rb:VR ρ s.heap b y){Q:Value->Shared->Prop}{E:Value->Shared->Prop}
  (q:Q (.bool c) s):wpAny (model prog w) A (compareOp .Eq x y) Q E s:=by
 have gen:∀{a b:V},(match py σ 9 a,py σ 9 b with
  | some x,some y=>if SeqAt.shaped x && SeqAt.shaped y then some (x.eqv y) else none
  | _,_=>none)=some c->VR ρ s.heap a x->VR ρ s.heap b y->wpAny (model prog w) A (compareOp .Eq x y) Q E s:=by
  intro a b h ra rb;split at h
  ·rename_i d e h1 h2
   split at h
   ·rename_i hs
    cases h;obtain ⟨as,ha⟩:=qG I _ _ _ _ h1 ra;obtain ⟨bs,hb⟩:=qG I _ _ _ _ h2 rb;simp only [Bool.and_eq_true] at hs;exact eq_dataH ha hb hs.1 hs.2 (by omega) q
   ·cases h
  ·cases h
 unfold eqA at h;split at h
 ·cases h
  obtain ⟨t,rfl⟩:=vrI ra; obtain ⟨u,rfl⟩:=vrI rb;exact wpAny_eq_int q
 ·cases h
  obtain ⟨t,rfl⟩:=vrS ra; obtain ⟨u,rfl⟩:=vrS rb;exact P.eq_str q
 ·cases h
  cases vrB ra; cases vrB rb;exact PyProof.Rows.eq_bool q
 ·exact gen h ra rb
theorem zLL (hA:A.units + 65 < cLine){a b:V}{c:Bool}(h:eqA a b σ=some c){x y:Value}(I:Inv K ρ σ s)(ra:VR ρ s.heap a x)(rb:VR ρ s.heap b y){Q:Value->Shared->Prop}{E:Value->Shared->Prop}
  (q:Q (.bool (!c)) s):wpAny (model prog w) A (compareOp .NotEq x y) Q E s:=by
 have gen:∀{a b:V},(match py σ 9 a,py σ 9 b with
  | some x,some y=>if SeqAt.shaped x && SeqAt.shaped y then some (x.eqv y) else none
  | _,_=>none)=some c->VR ρ s.heap a x->VR ρ s.heap b y->wpAny (model prog w) A (compareOp .NotEq x y) Q E s:=by
  intro a b h ra rb;split at h
  ·rename_i d e h1 h2
   split at h
   ·rename_i hs
    cases h;obtain ⟨as,ha⟩:=qG I _ _ _ _ h1 ra;obtain ⟨bs,hb⟩:=qG I _ _ _ _ h2 rb;simp only [Bool.and_eq_true] at hs;exact ne_dataH ha hb hs.1 hs.2 (by omega) q
   ·cases h
  ·cases h
 unfold eqA at h;split at h
 ·cases h
  obtain ⟨t,rfl⟩:=vrI ra; obtain ⟨u,rfl⟩:=vrI rb;exact P.ne_int q
 ·cases h
  obtain ⟨t,rfl⟩:=vrS ra; obtain ⟨u,rfl⟩:=vrS rb;exact P.ne_str q
 ·cases h
  cases vrB ra; cases vrB rb;exact PyProof.Rows.ne_bool q
 ·exact gen h ra rb
def inA (a b:V)(σ:Sto):Option Bool:=match a,b with
 | .str y,.str x=>(match y.cps.toList with
  | [c]=>some (x.cps.toList.any (Nat.beq c))
  | _=>some (!(Builtin.Str.occurrences x y 0 x.length 1).isEmpty))
 | a,b=>match py σ 9 a,py σ 9 b with
  | some d,some (.list xs)=>if SeqAt.shaped d && SeqAt.shaped (.list xs) then some (xs.any fun y=>PyData.eqv y d) else none
  | some d,some (.tuple xs)=>if SeqAt.shaped d && SeqAt.shaped (.tuple xs) then some (xs.any fun y=>PyData.eqv y d) else none
  | _,_=>none
theorem zHl (hA:A.units + 65 < cLine){a b:V}{c:Bool}(h:inA a b σ=some c){x y:Value}(I:Inv K ρ σ s)(ra:VR ρ s.heap a x)(rb:VR ρ s.heap b y){Q:Value->Shared->Prop}{E:Value->Shared->Prop}:
  (Q (.bool c) s->wpAny (model prog w) A (compareOp .In x y) Q E s)/\(Q (.bool (!c)) s->wpAny (model prog w) A (compareOp .NotIn x y) Q E s):=by
 unfold inA at h;split at h
 ·rename_i y' x'
  have h':some (!(Builtin.Str.occurrences x' y' 0 x'.length 1).isEmpty)=some c:=by
   split at h
   ·rename_i c' hc'
    rw [<-h];have e:y'=⟨#[c']⟩:=by
     obtain ⟨a⟩:=y'
     congr 1
     exact Array.toList_inj.mp hc'
    subst e;rw [StrLaws.found_one]
    congr 1
    rw [Bool.eq_iff_iff,decide_eq_true_eq,List.any_eq_true];exact ⟨fun hm=>⟨c',hm,by simp⟩,fun ⟨z,hm,hz⟩=>by rw [Nat.eq_of_beq_eq_true hz]; exact hm⟩
   ·exact h
  cases h';obtain ⟨t,rfl⟩:=vrS ra; obtain ⟨u,rfl⟩:=vrS rb;exact ⟨fun q=>P.in_str q,fun q=>P.notIn_str q⟩
 ·split at h
  ·rename_i d xs h1 h2
   split at h
   ·rename_i hs
    cases h;obtain ⟨as,ha⟩:=qG I _ _ _ _ h1 ra;obtain ⟨bs,hb⟩:=qG I _ _ _ _ h2 rb;simp only [Bool.and_eq_true,SeqAt.shaped,PyData.canLay0] at hs;have hd:PyData.depth d<=64:=by simpa using hs.1.2
    have hu:A.units + 1 + min (PyData.depthAll xs) d.depth < cLine:=by have:=Nat.min_le_right (PyData.depthAll xs) d.depth; omega
    exact ⟨fun q=>SeqAt.in_list_reads hb ha hs.2.1 hs.1.1 hu q,fun q=>SeqAt.notIn_list_reads hb ha hs.2.1 hs.1.1 hu q⟩
   ·cases h
  ·rename_i d xs h1 h2
   split at h
   ·rename_i hs
    cases h;obtain ⟨as,ha⟩:=qG I _ _ _ _ h1 ra;obtain ⟨bs,hb⟩:=qG I _ _ _ _ h2 rb;simp only [Bool.and_eq_true,SeqAt.shaped,PyData.canLay0] at hs;have hd:PyData.depth d<=64:=by simpa using hs.1.2
    have hu:A.units + 1 + min (PyData.depthAll xs) d.depth < cLine:=by have:=Nat.min_le_right (PyData.depthAll xs) d.depth; omega
    exact ⟨fun q=>SeqAt.in_tuple_reads hb ha hs.2.1 hs.1.1 hu q,fun q=>SeqAt.notIn_tuple_reads hb ha hs.2.1 hs.1.1 hu q⟩
   ·cases h
  ·cases h
end
end Mine
end
section
namespace Mine
structure Ops where
 inn:V->V->Option Bool
 lt:V->V->Option Bool
structure OpsOK (prog:Program) (w:World) (K:Frag) (O:Ops):Prop where
 inn:∀a b c,O.inn a b=some c->∀A ρ σ s x y,A.units + 65 < cLine->Inv K ρ σ s->VR ρ s.heap a x->VR ρ s.heap b y->SE (model prog w) A K ρ s (compareOp .In x y) (.bool c) σ/\SE (model prog w) A K ρ s (compareOp .NotIn x y) (.bool (!c)) σ
 lt:∀a b c,O.lt a b=some c->∀A ρ σ s x y,A.units + 65 < cLine->Inv K ρ σ s->VR ρ s.heap a x->VR ρ s.heap b y->SE (model prog w) A K ρ s (compareOp .Lt x y) (.bool c) σ
def isA (a b:V):Option Bool:=match a,b with
 | .none,.none=>some true
 | .int _,.none=>some false
 | .str _,.none=>some false
 | .bool _,.none=>some false
 | .tup _,.none=>some false
 | .lst _,.none=>some false
 | .trk _,.none=>some false
 | .val (.type x),.val (.type y)=>some (x==y)
 | _,_=>none
def kU (v:V)(σ:Sto):Option Bool:=match v with
 | .none=>some false
 | .bool b=>some b
 | .int i=>some (i !=0)
 | .str s=>if s.length < 2 ^ 63 then some (s.length !=0) else none
 | .lst l=>if l.length < 2 ^ 63 then some (!l.isEmpty) else none
 | .trk i=>(match σ[i]? with | some (.list l)=>if l.length < 2 ^ 63 then some (!l.isEmpty) else none | some (.stk b l)=>if b<=1000 then some (zNj l) else none | _=>none)
 | _=>none
def zCS (O:Ops)(op:CmpOp)(a b:V)(σ:Sto):Option Bool:=match op with
 | .Eq=>eqA a b σ
 | .NotEq=>(eqA a b σ).map (!·)
 | .Lt=>(match a,b with | .int i,.int j=>some (decide (i < j)) | a,b=>O.lt a b)
 | .LtE=>(match a,b with | .int i,.int j=>some (decide (i<=j)) | _,_=>none)
 | .Gt=>(match a,b with | .int i,.int j=>some (decide (i >j)) | _,_=>none)
 | .GtE=>(match a,b with | .int i,.int j=>some (decide (i ≥ j)) | _,_=>none)
 | .In=>(match inA a b σ with | some c=>some c | none=>O.inn a b)
 | .NotIn=>(match inA a b σ with | some c=>some (!c) | none=>(O.inn a b).map (!·))
 | .Is=>isA a b
 | .IsNot=>(isA a b).map (!·)
section
variable {prog:Program} {w:World} {A:Around} {K:Frag} {G:Gl} {O:Ops} {n:Nat} {r:Rec} {ρ:List Addr} {σ σ':Sto} {s:Shared} {ae:AE} {env:Env}
theorem vE {l:List V}{x:Value}(r:VR ρ s.heap (.tup l) x):∃a items n,x= .ref a/\a ∉ ρ/\s.heap.get? a=some ⟨.type "tuple",none,.seq items n,#[]⟩/\VRs ρ s.heap l items.toList:=by unfold VR at r; exact r
theorem zMo {l:List V}{x:Value}(r:VR ρ s.heap (.lst l) x):∃a items n,x= .ref a/\a ∉ ρ/\s.heap.get? a=some ⟨.type "list",none,.seq items n,#[]⟩/\VRs ρ s.heap l items.toList:=by unfold VR at r; exact r
theorem zGH {a b:V}{c:Bool}(h:isA a b=some c){x y:Value}(ra:VR ρ s.heap a x)(rb:VR ρ s.heap b y){Q:Value->Shared->Prop}{E:Value->Shared->Prop}:
  (Q (.bool c) s->wpAny (model prog w) A (compareOp .Is x y) Q E s)/\(Q (.bool (!c)) s->wpAny (model prog w) A (compareOp .IsNot x y) Q E s):=by
 unfold isA at h;split at h <;>first | cases h; done | skip
 ·cases h; cases vrN ra; cases vrN rb
  exact ⟨fun q=>wpAny_is_plain rfl q,fun q=>wpAny_isNot_plain rfl q⟩
 ·cases h; obtain ⟨t,rfl⟩:=vrI ra; cases vrN rb
  exact ⟨fun q=>wpAny_is_plain rfl q,fun q=>wpAny_isNot_plain rfl q⟩
 ·cases h; obtain ⟨t,rfl⟩:=vrS ra; cases vrN rb
  exact ⟨fun q=>wpAny_is_plain rfl q,fun q=>wpAny_isNot_plain rfl q⟩
 ·cases h; cases vrB ra; cases vrN rb
  exact ⟨fun q=>wpAny_is_plain rfl q,fun q=>wpAny_isNot_plain rfl q⟩
 ·cases h; obtain ⟨a,_,_,rfl,_⟩:=vE ra; cases vrN rb
  exact ⟨fun q=>wpAny_is_plain rfl q,fun q=>wpAny_isNot_plain rfl q⟩
 ·cases h; obtain ⟨a,_,_,rfl,_⟩:=zMo ra; cases vrN rb
  exact ⟨fun q=>wpAny_is_plain rfl q,fun q=>wpAny_isNot_plain rfl q⟩
 ·cases h; obtain ⟨a,_,rfl⟩:=vrT ra; cases vrN rb
  exact ⟨fun q=>wpAny_is_plain rfl q,fun q=>wpAny_isNot_plain rfl q⟩
 ·rename_i p q
  cases h; cases vrV ra; cases vrV rb;have e:(Value.type p==Value.type q)=(p==q):=by
   by_cases z:p=q
   ·subst z; simp
   ·rw [beq_eq_false_iff_ne.mpr z,beq_eq_false_iff_ne.mpr (fun w=>z (by injection w))]
  exact ⟨fun q=>wpAny_is_plain rfl (by rw [e]; exact q),fun q=>wpAny_isNot_plain rfl (by rw [e]; exact q)⟩
theorem qR {a:Addr}{items:Array Value}{k:Nat}{l:List V}(ho:s.heap.get? a=some ⟨.type "list",none,.seq items k,#[]⟩)(rs:VRs ρ s.heap l items.toList)(hz:l.length < 2 ^ 63){Q:Bool->Shared->Prop}{E:Value->Shared->Prop}
  (q:Q (!l.isEmpty) {s with toks:=s.toks + 1 + 1}):wpAny (model prog w) A (truthy (.ref a)) Q E s:=by
 have e:=rs.length;have hs:items.toList.length=items.size:=by simp
 refine wpAny_truthy_list (l:=a) (items:=items) ⟨_,ho,rfl,k,rfl⟩ (by omega) ?_;have e2:l.isEmpty=items.isEmpty:=by
  rw [<-Array.isEmpty_toList];cases l with
  | nil=>cases hq:items.toList with
   | nil=>rfl
   | cons x y=>rw [hq] at e; cases e
  | cons p r=>cases hq:items.toList with
   | nil=>rw [hq] at e; cases e
   | cons x y=>rfl
 rw [e2] at q; exact q
theorem kB {v:V}{b:Bool}(h:kU v σ=some b){x:Value}(I:Inv K ρ σ s)(r:VR ρ s.heap v x){Q:Bool->Shared->Prop}{E:Value->Shared->Prop}(q:zMa K ρ s b σ Q):wpAny (model prog w) A (truthy x) Q E s:=by
 have tk:∀t,Q b {s with toks:=t}:=fun t=>q _ _ (I.toks t) ((Ext.refl _ _).toks t);unfold kU at h;split at h
 ·cases h; cases vrN r; exact PyProof.Rows.truthy_none (q _ _ I (.refl _ _))
 ·cases h; cases vrB r; exact wpAny_truthy_bool (q _ _ I (.refl _ _))
 ·cases h; obtain ⟨t,rfl⟩:=vrI r; exact P.truthy_int (q _ _ I (.refl _ _))
 ·rename_i u
  split at h
  ·rename_i hz
   cases h; obtain ⟨t,rfl⟩:=vrS r;have e:((u.length:Int) !=0)=(u.length !=0):=by
    by_cases z:u.length=0
    ·rw [z]; rfl
    ·rw [bne_iff_ne.mpr z,bne_iff_ne.mpr (by omega)]
   refine P.truthy_str (by omega) ?_;rw [e];exact tk _
  ·cases h
 ·rename_i l
  split at h
  ·rename_i hz
   cases h;obtain ⟨a,items,k,rfl,_,ho,rs⟩:=zMo r;exact qR ho rs hz (tk _)
  ·cases h
 ·split at h
  ·rename_i l hl
   split at h
   ·rename_i hz
    cases h;obtain ⟨a,ha,rfl⟩:=vrT r;obtain ⟨items,k,ho,rs⟩:=I.obs _ a _ ha hl;exact qR ho rs hz (tk _)
   ·cases h
  ·rename_i B l hl
   split at h
   ·rename_i hz
    cases h;obtain ⟨a,ha,rfl⟩:=vrT r;obtain ⟨hb,items,k,ho,rs⟩:=I.obs _ a _ ha hl;have hlen:(qH l).length=l.length:=by simp [qH]
    have e:(!(qH l).isEmpty)=zNj l:=by
     cases l with
     | nil=>rfl
     | cons c l=>simp [qH,zNj]
    exact qR ho rs (by rw [hlen]; omega) (by rw [e]; exact tk _)
   ·cases h
  ·cases h
 ·cases h
theorem zBW (OO:OpsOK prog w K O)(hA:A.units + 65 < cLine){op:CmpOp}{a b:V}{c:Bool}(h:zCS O op a b σ=some c){x y:Value}(I:Inv K ρ σ s)(ra:VR ρ s.heap a x)(rb:VR ρ s.heap b y):
  SE (model prog w) A K ρ s (compareOp op x y) (.bool c) σ:=by
 intro Q E q;have q0:Q (.bool c) s:=q _ _ _ I (.refl _ _) kI;unfold zCS at h;split at h
 ·exact zMI hA h I ra rb q0
 ·obtain ⟨d,hd,rfl⟩:=Option.map_eq_some_iff.mp h
  exact zLL hA hd I ra rb q0
 ·split at h
  ·cases h; obtain ⟨t,rfl⟩:=vrI ra; obtain ⟨u,rfl⟩:=vrI rb; exact P.lt_int q0
  ·exact OO.lt _ _ _ h _ _ _ _ _ _ hA I ra rb _ _ q
 ·split at h
  ·cases h; obtain ⟨t,rfl⟩:=vrI ra; obtain ⟨u,rfl⟩:=vrI rb; exact P.le_int q0
  ·cases h
 ·split at h
  ·cases h; obtain ⟨t,rfl⟩:=vrI ra; obtain ⟨u,rfl⟩:=vrI rb; exact P.gt_int q0
  ·cases h
 ·split at h
  ·cases h; obtain ⟨t,rfl⟩:=vrI ra; obtain ⟨u,rfl⟩:=vrI rb; exact P.ge_int q0
  ·cases h
 ·split at h
  ·rename_i d hd
   cases h;exact (zHl hA hd I ra rb).1 q0
  ·exact (OO.inn _ _ _ h _ _ _ _ _ _ hA I ra rb).1 _ _ q
 ·split at h
  ·rename_i d hd
   cases h;exact (zHl hA hd I ra rb).2 q0
  ·obtain ⟨d,hd,rfl⟩:=Option.map_eq_some_iff.mp h
   exact (OO.inn _ _ _ hd _ _ _ _ _ _ hA I ra rb).2 _ _ q
 ·exact (zGH h ra rb).1 q0
 ·obtain ⟨d,hd,rfl⟩:=Option.map_eq_some_iff.mp h
  exact (zGH hd ra rb).2 q0
end
end Mine
end
section
namespace Mine
def zS (v:V)(σ:Sto):Option (List V):=match v with
 | .lst l=>some l
 | .trk i=>(match σ[i]? with | some (.list l)=>some l | some (.stk _ l)=>some (qH l) | _=>none)
 | _=>none
def zLj (op:Operator)(a b:V)(σ:Sto):Option (V×Sto):=match op,a,b with
 | .Add,.int i,.int j=>some (.int (i + j),σ)
 | .Sub,.int i,.int j=>some (.int (i - j),σ)
 | .Mult,.int i,.int j=>if Builtin.Int.intBits j<=64 then some (.int (i * j),σ) else if Builtin.Int.intBits i<=64 then some (.int (i * j),σ) else none
 | .Mod,.int i,.int j=>if j==0 then none else some (.int (i.fmod j),σ)
 | .FloorDiv,.int i,.int j=>if j==0 || Builtin.divisionGoesByPylong i j then none else some (.int (i.fdiv j),σ)
 | .Pow,.int i,.int j=>if decide (j < 0) || (i==0 || i==1) || i==-1 then none else if j==0 then some (.int 1,σ)
   else if Builtin.Int.intTooBig (((Builtin.Int.intBits i:Nat):Int) * j) then none else some (.int (i ^ j.toNat),σ)
 | .Add,.str x,.str y=>if x.length==0 then some (.str y,σ) else if y.length==0 then some (.str x,σ) else if (x ++ y).length<=sizeLine then some (.str (x ++ y),σ) else none
 | .Add,a,b=>(match zS a σ,zS b σ with
  | some l,some l'=>if l.length + l'.length<=1000 then some (.trk σ.length,σ ++ [.list (l ++ l')]) else none
  | _,_=>none)
 | _,_,_=>none
def zEA (op:Operator)(a b:V)(σ:Sto):Option (V×Sto):=match op,a,b with
 | .Add,.int i,.int j=>some (.int (i + j),σ)
 | .Sub,.int i,.int j=>some (.int (i - j),σ)
 | .FloorDiv,.int i,.int j=>if j==0 || Builtin.divisionGoesByPylong i j then none else some (.int (i.fdiv j),σ)
 | .Add,.str x,.str y=>if x.length==0 then some (.str y,σ) else if y.length==0 then some (.str x,σ) else if (x ++ y).length<=sizeLine then some (.str (x ++ y),σ) else none
 | .Add,.trk i,b=>(match zS (.trk i) σ,zS b σ with
  | some l,some l'=>if l.length + l'.length<=1000 then some (.trk i,σ.set i (.list (l ++ l'))) else none
  | _,_=>none)
 | _,_,_=>none
section
variable {prog:Program} {w:World} {A:Around} {K:Frag} {G:Gl} {O:Ops} {n:Nat} {r:Rec} {ρ:List Addr} {σ σ':Sto} {s:Shared} {ae:AE} {env:Env}
theorem yI (I:Inv K ρ σ s){v:V}{l:List V}(h:zS v σ=some l){x:Value}(rx:VR ρ s.heap v x):∃a items n,x= .ref a/\s.heap.get? a=some ⟨.type "list",none,.seq items n,#[]⟩/\VRs ρ s.heap l items.toList:=by
 unfold zS at h;split at h
 ·cases h; obtain ⟨a,items,n,rfl,_,ho,rs⟩:=zMo rx; exact ⟨a,items,n,rfl,ho,rs⟩
 ·split at h
  ·rename_i hl
   cases h;obtain ⟨a,ha,rfl⟩:=vrT rx;obtain ⟨items,n,ho,rs⟩:=I.obs _ a _ ha hl;exact ⟨a,items,n,rfl,ho,rs⟩
  ·rename_i hl
   cases h;obtain ⟨a,ha,rfl⟩:=vrT rx;obtain ⟨_,items,n,ho,rs⟩:=I.obs _ a _ ha hl;exact ⟨a,items,n,rfl,ho,rs⟩
  ·cases h
 ·cases h
theorem kQ {x:Str}(I:Inv K ρ σ s)(hz:x.length<=sizeLine){Q:Value->Shared->Prop}(q:zAu K ρ s (.str x) σ Q):(Made.str x).post Q s:=⟨hz,SE.tok I qJ q⟩
theorem zAU {x y:Str}{t u:Tok}{v:V}{op:Value->Value->Sem Value}
  (h:(if x.length==0 then some (V.str y,σ) else if y.length==0 then some (V.str x,σ) else if (x ++ y).length<=sizeLine then some (V.str (x ++ y),σ) else none)=some (v,σ')) (I:Inv K ρ σ s)
  {Q:Value->Shared->Prop} {E:Value->Shared->Prop} (q:zAu K ρ s v σ' Q):(if x.length==0 then Made.val (.str y u) else if y.length==0 then Made.val (.str x t) else Made.str (x ++ y)).post Q s:=by
 split at h
 ·rename_i h1; cases h; rw [if_pos h1]; exact SE.here I qJ q
 ·rename_i h1
  rw [if_neg h1];split at h
  ·rename_i h2; cases h; rw [if_pos h2]; exact SE.here I qJ q
  ·rename_i h2
   rw [if_neg h2];split at h
   ·rename_i h3; cases h; exact kQ I h3 q
   ·cases h
theorem zKF {op:Operator}{a b v:V}(h:zLj op a b σ=some (v,σ')){x y:Value}(I:Inv K ρ σ s)(ra:VR ρ s.heap a x)(rb:VR ρ s.heap b y):SE (model prog w) A K ρ s (binaryOp op x y) v σ':=by
 intro Q E q;unfold zLj at h;split at h
 ·cases h; obtain ⟨t,rfl⟩:=vrI ra; obtain ⟨u,rfl⟩:=vrI rb; exact AutoIntOps.add_0 (zX I q)
 ·cases h; obtain ⟨t,rfl⟩:=vrI ra; obtain ⟨u,rfl⟩:=vrI rb; exact AutoIntOps.sub_0 (zX I q)
 ·obtain ⟨t,rfl⟩:=vrI ra; obtain ⟨u,rfl⟩:=vrI rb
  split at h
  ·rename_i h1; cases h; exact AutoIntOps.mul_0 (zX I q) (IntMulOk.of_right h1)
  ·split at h
   ·rename_i h1; cases h; exact AutoIntOps.mul_0 (zX I q) (IntMulOk.of_left h1)
   ·cases h
 ·obtain ⟨t,rfl⟩:=vrI ra; obtain ⟨u,rfl⟩:=vrI rb
  split at h
  ·cases h
  ·rename_i h1; cases h; exact AutoIntOps.mod_1 h1 (zX I q)
 ·obtain ⟨t,rfl⟩:=vrI ra; obtain ⟨u,rfl⟩:=vrI rb
  split at h
  ·cases h
  ·rename_i h1; cases h
   simp only [Bool.or_eq_true,not_or] at h1;exact AutoIntOps.floordiv_1 h1.1 h1.2 (zX I q)
 ·obtain ⟨t,rfl⟩:=vrI ra; obtain ⟨u,rfl⟩:=vrI rb
  split at h
  ·cases h
  ·rename_i h1
   simp only [Bool.or_eq_true,not_or,decide_eq_true_eq] at h1;split at h
   ·rename_i h2; cases h; exact AutoIntOps.pow_0 (by omega) h2 (zX I q)
   ·rename_i h2
    split at h
    ·cases h
    ·rename_i h3; cases h; exact AutoIntOps.pow_4 (by omega) h2 (by simp only [Bool.or_eq_true,not_or]; exact h1.1.2) h1.2 h3 (zX I q)
 ·obtain ⟨t,rfl⟩:=vrS ra; obtain ⟨u,rfl⟩:=vrS rb
  exact P.add_str (zAU (E:=E) (op:=binaryOp .Add) h I q)
 ·split at h
  ·rename_i l l' h1 h2
   split at h
   ·rename_i hz
    cases h;obtain ⟨p,items,k,rfl,ho,rs⟩:=yI I h1 ra;obtain ⟨p',items',k',rfl,ho',rs'⟩:=yI I h2 rb;have e1:=rs.length;have e2:=rs'.length;simp only [Array.length_toList] at e1 e2;refine P.add_list ho ho' (kM (tk:=s.toks) I (by rw [Array.toList_append]; exact rs.append rs') q) (zQ (by omega))
   ·cases h
  ·cases h
 ·cases h
end
end Mine
end
section
namespace Mine
section
variable {prog:Program} {w:World} {A:Around} {K:Frag} {G:Gl} {O:Ops} {n:Nat} {r:Rec} {ρ:List Addr} {σ σ':Sto} {s:Shared} {ae:AE} {env:Env}
theorem Kp.upd {a:Addr}{h':Heap}(m:a∈ρ)(hb:Heap.ExtBut a s.heap h'):Kp ρ ρ s.heap h':=fun b o nb e _=>⟨hb b o (fun z=>nb (z▸m)) e,nb⟩
theorem Inv.updList {i:Nat}{a:Addr}{items:Array Value}{k:Nat}{l':List V}{f:Array Value->Array Value}{tk:Tok}(I:Inv K ρ σ s)(e:ρ[i]? =some a)
  (ho:s.heap.get? a=some ⟨.type "list",none,.seq items k,#[]⟩) (rs:VRs ρ s.heap l' (f items).toList):
  Inv K ρ (σ.set i (.list l')) {s with heap:=s.heap.update a (Obj.mapSeq f),toks:=tk}/\Ext ρ s ρ {s with heap:=s.heap.update a (Obj.mapSeq f),toks:=tk}:=by
 have hb:=(Heap.SameBut.update s.heap a (Obj.mapSeq f)).extBut;refine I.upd e hb ?_;refine ⟨f items,(if (f items).size==items.size then k else k + 1),Heap.get?_update_self _ ho rfl,rs.mono (fun _ _ e=>e) (Kp.upd (List.mem_of_getElem? e) hb)⟩
theorem zOB {m:Nat}(h:m<=1000):Builtin.List.listTooLong m=false:=by
 unfold Builtin.List.listTooLong;simp only [decide_eq_false_iff_not];have:=zQ h;omega
theorem zGa:fillsInplaceSlot (.type "list") "add" (Operator.Add== .Add)=pure false:=by
 unfold fillsInplaceSlot;show (typeLookup (.type "list") (dunderI "add") >>=fun fi=>pure (fi.isSome && !isSeqSlot fi))=pure false;rw [F.slot_list_iadd.lookup]; rfl
theorem zKA:seqSlot? (.type "list") (dunderI "add")=pure (some (.builtin "list.__iadd__")):=PySem.seqSlot_of F.slot_list_iadd.lookup (by decide +kernel)
theorem zKK {l b:Addr}{items items2:Array Value}{k k2:Nat}{Q:Value->Shared->Prop}{E:Value->Shared->Prop}(hl:s.heap.get? l=some ⟨.type "list",none,.seq items k,#[]⟩)(hb:s.heap.get? b=some ⟨.type "list",none,.seq items2 k2,#[]⟩)
  (hz:items.size + items2.size<=1000) (h:Q (.ref l) {s with heap:=s.heap.update l (Obj.mapSeq fun x=>x ++ items2)}):wpAny (model prog w) A (inplaceOp .Add (.ref l) (.ref b)) Q E s:=by
 have ha:s.TypeIs (.ref l) "list":=⟨_,hl,rfl⟩;have hb':s.TypeIs (.ref b) "list":=⟨_,hb,rfl⟩;unfold inplaceOp;refine wpAny_holding ?_;refine wpAny_bind (wpAny_typeOf ha (wpAny_bind (wpAny_of_eq zGa ?_)));show wpAny (model prog w) A (if false=true then _ else _) Q E s;rw [if_neg Bool.false_ne_true];refine wpAny_bind (wpAny_binaryOp1_none (nm:="add") ha hb' noFill_list_add ?_);refine wpAny_bind (wpAny_of_eq zKA ?_);refine wpAny_bind (wpAny_rule ?_);refine (call_meets F.slot_list_iadd ha F.entry_list_iadd (F.args_list_iadd_2 _ _) (AutoSeq1.list___iadd___list_list_0 l items k b items2 k2 (by rw [zOB hz]; simp) (zQ (by omega)) (Nat.le_succ_of_le (zQ hz))) ⟨hl,hb,h⟩)
theorem zBv {op:Operator}{a b v:V}(h:zEA op a b σ=some (v,σ')){x y:Value}(I:Inv K ρ σ s)(ra:VR ρ s.heap a x)(rb:VR ρ s.heap b y):SE (model prog w) A K ρ s (inplaceOp op x y) v σ':=by
 intro Q E q;unfold zEA at h;split at h
 ·cases h; obtain ⟨t,rfl⟩:=vrI ra; obtain ⟨u,rfl⟩:=vrI rb; exact AutoIntOps.iadd_0 (zX I q)
 ·cases h; obtain ⟨t,rfl⟩:=vrI ra; obtain ⟨u,rfl⟩:=vrI rb; exact AutoIntOps.isub_0 (zX I q)
 ·obtain ⟨t,rfl⟩:=vrI ra; obtain ⟨u,rfl⟩:=vrI rb
  split at h
  ·cases h
  ·rename_i h1; cases h
   simp only [Bool.or_eq_true,not_or] at h1;exact AutoIntOps.ifloordiv_1 h1.1 h1.2 (zX I q)
 ·obtain ⟨t,rfl⟩:=vrS ra; obtain ⟨u,rfl⟩:=vrS rb
  exact P.iadd_str (zAU (E:=E) (op:=inplaceOp .Add) h I q)
 ·split at h
  ·rename_i l l' h1 h2
   split at h
   ·rename_i hz
    cases h;obtain ⟨p,hp,rfl⟩:=vrT ra;obtain ⟨p1,items,k,e1,ho,rs⟩:=yI I h1 ra;cases e1;obtain ⟨p',items',k',rfl,ho',rs'⟩:=yI I h2 rb;have e1:=rs.length;have e2:=rs'.length;simp only [Array.length_toList] at e1 e2;have x:=I.updList (f:=fun x=>x ++ items') (tk:=s.toks) hp ho (by rw [Array.toList_append]; exact rs.append rs');exact zKK ho ho' (by omega) (q _ _ _ x.1 x.2 (by unfold VR; exact ⟨p,hp,rfl⟩))
   ·cases h
  ·cases h
 ·cases h
end
end Mine
end
section
namespace Mine
mutual
def bel (m:Nat):V->Bool
 | .trk i=>decide (i < m)
 | .tup l=>zKe m l
 | .lst l=>zKe m l
 | _=>true
def zKe (m:Nat):List V->Bool
 | []=>true
 | v::l=>bel m v && zKe m l
end
def zIP (m:Nat):List (Str×V)->Bool
 | []=>true
 | (_,v)::l=>bel m v && zIP m l
def zNz (m:Nat):List (Str×Nat)->Bool
 | []=>true
 | (_,v)::l=>decide (v < m) && zNz m l
def zGY (m:Nat):Ob->Bool
 | .list l=>zKe m l
 | .ns kv=>zIP m kv
 | .dict kv=>zIP m kv
 | .cell (some v)=>bel m v
 | .cell none=>true
 | .inst _ d=>decide (d < m)
 | .meth _ v=>bel m v
 | .lam _ cl j=>zNz m cl && decide (j < m)
 | .crec _=>true
 | .itms d=>decide (d < m)
 | .liter v _=>bel m v
 | .junk=>true
 | .enum j _=>decide (j < m)
 | .citer f v _=>bel m f && bel m v
 | .ctab _ _=>true
 | .stk _ _=>true
def zFU (m:Nat):Sto->Bool
 | []=>true
 | o::r=>zGY m o && zFU m r
section
variable {ρ:List Addr} {h:Heap} {m:Nat}
theorem kR {i:Nat}{a:Addr}(q:ρ[i]? =some a)(hi:i < m):(ρ.take m)[i]? =some a:=by rw [List.getElem?_take]; simp [hi,q]
theorem zAr {a:Addr}(n:a ∉ ρ):a ∉ ρ.take m:=fun q=>n (List.mem_of_mem_take q)
mutual
theorem VR.take:∀{v:V} {x:Value},VR ρ h v x->bel m v=true->VR (ρ.take m) h v x
 | .none,_,e,_=>by unfold VR at e ⊢; exact e
 | .bool _,_,e,_=>by unfold VR at e ⊢; exact e
 | .int _,_,e,_=>by unfold VR at e ⊢; exact e
 | .str _,_,e,_=>by unfold VR at e ⊢; exact e
 | .val _,_,e,_=>by unfold VR at e ⊢; exact e
 | .rng _ _ _,_,e,_=>by
  unfold VR at e ⊢;obtain ⟨p,t,u,v,e,n,ho⟩:=e;exact ⟨p,t,u,v,e,zAr n,ho⟩
 | .trk i,_,e,b=>by
  unfold VR at e ⊢; unfold bel at b;obtain ⟨a,q,r⟩:=e;exact ⟨a,kR q (by simpa using b),r⟩
 | .tup l,_,e,b=>by
  unfold VR at e ⊢; unfold bel at b;obtain ⟨a,items,k,e,n,ho,r⟩:=e;exact ⟨a,items,k,e,zAr n,ho,VRs.take' r b⟩
 | .lst l,_,e,b=>by
  unfold VR at e ⊢; unfold bel at b;obtain ⟨a,items,k,e,n,ho,r⟩:=e;exact ⟨a,items,k,e,zAr n,ho,VRs.take' r b⟩
theorem VRs.take':∀{v:List V} {x:List Value},VRs ρ h v x->zKe m v=true->VRs (ρ.take m) h v x
 | [],_,e,_=>by unfold VRs at e ⊢; exact e
 | v::l,_,e,b=>by
  unfold VRs at e ⊢; unfold zKe at b;obtain ⟨y,ys,e,a,r⟩:=e;simp only [Bool.and_eq_true] at b;exact ⟨y,ys,e,VR.take a b.1,VRs.take' r b.2⟩
end
theorem zB8 {x:Str}{v:V}:∀{kv:List (Str×V)},zIP m kv=true->kv.lookup x=some v->bel m v=true
 | [],_,e=>by cases e
 | (k,u)::r,b,e=>by
  unfold zIP at b; simp only [Bool.and_eq_true] at b;cases q:x==k with
  | true=>simp only [List.lookup_cons,q] at e; cases e; exact b.1
  | false=>simp only [List.lookup_cons,q] at e; exact zB8 b.2 e
theorem vH.take:∀{kv:List (Str×V)} {es:List DictEntry},vH ρ h kv es->zIP m kv=true->vH (ρ.take m) h kv es
 | [],_,e,_=>e
 | (_,_)::_,_,⟨e,es',q,a,b,c⟩,z=>by
  unfold zIP at z; simp only [Bool.and_eq_true] at z;exact ⟨e,es',q,a,b.take z.1,c.take z.2⟩
theorem cellsR.take:∀{l:List (Str×Nat)} {cl:List (Str×Addr)},cellsR ρ l cl->zNz m l=true->cellsR (ρ.take m) l cl
 | [],_,e,_=>e
 | (_,i)::_,_,⟨a,l',q,b,c⟩,z=>by
  unfold zNz at z; simp only [Bool.and_eq_true] at z;exact ⟨a,l',q,kR b (by simpa using z.1),c.take z.2⟩
theorem ObR.take {a:Addr}:∀{ob:Ob},ObR ρ h a ob->zGY m ob=true->ObR (ρ.take m) h a ob
 | .list _,⟨items,n,e,r⟩,b=>⟨items,n,e,r.take' b⟩
 | .ns kv,⟨mm,hn,hm⟩,b=>⟨mm,hn,fun x=>by
   have:=hm x;unfold OR at this ⊢;cases q:kv.lookup x with
   | none=>rw [q] at this; cases w:mm x with
    | none=>trivial
    | some y=>rw [w] at this; exact this
   | some v=>rw [q] at this; cases w:mm x with
    | none=>rw [w] at this; exact this
    | some y=>rw [w] at this; exact VR.take this (zB8 b q)⟩
 | .dict _,⟨es,n,e,r⟩,b=>⟨es,n,e,r.take b⟩
 | .cell Option.none,⟨ov,hc,r⟩,b=>⟨ov,hc,by cases ov <;>exact r⟩
 | .cell (Option.some v),⟨ov,hc,r⟩,b=>⟨ov,hc,by cases ov with
   | none=>exact r
   | some y=>exact VR.take r b⟩
 | .inst _ d,⟨dx,q,e⟩,b=>⟨dx,kR q (by simpa [zGY] using b),e⟩
 | .meth _ _,⟨x,r,e⟩,b=>⟨x,r.take b,e⟩
 | .lam _ _ _,⟨cl',c,ct,pm,hc,r,e⟩,b=>by
  simp only [zGY,Bool.and_eq_true,decide_eq_true_eq] at b;exact ⟨cl',c,ct,pm,kR hc b.2,r.take b.1,e⟩
 | .crec _,r,_=>r
 | .itms _,⟨dx,q,e⟩,b=>⟨dx,kR q (by simpa [zGY] using b),e⟩
 | .liter _ _,⟨l,e,r⟩,b=>⟨l,e,r.take b⟩
 | .junk,r,_=>r
 | .enum _ _,⟨it,old,q,e⟩,b=>⟨it,old,kR q (by simpa [zGY] using b),e⟩
 | .citer _ _ _,⟨x,y,e,r⟩,b=>⟨x,y,e,fun l=>by
   simp only [zGY,Bool.and_eq_true] at b;exact ⟨(r l).1.take b.1,(r l).2.take b.2⟩⟩
 | .ctab _ _,r,_=>r
 | .stk _ _,⟨z,items,n,e,r⟩,_=>⟨z,items,n,e,zJa r⟩
end
theorem zHr {m:Nat}:∀{σ:Sto} {i:Nat} {ob:Ob},zFU m σ=true->σ[i]? =some ob->zGY m ob=true
 | [],_,_,_,e=>by simp at e
 | o::r,0,_,b,e=>by simp at e; subst e; unfold zFU at b; simp only [Bool.and_eq_true] at b; exact b.1
 | o::r,i + 1,_,b,e=>by unfold zFU at b; simp only [Bool.and_eq_true] at b; exact zHr b.2 (by simpa using e)
theorem Inv.take {K:Frag}{ρ:List Addr}{σ:Sto}{s:Shared}(I:Inv K ρ σ s){m:Nat}(b:zFU m (σ.take m)=true):Inv K (ρ.take m) (σ.take m) s:=by
 refine ⟨by simp [I.len],I.nd.sublist (List.take_sublist _ _),fun i a ob e1 e2=>?_,I.stat,fun a q=>I.sep a (List.mem_of_mem_take q),I.gens⟩;have hi:i < m:=by
  have:=(List.getElem?_eq_some_iff.mp e1).1;simp at this; omega
 have e1':ρ[i]? =some a:=by rw [List.getElem?_take] at e1; simpa [hi] using e1
 have e2':σ[i]? =some ob:=by rw [List.getElem?_take] at e2; simpa [hi] using e2
 exact (I.obs i a ob e1' e2').take (zHr b e2)
theorem Ext.take {ρ s ρ' s'}(x:Ext ρ s ρ' s'){m:Nat}(h:ρ.length<=m):Ext ρ s (ρ'.take m) s':=by
 refine ⟨?_,fun i a hi e=>x.new i a hi ?_,x.keep,x.os⟩
 ·obtain ⟨l,rfl⟩:=x.pre
  exact ⟨l.take (m - ρ.length),by rw [List.take_append,List.take_of_length_le h]⟩
 ·rw [List.getElem?_take] at e
  split at e
  ·exact e
  ·cases e
def cut (m:Nat)(v:V)(σ:Sto):Sto:=if bel m v && zFU m (σ.take m) then σ.take m else σ
theorem zJ5 {K:Frag}{ρ ρ':List Addr}{σ':Sto}{s s':Shared}{v:V}{x:Value}{Q:Value->Shared->Prop}(I:Inv K ρ' σ' s')(X:Ext ρ s ρ' s'){m:Nat}(hm:ρ.length<=m)(r:VR ρ' s'.heap v x)
  (q:zAu K ρ s v (cut m v σ') Q):Q x s':=by
 unfold cut at q;split at q
 ·rename_i h
  simp only [Bool.and_eq_true] at h;exact q _ _ _ (I.take h.2) (X.take hm) (r.take h.1)
 ·exact q _ _ _ I X r
end Mine
end
section
namespace Mine
def zDW {α:Type}(l:List α)(idx:List Nat):List α:=idx.filterMap (l[·]?)
theorem VRs.pick {ρ:List Addr}{h:Heap}{l:List V}{xs:List Value}(r:VRs ρ h l xs):∀idx:List Nat,VRs ρ h (zDW l idx) (zDW xs idx)
 | []=>by unfold zDW; simp [VRs]
 | i::idx=>by
  have ih:=VRs.pick r idx;unfold zDW at ih ⊢;simp only [List.filterMap_cons];cases e:l[i]? with
  | none=>
   have hx:xs[i]? =none:=by rw [List.getElem?_eq_none_iff] at e ⊢; rw [<-r.length]; exact e
   rw [hx]; exact ih
  | some v=>
   obtain ⟨x,hx,rx⟩:=r.get e;rw [hx];unfold VRs;exact ⟨x,_,rfl,rx,ih⟩
def wH (o i:V)(σ:Sto):Option V:=match o,i with
 | .str x,.int k=>if decide (k < -(2 ^ 63:Int)) || decide (k ≥ 2 ^ 63) then none else ((seqIndex? k x.length).bind (x.cps[·]?)).map fun c=> .str ⟨#[c]⟩
 | .tup l,.int k=>if decide (k < -(2 ^ 63:Int)) || decide (k ≥ 2 ^ 63) then none else (seqIndex? k l.length).bind (l[·]?)
 | o,.int k=>(match zS o σ with
  | some l=>if decide (k < -(2 ^ 63:Int)) || decide (k ≥ 2 ^ 63) then none else (seqIndex? k l.length).bind (l[·]?)
  | none=>none)
 | _,_=>none
section
variable {prog:Program} {w:World} {A:Around} {K:Frag} {G:Gl} {O:Ops} {n:Nat} {r:Rec} {ρ:List Addr} {σ σ':Sto} {s:Shared} {ae:AE} {env:Env}
theorem kG {value slice:Expr}{pos:Pos}{Q:Value->Shared->Prop}{E:Value->Shared->Prop}(hns:∀a b c p,slice≠.Slice a b c p\/c=none)
    (h:wpAny (model prog w) A (eval value env) (fun o s₁=>wpAny (model prog w) A (eval slice env) (fun i s₂=>SubscriptOn (model prog w) A o i Q E s₂) E s₁) E s):
    wpAny (model prog w) A (eval (.Subscript value slice pos) env) Q E s:=by
  rw [eval_Subscript];refine wpAny_bind (wpAny_mono h (fun o s₁ h₁=>wpAny_bind (wpAny_holding (wpAny_mono h₁ (fun i s₂ h₂=>wpAny_bind (wpAny_standAt ?_)) fun _ _ x=>x)))
    fun _ _ x=>x)
  obtain ⟨T,id,hl,hT,hg⟩:=h₂;refine wpAny_bind ?_;rw [getitemInPython_of_ne hT.not_modules];refine wpAny_bind (wpAny_specialOf hT hl ?_);have fin:∀vs,wpAny (model prog w) A (operate vs (getItem o i)) (fun r s₃=>wpAny (model prog w) A (letTemporaryGo value o r >>=fun _=>pure r) Q E s₃) E s₂:=fun vs=>
    wpAny_operate' (wpAny_mono hg (fun r s₃ h₃=>wpAny_bind (wpAny_letTemporaryGo (wpAny_pure h₃))) fun _ _ x=>x)
  cases slice <;>first
    | exact wpAny_pure (wpAny_bind (fin _))
    | exact wpAny_bind (wpAny_pure (wpAny_bind (fin _)))
    | (rename_i a b c p
       rcases hns a b c p with z | z
       · exact absurd rfl z
       · subst z; exact wpAny_pure (wpAny_bind (fin _)))
theorem zIZ {k:Int}(h:(decide (k < -(2 ^ 63:Int)) || decide (k ≥ 2 ^ 63))=false):-2 ^ 63<=k/\k < 2 ^ 63:=by
 simp only [Bool.or_eq_false_iff,decide_eq_false_iff_not] at h; omega
theorem zEm {a:Addr}{items:Array Value}{m:Nat}{l:List V}{k:Int}{t:Tok}{v:V}(ho:s.heap.get? a=some ⟨.type "list",none,.seq items m,#[]⟩)(rs:VRs ρ s.heap l items.toList)
  (hf:(decide (k < -(2 ^ 63:Int)) || decide (k ≥ 2 ^ 63))=false) (h:(seqIndex? k l.length).bind (l[·]?)=some v) {Q:Value->Shared->Prop} {E:Value->Shared->Prop} (q:∀x,VR ρ s.heap v x->Q x s):
  wpAny (model prog w) A (getItem (.ref a) (.int k t)) Q E s:=by
 obtain ⟨j,hj,hv⟩:=Option.bind_eq_some_iff.mp h;obtain ⟨x,hx,rx⟩:=rs.get hv;have e:=rs.length;simp only [Array.length_toList] at e;obtain ⟨f1,f2⟩:=zIZ hf;unfold seqIndex? at hj;have hl:s.heap.IsList a items:=⟨_,ho,rfl,m,rfl⟩
 by_cases hk:k < 0
 ·rw [if_pos hk] at hj
  dsimp only at hj;split at hj
  ·rename_i hc
   cases hj;simp only [Bool.and_eq_true,decide_eq_true_eq] at hc;refine wpAny_getItem_list_neg hl hk (by omega) f1 ?_ (q x rx);rw [<-e]; simpa using hx
  ·cases hj
 ·rw [if_neg hk] at hj
  dsimp only at hj;split at hj
  ·rename_i hc
   cases hj;refine wpAny_getItem_list hl (by omega) f2 ?_ (q x rx)
   simpa using hx
  ·cases hj
theorem zE7 {o i v:V}(h:wH o i σ=some v){x y:Value}(I:Inv K ρ σ s)(ro:VR ρ s.heap o x)(ri:VR ρ s.heap i y){Q:Value->Shared->Prop}{E:Value->Shared->Prop}(q:zAu K ρ s v σ Q):SubscriptOn (model prog w) A x y Q E s:=by
 unfold wH at h;split at h
 ·rename_i u k
  obtain ⟨t,rfl⟩:=vrS ro; obtain ⟨t',rfl⟩:=vrI ri;split at h
  ·cases h
  ·rename_i hf
   obtain ⟨c,hc,rfl⟩:=Option.map_eq_some_iff.mp h;exact ⟨"str",_,F.slot_str_getitem.lookup,typeIs_str s u t,P.getItem_str (by simpa using hf) hc (SE.tok I qJ q)⟩
 ·rename_i l k
  obtain ⟨a,items,m,rfl,_,ho,rs⟩:=vE ro; obtain ⟨t',rfl⟩:=vrI ri;split at h
  ·cases h
  ·rename_i hf
   obtain ⟨j,hj,hv⟩:=Option.bind_eq_some_iff.mp h;obtain ⟨x,hx,rx⟩:=rs.get hv;have e:=rs.length;simp only [Array.length_toList] at e;obtain ⟨f1,f2⟩:=zIZ (by simpa using hf);exact ⟨"tuple",_,F.slot_tuple_getitem.lookup,⟨_,ho,rfl⟩,P.getItem_tuple ho f1 f2 (e▸hj) (by simpa using hx) (SE.here I rx q)⟩
 ·rename_i o k _ _
  obtain ⟨t',rfl⟩:=vrI ri;split at h
  ·rename_i l hl
   split at h
   ·cases h
   ·rename_i hf
    obtain ⟨a,items,m,rfl,ho,rs⟩:=yI I hl ro;exact ⟨"list",_,F.slot_list_getitem.lookup,⟨_,ho,rfl⟩,zEm ho rs (by simpa using hf) h fun x rx=>SE.here I rx q⟩
  ·cases h
 ·cases h
def zAf:V->Option (Option Int)
 | .none=>some none
 | .int i=>some (some i)
 | _=>none
def zDX (x:Str)(lo hi:Option Int):Str:=
 if (Builtin.Str.strSliceIndices lo hi 1 x.length).length==x.length then x else ⟨((Builtin.Str.strSliceIndices lo hi 1 x.length).filterMap (x.cps[·]?)).toArray⟩
def zGc (o:V)(lo hi:Option Int)(σ:Sto):Option (V×Sto):=match o with
 | .str x=>if (zDX x lo hi).length<=sizeLine then some (.str (zDX x lo hi),σ) else none
 | o=>(match zS o σ with
  | some l=>if l.length<=1000 then some (.trk σ.length,σ ++ [.list (zDW l (sliceRange (sliceBounds lo hi none l.length).1 (sliceBounds lo hi none l.length).2.1 (sliceBounds lo hi none l.length).2.2))]) else none
  | none=>none)
theorem zJV {v:V}{p:Option Int}(h:zAf v=some p){x:Value}(rv:VR ρ s.heap v x):IsPart x p/\∃q:Option (Int×Tok),x=partValue q/\q.map (·.1)=p:=by
 unfold zAf at h;split at h
 ·cases h; cases vrN rv; exact ⟨.none,none,rfl,rfl⟩
 ·cases h; obtain ⟨t,rfl⟩:=vrI rv; exact ⟨.int _ t,some (_,t),rfl,rfl⟩
 ·cases h
theorem zG3 {o v:V}{lo hi:V}{pl pu:Option Int}(h:zGc o pl pu σ=some (v,σ'))(hl:zAf lo=some pl)(hu:zAf hi=some pu){x a b:Value}(I:Inv K ρ σ s)(ro:VR ρ s.heap o x)(ra:VR ρ s.heap lo a)(rb:VR ρ s.heap hi b)
  {Q:Value->Shared->Prop} {E:Value->Shared->Prop} (q:zAu K ρ s v σ' Q):
  SubscriptOn (model prog w) A x (.ref s.heap.objs.size) Q E {s with heap:=s.heap.push {cls:= .type "slice",data:= .fields #[a,b,.none]}}:=by
 obtain ⟨ia,qa,ea,ma⟩:=zJV hl ra;obtain ⟨ib,qb,eb,mb⟩:=zJV hu rb;have xx:=I.extra (o:={cls:= .type "slice",data:= .fields #[a,b,.none]}) (tk:=s.toks);have gs:({s with heap:=s.heap.push {cls:= .type "slice",data:= .fields #[a,b,.none]}}:Shared).heap.get? s.heap.objs.size=some {cls:= .type "slice",data:= .fields #[a,b,.none]}:=Heap.get?_push_size _ rfl;have ro':=ro.ext xx.2;unfold zGc at h;split at h
 ·rename_i u
  split at h
  ·rename_i hz
   cases h;obtain ⟨t,rfl⟩:=vrS ro;refine ⟨"str",_,F.slot_str_getitem.lookup,typeIs_str _ u t,wpAny_getItem_str_slice (l:=qa) (u:=qb) (st:=none) ⟨_,gs,rfl,by rw [ea,eb]; rfl⟩ rfl ?_⟩;unfold sliceMade;have hp:slicePicked u qa qb none=Builtin.Str.strSliceIndices pl pu 1 u.length:=by unfold slicePicked; rw [ma,mb]; rfl
   rw [hp];unfold zDX at q hz
   by_cases hc:((Builtin.Str.strSliceIndices pl pu 1 u.length).length==u.length)=true
   ·rw [if_pos hc] at q
    rw [if_pos (by simpa using hc)];exact q _ _ _ xx.1 xx.2 qJ
   ·rw [if_neg hc] at q hz
    rw [if_neg (by simpa using hc)];exact ⟨hz,q _ _ _ (xx.1.toks _) (xx.2.toks _) qJ⟩
  ·cases h
 ·split at h
  ·rename_i o l hl'
   split at h
   ·rename_i hz
    cases h;obtain ⟨p,items,m,rfl,ho,rs⟩:=yI xx.1 hl' ro';have e:=rs.length;simp only [Array.length_toList] at e;refine ⟨"list",_,F.slot_list_getitem.lookup,⟨_,ho,rfl⟩,wpAny_getItem_list_slice ⟨_,ho,rfl,m,rfl⟩ ⟨_,gs,rfl,rfl⟩ ia ib .none (by simp) ?_ (zQ (by omega))⟩;refine kM (tk:=s.toks) xx.1 (l:=zDW _ _) ?_ fun ρ'' s'' x I'' X'' r''=>q _ _ _ I'' (xx.2.then xx.1 X'') r'';unfold slicePick;have z:=rs.pick (sliceRange (sliceBounds pl pu none l.length).1 (sliceBounds pl pu none l.length).2.1 (sliceBounds pl pu none l.length).2.2);rw [e] at z ⊢;unfold zDW at z ⊢
    simpa using z
   ·cases h
  ·cases h
end
end Mine
end
section
namespace Mine
mutual
def zCk (f:Nat->Nat):V->V
 | .tup l=> .tup (zDd f l)
 | .lst l=> .lst (zDd f l)
 | .trk i=> .trk (f i)
 | v=>v
def zDd (f:Nat->Nat):List V->List V
 | []=>[]
 | v::l=>zCk f v::zDd f l
end
def zEJ (f:Nat->Nat):List (Str×V)->List (Str×V)
 | []=>[]
 | (k,v)::l=>(k,zCk f v)::zEJ f l
def zPH (f:Nat->Nat):List (Str×Nat)->List (Str×Nat)
 | []=>[]
 | (k,i)::l=>(k,f i)::zPH f l
def zAZ (f:Nat->Nat):Ob->Ob
 | .list l=> .list (zDd f l)
 | .ns kv=> .ns (zEJ f kv)
 | .dict kv=> .dict (zEJ f kv)
 | .cell v=> .cell (v.map (zCk f))
 | .inst C d=> .inst C (f d)
 | .meth g u=> .meth g (zCk f u)
 | .lam fd cl j=> .lam fd (zPH f cl) (f j)
 | .itms d=> .itms (f d)
 | .liter src k=> .liter (zCk f src) k
 | .enum j k=> .enum (f j) k
 | .citer g u live=> .citer (zCk f g) (zCk f u) live
 | o=>o
mutual
def okV (q:Nat->Bool)(al:Bool):V->Bool
 | .tup l=>zHz q al l
 | .lst l=>al && zHz q al l
 | .trk i=>q i
 | _=>true
def zHz (q:Nat->Bool)(al:Bool):List V->Bool
 | []=>true
 | v::l=>okV q al v && zHz q al l
end
def zHy (q:Nat->Bool)(al:Bool):List (Str×V)->Bool
 | []=>true
 | (_,v)::l=>okV q al v && zHy q al l
def okC (q:Nat->Bool):List (Str×Nat)->Bool
 | []=>true
 | (_,i)::l=>q i && okC q l
def okO (q:Nat->Bool)(al:Bool):Ob->Bool
 | .list l=>zHz q al l
 | .ns kv=>zHy q al kv
 | .dict kv=>zHy q al kv
 | .cell v=>(match v with | some v=>okV q al v | none=>true)
 | .inst _ d=>q d
 | .meth _ u=>okV q al u
 | .lam _ cl j=>okC q cl && q j
 | .itms d=>q d
 | .liter src _=>okV q al src
 | .enum j _=>q j
 | .citer g u live=>okV q al g && okV q al u
 | _=>true
def zSh (al:Bool)(o:Obj):Prop:=(o.cls= .type "tuple"/\∃items n,o.data= .seq items n)\/(o.cls= .type "range"/\∃a t b u c v,o.data= .fields #[.int a t,.int b u,.int c v])\/(al=true/\o.cls= .type "list"/\∃items n,o.data= .seq items n)
section
variable {ρ ρ':List Addr} {h:Heap} {q:Nat->Bool} {al:Bool} {g:Nat->Nat}
abbrev Ren (q:Nat->Bool)(g:Nat->Nat)(ρ ρ':List Addr):Prop:=∀(i:Nat) (a:Addr),q i=true->ρ[i]? =some a->ρ'[g i]? =some a
abbrev zFf (al:Bool)(h:Heap)(ρ ρ':List Addr):Prop:=∀a o,a ∉ ρ->h.get? a=some o->zSh al o->a ∉ ρ'
mutual
theorem VR.ren (p:Ren q g ρ ρ')(k:zFf al h ρ ρ'):∀{v:V} {x:Value},okV q al v=true->VR ρ h v x->VR ρ' h (zCk g v) x
 | .none,_,_,e=>e
 | .bool _,_,_,e=>e
 | .int _,_,_,e=>e
 | .str _,_,_,e=>e
 | .tup l,_,b,⟨a,items,m,e,n,ho,r⟩=>⟨a,items,m,e,k a _ n ho (.inl ⟨rfl,_,_,rfl⟩),ho,VRs.ren p k (by unfold okV at b; exact b) r⟩
 | .lst l,_,b,⟨a,items,m,e,n,ho,r⟩=>by
  unfold okV at b;rw [Bool.and_eq_true] at b;exact ⟨a,items,m,e,k a _ n ho (.inr (.inr ⟨b.1,rfl,_,_,rfl⟩)),ho,VRs.ren p k b.2 r⟩
 | .trk i,_,b,⟨a,r,e⟩=>⟨a,p i a (by unfold okV at b; exact b) r,e⟩
 | .val _,_,_,e=>e
 | .rng _ _ _,_,_,⟨r,t,u,v,e,n,ho⟩=>⟨r,t,u,v,e,k r _ n ho (.inr (.inl ⟨rfl,_,_,_,_,_,_,rfl⟩)),ho⟩
theorem VRs.ren (p:Ren q g ρ ρ')(k:zFf al h ρ ρ'):∀{l:List V} {xs:List Value},zHz q al l=true->VRs ρ h l xs->VRs ρ' h (zDd g l) xs
 | [],_,_,e=>e
 | _::_,_,b,⟨y,ys,e,r,rs⟩=>by
  unfold zHz at b;rw [Bool.and_eq_true] at b;exact ⟨y,ys,e,VR.ren p k b.1 r,VRs.ren p k b.2 rs⟩
end
theorem zA5 (f:Nat->Nat)(x:Str):∀kv:List (Str×V),(zEJ f kv).lookup x=(kv.lookup x).map (zCk f)
 | []=>rfl
 | (k,v)::l=>by
  unfold zEJ;rw [List.lookup_cons,List.lookup_cons,zA5 f x l];cases x==k <;>rfl
theorem zB1 (x:Str):∀{kv:List (Str×V)} {v:V},zHy q al kv=true->kv.lookup x=some v->okV q al v=true
 | [],_,_,e=>by cases e
 | (k,u)::l,v,b,e=>by
  unfold zHy at b;rw [Bool.and_eq_true] at b;rw [List.lookup_cons] at e;split at e
  ·cases e; exact b.1
  ·exact zB1 x b.2 e
theorem vH.ren (p:Ren q g ρ ρ')(k:zFf al h ρ ρ'):∀{kv:List (Str×V)} {es:List DictEntry},zHy q al kv=true->vH ρ h kv es->vH ρ' h (zEJ g kv) es
 | [],_,_,e=>e
 | (_,_)::_,_,b,⟨e,es',z,t,r,rs⟩=>by
  unfold zHy at b;rw [Bool.and_eq_true] at b;exact ⟨e,es',z,t,r.ren p k b.1,rs.ren p k b.2⟩
theorem cellsR.ren (p:Ren q g ρ ρ'):∀{l:List (Str×Nat)} {cl:List (Str×Addr)},okC q l=true->cellsR ρ l cl->cellsR ρ' (zPH g l) cl
 | [],_,_,e=>e
 | (_,i)::_,_,b,⟨a,l',z,r,rs⟩=>by
  unfold okC at b;rw [Bool.and_eq_true] at b;exact ⟨a,l',z,p i a b.1 r,rs.ren p b.2⟩
theorem ObR.ren (p:Ren q g ρ ρ')(k:zFf al h ρ ρ'){a:Addr}:∀{ob:Ob},okO q al ob=true->ObR ρ h a ob->ObR ρ' h a (zAZ g ob)
 | .list _,b,⟨items,n,e,r⟩=>⟨items,n,e,r.ren p k b⟩
 | .ns kv,b,⟨m,hn,hm⟩=>⟨m,hn,fun x=>by
  have z:=hm x;rw [zA5];cases hx:kv.lookup x with
  | none=>
   rw [hx] at z;cases hy:m x with
   | none=>trivial
   | some y=>rw [hy] at z; exact z.elim
  | some v=>
   rw [hx] at z;cases hy:m x with
   | none=>rw [hy] at z; exact z.elim
   | some y=>
    rw [hy] at z;exact VR.ren p k (zB1 x b hx) z⟩
 | .dict _,b,⟨es,n,e,r⟩=>⟨es,n,e,r.ren p k b⟩
 | .cell v,b,⟨ov,e,r⟩=>⟨ov,e,by
  cases v <;>cases ov <;>first | exact r | exact VR.ren p k b r⟩
 | .inst _ d,b,⟨dx,z,e⟩=>⟨dx,p _ _ b z,e⟩
 | .meth _ _,b,⟨x,r,e⟩=>⟨x,r.ren p k b,e⟩
 | .lam _ _ _,b,⟨cl',c,ct,pm,hc,r,e⟩=>by
  unfold okO at b;rw [Bool.and_eq_true] at b;exact ⟨cl',c,ct,pm,p _ _ b.2 hc,r.ren p b.1,e⟩
 | .crec _,b,r=>r
 | .itms _,b,⟨dx,z,e⟩=>⟨dx,p _ _ b z,e⟩
 | .liter _ _,b,⟨l,z,r⟩=>⟨l,z,r.ren p k b⟩
 | .junk,b,r=>r
 | .enum _ _,b,⟨it,old,z,e⟩=>⟨it,old,p _ _ b z,e⟩
 | .citer _ _ _,b,⟨x,y,e,r⟩=>by
  unfold okO at b;rw [Bool.and_eq_true] at b;exact ⟨x,y,e,fun l=>⟨(r l).1.ren p k b.1,(r l).2.ren p k b.2⟩⟩
 | .ctab _ _,b,r=>r
 | .stk _ _,b,⟨z,items,n,e,r⟩=>⟨z,items,n,e,zJa r⟩
def zJy:Ob->Bool
 | .junk=>false
 | .ctab _ _=>false
 | _=>true
theorem zKV {a:Addr}{o:Obj}(e:h.get? a=some o)(kp:zSh false o):∀{ob:Ob},zJy ob=true->ObR ρ h a ob->False
 | .list _,_,⟨items,n,e',r⟩=>by
  rw [e] at e'; cases e';rcases kp with ⟨c,_⟩ | ⟨c,_⟩ | ⟨c,_⟩ <;>simp at c
 | .ns kv,_,⟨m,hn,hm⟩=>by
  obtain ⟨o',es,ep,ho,r⟩:=hn;rw [e] at ho; cases ho;rcases kp with ⟨c,_,_,d⟩ | ⟨c,_,_,_,_,_,_,d⟩ | ⟨c,_⟩
  ·simp_all
  ·simp_all
  ·cases c
 | .dict _,_,⟨es,n,e',r⟩=>by
  rw [e] at e'; cases e';rcases kp with ⟨c,_⟩ | ⟨c,_⟩ | ⟨c,_⟩ <;>simp [dictOf] at c
 | .cell v,_,⟨ov,⟨o',ho,hd⟩,r⟩=>by
  rw [e] at ho; cases ho;rcases kp with ⟨c,_,_,d⟩ | ⟨c,_,_,_,_,_,_,d⟩ | ⟨c,_⟩
  ·simp_all
  ·simp_all
  ·cases c
 | .inst _ d,_,⟨dx,z,e'⟩=>by
  rw [e] at e'; cases e';rcases kp with ⟨c,_⟩ | ⟨c,_⟩ | ⟨c,_⟩ <;>simp [instObj] at c
 | .meth _ _,_,⟨x,r,e'⟩=>by
  rw [e] at e'; cases e';rcases kp with ⟨c,_⟩ | ⟨c,_⟩ | ⟨c,_⟩ <;>simp [methodObj] at c
 | .lam _ _ _,_,⟨cl',c,ct,pm,hc,r,e'⟩=>by
  rw [e] at e'; cases e';rcases kp with ⟨c,_⟩ | ⟨c,_⟩ | ⟨c,_⟩ <;>simp at c
 | .crec _,_,⟨c,oc,vs,t,c1,c2,c3,c4⟩=>by
  cases c1;rw [e] at c2; cases c2;rcases kp with ⟨c,_,_,d⟩ | ⟨c,_,_,_,_,_,_,d⟩ | ⟨c,_⟩
  ·rw [c3] at d; cases d
  ·rw [c3] at d; cases d; simp at c4
  ·cases c
 | .itms _,_,⟨dx,z,e'⟩=>by
  rw [e] at e'; cases e';rcases kp with ⟨c,_⟩ | ⟨c,_⟩ | ⟨c,_⟩ <;>simp at c
 | .liter _ _,_,⟨l,z,r⟩=>by
  obtain ⟨o',e',z⟩:=z;rw [e] at e'; cases e';rcases kp with ⟨c,_,_,d⟩ | ⟨c,_,_,_,_,_,_,d⟩ | ⟨c,_⟩
  ·simp_all
  ·simp_all
  ·cases c
 | .enum _ _,_,⟨it,old,z,e'⟩=>by
  have e':=e.symm.trans e';cases e';rcases kp with ⟨c,_⟩ | ⟨c,_⟩ | ⟨c,_⟩ <;>simp at c
 | .stk _ _,_,⟨_,items,n,e',r⟩=>by
  rw [e] at e'; cases e';rcases kp with ⟨c,_⟩ | ⟨c,_⟩ | ⟨c,_⟩ <;>simp at c
 | .citer _ _ _,_,⟨x,y,e',r⟩=>by
  rw [e] at e'; cases e';rcases kp with ⟨c,_⟩ | ⟨c,_⟩ | ⟨c,_⟩ <;>simp at c
end
def at' (sub:List Nat)(j:Nat):Nat:=sub.getD j 0
def wM:List Nat->List Ob->Sto->Sto
 | i::is,o::os,σ=>wM is os (σ.set i o)
 | _,_,σ=>σ
def zDO (sub:List Nat)(n:Nat)(j:Nat):Nat:=if j < sub.length then sub.getD j 0 else n + (j - sub.length)
def zLx (sub:List Nat)(σ σ₀:Sto):Sto:=wM sub (σ₀.map (zAZ (zDO sub σ.length))) σ ++ (σ₀.drop sub.length).map (zAZ (zDO sub σ.length))
theorem yV:∀(is:List Nat) (os:List Ob) (σ:Sto),(wM is os σ).length=σ.length
 | [],_,_=>rfl
 | _::_,[],_=>rfl
 | i::is,o::os,σ=>by unfold wM; rw [yV is os,List.length_set]
theorem zBz:∀(is:List Nat) (os:List Ob) (σ:Sto) (i:Nat),i ∉ is->(wM is os σ)[i]? =σ[i]?
 | [],_,_,_,_=>rfl
 | _::_,[],_,_,_=>rfl
 | j::is,o::os,σ,i,h=>by
  unfold wM;rw [zBz is os _ i (fun m=>h (List.mem_cons_of_mem _ m)),List.getElem?_set_ne (fun z=>h (by rw [z]; exact List.mem_cons_self ..))]
theorem zEO:∀(is:List Nat) (os:List Ob) (σ:Sto) (j i:Nat),is.Nodup->is[j]? =some i->i < σ.length->j < os.length->(wM is os σ)[i]? =os[j]?
 | [],_,_,_,_,_,e,_,_=>by simp at e
 | _::_,[],_,_,_,_,_,_,e=>by simp at e
 | i'::is,o::os,σ,0,i,nd,e,hi,_=>by
  simp at e; subst e;unfold wM;rw [zBz is os _ _ (List.nodup_cons.mp nd).1,List.getElem?_set_self hi]; rfl
 | i'::is,o::os,σ,j + 1,i,nd,e,hi,hj=>by
  unfold wM;rw [zEO is os _ j i (List.nodup_cons.mp nd).2 (by simpa using e) (by simpa using hi) (by simpa using hj)];simp
def zM {α:Type}(f:Nat->Option α):List Nat->List α
 | []=>[]
 | i::l=>match f i with
  | some a=>a::zM f l
  | none=>zM f l
theorem zDR {α:Type}{f:Nat->Option α}:∀(l:List Nat) (j i:Nat),(∀i∈l,(f i).isSome=true)->l[j]? =some i->(zM f l)[j]? =f i
 | [],_,_,_,e=>by simp at e
 | x::l,j,i,h,e=>by
  obtain ⟨a,ha⟩:=Option.isSome_iff_exists.mp (h x (List.mem_cons_self ..));unfold zM;rw [ha];cases j with
  | zero=>simp at e; subst e; exact ha.symm
  | succ j=>exact zDR l j i (fun i hi=>h i (List.mem_cons_of_mem _ hi)) (by simpa using e)
theorem vB {α:Type}{f:Nat->Option α}:∀(l:List Nat),(∀i∈l,(f i).isSome=true)->(zM f l).length=l.length
 | [],_=>rfl
 | x::l,h=>by
  obtain ⟨a,ha⟩:=Option.isSome_iff_exists.mp (h x (List.mem_cons_self ..));unfold zM;rw [ha];simp only [List.length_cons,vB l (fun i hi=>h i (List.mem_cons_of_mem _ hi))]
theorem uO {α:Type}{f:Nat->Option α}:∀(l:List Nat) (a:α),a∈zM f l->∃i∈l,f i=some a
 | [],_,e=>by simp [zM] at e
 | x::l,a,e=>by
  unfold zM at e;split at e
  ·rename_i b hb
   rcases List.mem_cons.mp e with rfl | e
   ·exact ⟨x,List.mem_cons_self ..,hb⟩
   ·obtain ⟨i,hi,r⟩:=uO l a e
    exact ⟨i,List.mem_cons_of_mem _ hi,r⟩
  ·obtain ⟨i,hi,r⟩:=uO l a e
   exact ⟨i,List.mem_cons_of_mem _ hi,r⟩
section
variable {K:Frag} {ρ:List Addr} {σ:Sto} {s s':Shared}
theorem Inv.part {σ:Sto}(I:Inv K ρ σ s){sub:List Nat}{g:Nat->Nat}{q:Nat->Bool}(nd:sub.Nodup)(hs:∀i∈sub,i < σ.length)
  (hg:∀(j i:Nat),sub[j]? =some i->g i=j) (hq:∀i,q i=true->i∈sub) (ho:∀i∈sub,∀ob,σ[i]? =some ob->okO q true ob=true):
  Inv K (zM (ρ[·]?) sub) (zM (fun i=>(σ[i]?).map (zAZ g)) sub) s/\Ren q g ρ (zM (ρ[·]?) sub)/\(∀a∈zM (ρ[·]?) sub,a∈ρ)/\(∀(j i:Nat),sub[j]? =some i->(zM (ρ[·]?) sub)[j]? =ρ[i]?)/\(zM (ρ[·]?) sub).length=sub.length:=by
 have hρ:∀i∈sub,(ρ[i]?).isSome=true:=fun i hi=>by rw [List.getElem?_eq_getElem (by rw [I.len]; exact hs i hi)]; rfl
 have hσ:∀i∈sub,((σ[i]?).map (zAZ g)).isSome=true:=fun i hi=>by rw [List.getElem?_eq_getElem (hs i hi)]; rfl
 have e1:∀(j i:Nat),sub[j]? =some i->(zM (ρ[·]?) sub)[j]? =ρ[i]? :=fun j i e=>zDR sub j i hρ e;have e2:(zM (ρ[·]?) sub).length=sub.length:=vB sub hρ;have e3:∀(j i:Nat),sub[j]? =some i->(zM (fun i=>(σ[i]?).map (zAZ g)) sub)[j]? =(σ[i]?).map (zAZ g):=fun j i e=>zDR (f:=fun i=>(σ[i]?).map (zAZ g)) sub j i hσ e;have e4:(zM (fun i=>(σ[i]?).map (zAZ g)) sub).length=sub.length:=vB sub hσ;have hmem:∀a∈zM (ρ[·]?) sub,a∈ρ:=by
  intro a ha;obtain ⟨i,_,hi⟩:=uO _ _ ha;exact List.mem_of_getElem? hi
 have hren:Ren q g ρ (zM (ρ[·]?) sub):=by
  intro i a hqi ha;obtain ⟨j,hj,hji⟩:=List.getElem_of_mem (hq i hqi);have hj':sub[j]? =some i:=by rw [List.getElem?_eq_getElem hj,hji]
  rw [hg j i hj',e1 j i hj',ha]
 refine ⟨⟨by rw [e2,e4],?_,?_,I.stat,fun a m=>I.sep a (hmem a m),I.gens⟩,hren,hmem,e1,e2⟩
 ·have hi:∀(l:List Nat),l.Nodup->(∀i∈l,i < σ.length)->(zM (ρ[·]?) l).Nodup:=by
   intro l
   induction l with
   | nil=>intro _ _; exact List.nodup_nil
   | cons x l ih=>
    intro hn hl;obtain ⟨n1,n2⟩:=List.nodup_cons.mp hn;have hx:x < ρ.length:=by rw [I.len]; exact hl x (List.mem_cons_self ..)
    have e:zM (ρ[·]?) (x::l)=ρ[x]::zM (ρ[·]?) l:=by
     conv=>lhs; unfold zM
     rw [List.getElem?_eq_getElem hx]
    rw [e];refine List.nodup_cons.mpr ⟨fun m=>?_,ih n2 fun i hi=>hl i (List.mem_cons_of_mem _ hi)⟩;obtain ⟨y,hy,z⟩:=uO _ _ m;have:=yQ I.nd (List.getElem?_eq_getElem hx) z;exact n1 (this▸hy)
  exact hi sub nd hs
 ·intro j a ob h1 h2
  have hj:j < sub.length:=by rw [<-e2]; exact (List.getElem?_eq_some_iff.mp h1).1
  have hj':sub[j]? =some sub[j]:=List.getElem?_eq_getElem hj;rw [e1 j _ hj'] at h1;rw [e3 j _ hj'] at h2;obtain ⟨ob',h3,rfl⟩:=Option.map_eq_some_iff.mp h2;exact (I.obs _ _ _ h1 h3).ren hren (fun b o nb e kp m=>nb (hmem b m)) (ho _ (List.getElem_mem ..) _ h3)
end
end Mine
end
section
namespace Mine
mutual
def zG6:V->List Nat
 | .tup l=>zEQ l
 | .lst l=>zEQ l
 | .trk i=>[i]
 | _=>[]
def zEQ:List V->List Nat
 | []=>[]
 | v::l=>zG6 v ++ zEQ l
end
def zMb:List (Str×V)->List Nat
 | []=>[]
 | (_,v)::l=>zG6 v ++ zMb l
def zRr:List (Str×Nat)->List Nat
 | []=>[]
 | (_,i)::l=>i::zRr l
def zRZ:Ob->List Nat
 | .list l=>zEQ l
 | .ns kv=>zMb kv
 | .dict kv=>zMb kv
 | .cell (some v)=>zG6 v
 | .inst _ d=>[d]
 | .meth _ u=>zG6 u
 | .lam _ cl j=>zRr cl ++ [j]
 | .itms d=>[d]
 | .liter src _=>zG6 src
 | .enum j _=>[j]
 | .citer g u _=>zG6 g ++ zG6 u
 | _=>[]
def yE (i:Nat):List Nat->Bool
 | []=>false
 | j::l=>match Nat.beq i j with | true=>true | false=>yE i l
def zAS (i:Nat):List Nat->Nat
 | []=>0
 | j::l=>match Nat.beq i j with | true=>0 | false=>zAS i l + 1
def zAk:List Nat->Bool
 | []=>true
 | j::l=>match yE j l with | true=>false | false=>zAk l
def zIu (n:Nat):List Nat->Bool
 | []=>true
 | j::l=>Nat.blt j n && zIu n l
def zEE (σ:Sto):Nat->List Nat->List Nat->List Nat
 | 0,_,seen=>seen
 | _ + 1,[],seen=>seen
 | f + 1,i::todo,seen=>match yE i seen with
  | true=>zEE σ f todo seen
  | false=>match σ[i]? with
   | some ob=>zEE σ f (zRZ ob ++ todo) (seen ++ [i])
   | none=>seen
def vZ (sub:List Nat):Nat->Sto->Bool
 | _,[]=>true
 | i,ob::r=>(zJy ob || yE i sub) && vZ sub (i + 1) r
def okS (q:Nat->Bool)(al:Bool):Sto->Bool
 | []=>true
 | ob::r=>okO q al ob && okS q al r
def zHx (σ:Sto)(q:Nat->Bool):List Nat->Bool
 | []=>true
 | i::l=>(match σ[i]? with | some ob=>okO q true ob | none=>false) && zHx σ q l
theorem yN (i:Nat):∀l:List Nat,yE i l=true ↔ i∈l
 | []=>by simp [yE]
 | j::l=>by
  unfold yE
  by_cases h:Nat.beq i j=true
  ·rw [h]; simp [Nat.eq_of_beq_eq_true h]
  ·have h':Nat.beq i j=false:=by cases hb:Nat.beq i j with | false=>rfl | true=>exact absurd hb h
   rw [h'];have:i≠j:=fun z=>h (by rw [z]; exact Nat.beq_refl j);simp [yN i l,this]
theorem zCQ:∀l:List Nat,zAk l=true->l.Nodup
 | [],_=>List.nodup_nil
 | j::l,h=>by
  unfold zAk at h;split at h
  ·cases h
  ·rename_i hm
   refine List.nodup_cons.mpr ⟨fun m=>?_,zCQ l h⟩;rw [(yN j l).mpr m] at hm; cases hm
theorem zDz (n:Nat):∀l:List Nat,zIu n l=true->∀i∈l,i < n
 | [],_,_,m=>by cases m
 | j::l,h,i,m=>by
  unfold zIu at h;rw [Bool.and_eq_true] at h;rcases List.mem_cons.mp m with rfl | m
  ·simpa [Nat.blt_eq] using h.1
  ·exact zDz n l h.2 i m
theorem zBd:∀(l:List Nat) (j i:Nat),l.Nodup->l[j]? =some i->zAS i l=j
 | [],_,_,_,e=>by simp at e
 | x::l,0,i,_,e=>by
  simp at e; subst e;unfold zAS;rw [Nat.beq_refl]
 | x::l,j + 1,i,nd,e=>by
  obtain ⟨n1,n2⟩:=List.nodup_cons.mp nd;have e':l[j]? =some i:=by simpa using e
  unfold zAS;have:Nat.beq i x=false:=by
   cases hb:Nat.beq i x with
   | false=>rfl
   | true=>exact absurd (List.mem_of_getElem? (Nat.eq_of_beq_eq_true hb▸e')) n1
  rw [this];dsimp only;rw [zBd l j i n2 e']
theorem zI7 {q:Nat->Bool}{al:Bool}:∀{σ:Sto},okS q al σ=true->∀ob∈σ,okO q al ob=true
 | [],_,_,m=>by cases m
 | o::r,h,ob,m=>by
  unfold okS at h;rw [Bool.and_eq_true] at h;rcases List.mem_cons.mp m with rfl | m
  ·exact h.1
  ·exact zI7 h.2 ob m
theorem zD1 {σ:Sto}{q:Nat->Bool}:∀{l:List Nat},zHx σ q l=true->∀i∈l,∀ob,σ[i]? =some ob->okO q true ob=true
 | [],_,_,m,_,_=>by cases m
 | x::l,h,i,m,ob,e=>by
  unfold zHx at h;rw [Bool.and_eq_true] at h;rcases List.mem_cons.mp m with rfl | m
  ·rw [e] at h; exact h.1
  ·exact zD1 h.2 i m ob e
theorem zBY {sub:List Nat}:∀{σ:Sto} {k:Nat},vZ sub k σ=true->∀(i:Nat) (ob:Ob),σ[i]? =some ob->k + i ∉ sub->zJy ob=true
 | [],_,_,_,_,e,_=>by simp at e
 | o::r,k,h,0,ob,e,n=>by
  unfold vZ at h;rw [Bool.and_eq_true,Bool.or_eq_true] at h;simp at e; subst e;rcases h.1 with h | h
  ·exact h
  ·exact absurd ((yN _ _).mp h) n
 | o::r,k,h,i + 1,ob,e,n=>by
  unfold vZ at h;rw [Bool.and_eq_true] at h;exact zBY h.2 i ob (by simpa using e) (by rw [show k + 1 + i=k + (i + 1) by omega]; exact n)
def eqN:List Nat->List Nat->Bool
 | [],[]=>true
 | a::l,b::r=>match Nat.beq a b with | true=>eqN l r | false=>false
 | _,_=>false
theorem zHS:∀{l r:List Nat},eqN l r=true->l=r
 | [],[],_=>rfl
 | [],_::_,h=>by cases h
 | _::_,[],h=>by cases h
 | a::l,b::r,h=>by
  unfold eqN at h;split at h
  ·rename_i e; rw [Nat.eq_of_beq_eq_true e,zHS h]
  ·cases h
def zOD (m:Nat):Sto->List Nat
 | []=>[]
 | ob::r=>match m with
  | 0=>[]
  | m + 1=>zRZ ob ++ zOD m r
def zB (i:Nat):Nat->List Nat
 | 0=>[]
 | m + 1=>i::zB (i + 1) m
theorem zR:∀(m i j:Nat),j < m->(zB i m)[j]? =some (i + j)
 | 0,_,_,h=>absurd h (Nat.not_lt_zero _)
 | m + 1,i,0,_=>rfl
 | m + 1,i,j + 1,h=>by
  show (zB (i + 1) m)[j]? =_;rw [zR m (i + 1) j (by omega)]
  congr 1; omega
theorem zH:∀(m i:Nat),(zB i m).length=m
 | 0,_=>rfl
 | m + 1,i=>by show (zB (i + 1) m).length + 1=_; rw [zH m]
def gc (m:Nat)(σ:Sto):Sto:=
 match Nat.beq σ.length m with
 | true=>σ
 | false=>
  let sub:=zEE σ 400 (zOD m σ) (zB 0 m)
  match Nat.beq sub.length σ.length with
  | true=>σ
  | false=>match zAk sub && zIu σ.length sub && zHx σ (yE · sub) sub && eqN (sub.take m) (zB 0 m) with
   | true=>zM (fun i=>(σ[i]?).map (zAZ (zAS · sub))) sub
   | false=>σ
section
variable {K:Frag} {ρ ρ₀:List Addr} {σ:Sto} {s s₀:Shared} {m:Nat}
theorem zJi (I:Inv K ρ σ s)(X:Ext ρ₀ s₀ ρ s)(hm:ρ₀.length<=m){sub:List Nat}(c1:zAk sub=true)(c2:zIu σ.length sub=true)(c3:zHx σ (yE · sub) sub=true)(c4:eqN (sub.take m) (zB 0 m)=true):
  Inv K (zM (ρ[·]?) sub) (zM (fun i=>(σ[i]?).map (zAZ (zAS · sub))) sub) s/\Ext ρ₀ s₀ (zM (ρ[·]?) sub) s/\(∀a∈zM (ρ[·]?) sub,a∈ρ)/\Ren (yE · sub) (zAS · sub) ρ (zM (ρ[·]?) sub):=by
 have nd:=zCQ _ c1;have hs:=zDz _ _ c2;have ht:=zHS c4;obtain ⟨J,hren,hmem,hat,hl⟩:=I.part (g:=(zAS · sub)) (q:=(yE · sub)) nd hs (fun j i e=>zBd sub j i nd e) (fun i h=>(yN i sub).mp h) (zD1 c3);refine ⟨J,?_,hmem,hren⟩;obtain ⟨l,hl'⟩:=X.pre;have hfix:∀j,j < m->sub[j]? =some j:=fun j hj=>by
  have e:=zR m 0 j hj;rw [<-ht,List.getElem?_take,if_pos hj] at e;rw [e]; simp
 have hlen:m<=sub.length:=by
  have e:=zH m 0;rw [<-ht,List.length_take] at e;omega
 have hp:(zM (ρ[·]?) sub).take ρ₀.length=ρ₀:=by
  apply List.ext_getElem?;intro j;rw [List.getElem?_take];split
  ·rename_i hj
   rw [hat j j (hfix j (by omega)),hl',List.getElem?_append_left (by omega)]
  ·rw [List.getElem?_eq_none (by omega)]
 refine ⟨⟨(zM (ρ[·]?) sub).drop ρ₀.length,?_⟩,fun i a hi e=>?_,X.keep,X.os⟩
 ·conv=>lhs; rw [<-List.take_append_drop ρ₀.length (zM (ρ[·]?) sub)]
  rw [hp]
 ·have hi':i < sub.length:=by rw [<-hl]; exact (List.getElem?_eq_some_iff.mp e).1
  have hsi:sub[i]? =some sub[i]:=List.getElem?_eq_getElem hi';rw [hat i _ hsi] at e;refine X.new sub[i] a ?_ e
  by_cases z:sub[i] < m
  ·have a1:=zBd sub i _ nd hsi
   have a2:=zBd sub _ _ nd (hfix _ z);omega
  ·omega
theorem zAV (I:Inv K ρ σ s)(X:Ext ρ₀ s₀ ρ s)(hm:ρ₀.length=m):∃ρ',Inv K ρ' (gc m σ) s/\Ext ρ₀ s₀ ρ' s/\∀a∈ρ',a∈ρ:=by
 have triv:∃ρ',Inv K ρ' σ s/\Ext ρ₀ s₀ ρ' s/\∀a∈ρ',a∈ρ:=⟨ρ,I,X,fun _ h=>h⟩;unfold gc;split
 ·exact triv
 ·dsimp only
  split
  ·exact triv
  ·split
   ·rename_i hc
    simp only [Bool.and_eq_true] at hc;obtain ⟨⟨⟨c1,c2⟩,c3⟩,c4⟩:=hc;obtain ⟨J,Y,h,_⟩:=zJi I X (Nat.le_of_eq hm) c1 c2 c3 c4;exact ⟨_,J,Y,h⟩
   ·exact triv
def gcv (m:Nat)(v:V)(σ:Sto):V×Sto:=match bel m v && zFU m (σ.take m) with
 | true=>(v,σ.take m)
 | false=>
  let sub:=zEE σ 400 (zG6 v ++ zOD m σ) (zB 0 m)
  match zAk sub && zIu σ.length sub && zHx σ (yE · sub) sub && eqN (sub.take m) (zB 0 m) && okV (yE · sub) true v with
   | true=>(zCk (zAS · sub) v,zM (fun i=>(σ[i]?).map (zAZ (zAS · sub))) sub)
   | false=>(v,σ)
theorem zE9 {v:V}{x:Value}{Q:Value->Shared->Prop}(I:Inv K ρ σ s)(X:Ext ρ₀ s₀ ρ s)(hm:ρ₀.length<=m)(r:VR ρ s.heap v x)
  (q:zAu K ρ₀ s₀ (gcv m v σ).1 (gcv m v σ).2 Q):Q x s:=by
 unfold gcv at q;split at q
 ·rename_i h
  simp only [Bool.and_eq_true] at h;exact q _ _ _ (I.take h.2) (X.take hm) (r.take h.1)
 ·dsimp only at q
  split at q
  ·rename_i hc
   simp only [Bool.and_eq_true] at hc;obtain ⟨⟨⟨⟨c1,c2⟩,c3⟩,c4⟩,c5⟩:=hc;obtain ⟨J,Y,h,hren⟩:=zJi I X hm c1 c2 c3 c4;exact q _ _ _ J Y (VR.ren hren (fun b o nb e kp m=>nb (h b m)) c5 r)
  ·exact q _ _ _ I X r
end
end Mine
end
section
namespace Mine
def zKN:List Expr->List V->AE->Sto->Option Sto
 | [],[],_,σ=>some σ
 | .Name x _::es,v::vs,ae,σ=>(match qA x v ae σ with | some σ₁=>zKN es vs ae σ₁ | none=>none)
 | _,_,_,_=>none
def qD (t:Expr)(v:V)(ae:AE)(σ:Sto):Option Sto:=match t with
 | .Name x _=>qA x v ae σ
 | .Tuple es _ _=>(match v with | .tup l=>zKN es l ae σ | _=>none)
 | _=>none
section
variable {prog:Program} {w:World} {A:Around} {K:Frag} {G:Gl} {O:Ops} {n:Nat} {r:Rec} {ρ:List Addr} {σ σ':Sto} {s:Shared} {ae:AE} {env:Env}
theorem zAi {x:Str}{p:Pos}{v:V}(h:qA x v ae σ=some σ')(X:EnvR ρ ae env)(I:Inv K ρ σ s){y:Value}(ry:VR ρ s.heap v y):SB (model prog w) A K ρ s (assign (.Name x p) env y) () σ':=
 fun Q E q=>wpAny_assign_Name (xH h X I ry Q E q)
theorem zDt:∀{es:List Expr} {vs:List V} {σ:Sto},zKN es vs ae σ=some σ'->(assignEach es env).length=es.length/\(assignEach es env).findIdx? (·.1)=none/\es.length=vs.length
 | [],[],_,_=>⟨rfl,rfl,rfl⟩
 | [],_::_,_,h=>by cases h
 | e::es,[],_,h=>by cases e <;>cases h
 | e::es,v::vs,σ,h=>by
  cases e <;>try (cases h; done)
  unfold zKN at h;split at h
  ·obtain ⟨a,b,c⟩:=zDt h
   refine ⟨?_,?_,by simp [c]⟩
   ·show (assignEach es env).length + 1=_; simp [a]
   ·show List.findIdx? _ ((false,_)::assignEach es env)=none
    simp [List.findIdx?_cons,b]
  ·cases h
theorem zCF:∀{es:List Expr} {vs:List V} {σ:Sto} {ρ:List Addr} {s:Shared} {ys:List Value},zKN es vs ae σ=some σ'->EnvR ρ ae env->Inv K ρ σ s->VRs ρ s.heap vs ys->
  SB (model prog w) A K ρ s (assignInOrder ((assignEach es env).map (·.2)) ys) () σ'
 | [],[],σ,ρ,s,ys,h,X,I,rs=>by
  cases h;unfold VRs at rs; subst rs;exact fun Q E q=>wpAny_assignInOrder_none (q _ _ I (.refl _ _))
 | [],_::_,_,_,_,_,h,_,_,_=>by cases h
 | e::es,[],_,_,_,_,h,_,_,_=>by cases e <;>cases h
 | e::es,v::vs,σ,ρ,s,ys,h,X,I,rs=>by
  cases e <;>try (cases h; done)
  rename_i x p;unfold zKN at h;split at h
  ·rename_i σ₁ h1
   unfold VRs at rs;obtain ⟨y,ys',rfl,ry,rys⟩:=rs;intro Q E q;refine wpAny_assignInOrder_more ?_;exact zAi h1 X I ry _ _ fun ρ' s' I' X'=>zCF h (X.ext X') I' (rys.ext X') _ _ fun ρ'' s'' I'' X''=>q _ _ I'' (X'.then I' X'')
  ·cases h
theorem uR (hh:A.handled=none){t:Expr}{v:V}(h:qD t v ae σ=some σ')(X:EnvR ρ ae env)(I:Inv K ρ σ s){y:Value}(ry:VR ρ s.heap v y):SB (model prog w) A K ρ s (assign t env y) () σ':=by
 intro Q E q;unfold qD at h;split at h
 ·exact zAi h X I ry Q E q
 ·split at h
  ·rename_i l
   obtain ⟨a,items,k,rfl,_,ho,rs⟩:=vE ry;obtain ⟨h2,h3,h4⟩:=zDt (env:=env) h;have e:=rs.length;simp only [Array.length_toList] at e;refine wpAny_assign_Tuple hh ⟨_,ho,rfl,k,rfl⟩ (by omega) h3 fun h' hb=>?_;have keep:∀b o,s.heap.get? b=some o->h'.get? b=some o:=fun b o q=>hb b o (Nat.ne_of_lt (Heap.lt_size q)) q;have I':Inv K ρ σ {s with heap:=h',toks:=s.toks}:=I.keeps keep;have X':Ext ρ s ρ {s with heap:=h',toks:=s.toks}:=uP keep;exact zCF h X I' (rs.ext X') _ _ fun ρ'' s'' I'' X''=>q _ _ I'' (X'.then I' X'')
  ·cases h
 ·cases h
end
structure Itr (prog:Program) (w:World) (K:Frag) (it:Addr) (nx:Sto->Nat->Option (Option V)) (St:Nat->Heap->Prop) (Pr:List Addr->Heap->Prop):Prop where
 own:∀k h,St k h->∃o,h.get? it=some o/\¬Kpt o
 frame:∀k h h',St k h->(∀o,h.get? it=some o->h'.get? it=some o)->St k h'
 prExt:∀ρ s ρ' s',Pr ρ s.heap->Ext ρ s ρ' s'->Pr ρ' s'.heap
 prBut:∀ρ k h h',Pr ρ h->St k h->Heap.ExtBut it h h'->Pr ρ h'
 item:∀k σ ρ s v A (Q:Option Value->Shared->Prop) E,A.handled=none->nx σ k=some (some v)->Inv K ρ σ s->St k s.heap->Pr ρ s.heap->
  (∀h' tk x,Heap.ExtBut it s.heap h'->St (k + 1) h'->VR ρ h' v x->Q (some x) {s with heap:=h',toks:=tk})->wpAny (model prog w) A (pyNext (.ref it)) Q E s
 done:∀k σ ρ s A (Q:Option Value->Shared->Prop) E,A.handled=none->nx σ k=some none->Inv K ρ σ s->St k s.heap->Pr ρ s.heap->
  (∀h' tk,Heap.ExtBut it s.heap h'->Q none {s with heap:=h',toks:=tk})->wpAny (model prog w) A (pyNext (.ref it)) Q E s
 lets:∀k (s:Shared) t x A (Q:Unit->Shared->Prop) E,St k s.heap->Q () s->wpAny (model prog w) A (letOwnedTupleGo t (.ref it) x) Q E s
 self:∀k (s:Shared) A (Q:Value->Shared->Prop) E,St k s.heap->Q (.ref it) s->wpAny (model prog w) A (pyIter (.ref it)) Q E s
def yD (r:Rec)(t:Expr)(body:List Stmt)(ae:AE)(m:Nat)(nx:Sto->Nat->Option (Option V)):Nat->Nat->Sto->Option (Fl×Sto)
 | 0,_,_=>none
 | f + 1,k,σ=>match nx σ k with
  | some none=>some (.next,σ)
  | some (some v)=>(match qD t v ae σ with
   | some σ₁=>(match evs r body ae σ₁ with
    | some (.next,σ₂)=>yD r t body ae m nx f (k + 1) (gc m σ₂)
    | some (.cont,σ₂)=>yD r t body ae m nx f (k + 1) (gc m σ₂)
    | some (.brk,σ₂)=>some (.next,σ₂)
    | some (.ret v,σ₂)=>some (.ret v,σ₂)
    | none=>none)
   | none=>none)
  | none=>none
section
variable {prog:Program} {w:World} {A:Around} {K:Frag} {G:Gl} {O:Ops} {n:Nat} {r:Rec} {ρ:List Addr} {σ σ':Sto} {s:Shared} {ae:AE} {env:Env}
theorem Ext.itr {ρ₀:List Addr}{s₀:Shared}{it:Addr}{h':Heap}{tk:Tok}(x:Ext ρ₀ s₀ ρ s)(n:s₀.heap.get? it=none)(hb:Heap.ExtBut it s.heap h'):Ext ρ₀ s₀ ρ {s with heap:=h',toks:=tk}:=
 ⟨x.pre,x.new,fun a o na e=>hb a o (fun z=>by subst z; rw [n] at e; cases e) (x.keep a o na e),x.os⟩
theorem uQ {it:Addr}{nx:Sto->Nat->Option (Option V)}{St:Nat->Heap->Prop}{Pr:List Addr->Heap->Prop}{k:Nat}(hs:St k s.heap)(W:Itr prog w K it nx St Pr){ρ':List Addr}{s':Shared}(X:Ext ρ s ρ' s')(hn:it ∉ ρ):it ∉ ρ':=by
 obtain ⟨o,ho,_⟩:=W.own _ _ hs;exact X.notin hn ho
theorem kZ {it:Addr}{nx:Sto->Nat->Option (Option V)}{St:Nat->Heap->Prop}{Pr:List Addr->Heap->Prop}{k:Nat}(hs:St k s.heap)(W:Itr prog w K it nx St Pr){ρ':List Addr}{s':Shared}(X:Ext ρ s ρ' s')(hn:it ∉ ρ):
  ∀o,s.heap.get? it=some o->s'.heap.get? it=some o:=fun o e=>X.keep it o hn e
theorem zCX (hr:Snd (model prog w) K n r)(hA:Rm A n){it:Addr}{nx:Sto->Nat->Option (Option V)}{St:Nat->Heap->Prop}{Pr:List Addr->Heap->Prop}(W:Itr prog w K it nx St Pr){t:Expr}{body:List Stmt}{f:Fl}
  {ρ₀:List Addr} {s₀:Shared} {m:Nat} (hm:ρ₀.length=m) (n0:s₀.heap.get? it=none) (nk:K.lookup it=none) (X₀:EnvR ρ₀ ae env) {fu k:Nat} (h:yD r t body ae m nx fu k σ=some (f,σ')) (I:Inv K ρ σ s) (X:Ext ρ₀ s₀ ρ s) (hn:it ∉ ρ) (hs:St k s.heap) (hp0:Pr ρ₀ s₀.heap)
  {R:Result->Shared->Prop} (q:∀ρ' s' x,Inv K ρ' σ' s'->Ext ρ₀ s₀ ρ' s'->FlR ρ' s'.heap f x->R (.ok x) s'):codeAny (model prog w) A (.forLoop t (.ref it) body [] env) R s:=by
 refine codeAny_forLoop_any (fun fu s=>∃k σ ρ,yD r t body ae m nx fu k σ=some (f,σ')/\Inv K ρ σ s/\Ext ρ₀ s₀ ρ s/\it ∉ ρ/\St k s.heap) ?_ fu ⟨k,σ,ρ,h,I,X,hn,hs⟩;clear h I X hn hs;rintro fu s ⟨k,σ,ρ,h,I,X,hn,hs⟩;have hp:=W.prExt _ _ _ _ hp0 X;cases fu with
 | zero=>cases h
 | succ fu=>
  have EX:EnvR ρ ae env:=X₀.ext X;unfold yD at h;split at h
  ·rename_i hx
   cases h;refine W.done _ _ _ _ _ _ _ hA.1 hx I hs hp fun h' tk hb=>?_;obtain ⟨o,ho,hk⟩:=W.own _ _ hs;have I':=I.but (tk:=tk) hn nk ho hk hb;exact wpAny_execs_nil (q _ _ _ I' (X.itr n0 hb) .next)
  ·rename_i v hx
   refine W.item _ _ _ _ _ _ _ _ hA.1 hx I hs hp fun h' tk x hb hs' rx=>?_;obtain ⟨o,ho,hk⟩:=W.own _ _ hs;have I':=I.but (tk:=tk) hn nk ho hk hb;have XX:=X.itr (tk:=tk) n0 hb;refine W.lets (k + 1) _ _ _ _ _ _ hs' ?_;split at h
   ·rename_i σ₁ h1
    refine uR hA.1 h1 EX I' rx _ _ fun ρ₁ s₁ I₁ X₁=>?_;split at h
    ·rename_i σ₂ h2
     refine zT hr hA h2 (EX.ext X₁) I₁ _ _ fun ρ₂ s₂ y I₂ X₂ ry=>?_;cases ry;obtain ⟨ρ₃,I₃,X₃,h3⟩:=zAV I₂ ((XX.then I' X₁).then I₁ X₂) hm;exact ⟨fu,Nat.lt_succ_self _,k + 1,gc m σ₂,ρ₃,h,I₃,X₃,fun z=>uQ hs' W (X₁.then I₁ X₂) hn (h3 _ z),W.frame _ _ _ hs' (kZ hs' W (X₁.then I₁ X₂) hn)⟩
    ·rename_i σ₂ h2
     refine zT hr hA h2 (EX.ext X₁) I₁ _ _ fun ρ₂ s₂ y I₂ X₂ ry=>?_;cases ry;obtain ⟨ρ₃,I₃,X₃,h3⟩:=zAV I₂ ((XX.then I' X₁).then I₁ X₂) hm;exact ⟨fu,Nat.lt_succ_self _,k + 1,gc m σ₂,ρ₃,h,I₃,X₃,fun z=>uQ hs' W (X₁.then I₁ X₂) hn (h3 _ z),W.frame _ _ _ hs' (kZ hs' W (X₁.then I₁ X₂) hn)⟩
    ·rename_i σ₂ h2
     cases h;refine zT hr hA h2 (EX.ext X₁) I₁ _ _ fun ρ₂ s₂ y I₂ X₂ ry=>?_;cases ry;exact q _ _ _ I₂ ((XX.then I' X₁).then I₁ X₂) .next
    ·rename_i u σ₂ h2
     cases h;refine zT hr hA h2 (EX.ext X₁) I₁ _ _ fun ρ₂ s₂ y I₂ X₂ ry=>?_;cases ry;exact q _ _ _ I₂ ((XX.then I' X₁).then I₁ X₂) (.ret (by assumption))
    ·cases h
   ·cases h
  ·cases h
end
end Mine
end
section
namespace Mine
section
variable {prog:Program} {w:World} {A:Around} {K:Frag} {G:Gl} {O:Ops} {n:Nat} {r:Rec} {ρ:List Addr} {σ σ':Sto} {s:Shared} {ae:AE} {env:Env}
theorem zA9 {it:Addr}{o:Obj}{T:String}{t:Expr}{x:Value}{Q:Unit->Shared->Prop}{E:Value->Shared->Prop}(ho:s.heap.get? it=some o)(hc:o.cls= .type T)
  (hT:["enumerate","zip","dict_itemiterator","dict_reverseitemiterator","odict_iterator","itertools.zip_longest","itertools.pairwise"].contains T=false) (q:Q () s):wpAny (model prog w) A (letOwnedTupleGo t (.ref it) x) Q E s:=by
 have core:∀a:Addr,wpAny (model prog w) A (do
   let o <-load it
   match o.cls,o.data with
   | .type n,.fields vs=>
    if ["enumerate","zip","dict_itemiterator","dict_reverseitemiterator","odict_iterator","itertools.zip_longest","itertools.pairwise"].contains n && vs[0]? ==some (rawInt a) then
     rule "for.unpacks-the-owned-tuple"
     updateField it 0 .none
   | _,_=>pure ():Sem Unit) Q E s:=by
  intro a;refine wpAny_bind (wpAny_load ho ?_);rw [hc];cases o.data <;>try exact wpAny_pure q
  simp only [hT,Bool.false_and,Bool.false_eq_true,if_false];exact wpAny_pure q
 unfold letOwnedTupleGo;cases t <;>try exact wpAny_pure q
 all_goals (cases x <;>first | exact wpAny_pure q | exact core _)
theorem qU {cls:String}{a b:Value}(h1:cls≠"tuple")(h2:cls≠"list")(h3:cls≠"range"){o:Obj}(hc:o.cls= .type cls)(hd:o.data= .fields #[a,b]):¬Kpt o:=by
 rintro (⟨_,_,h⟩ | ⟨h,_⟩)
 ·rw [hd] at h; cases h
 ·rw [hc] at h; injection h with h; exact h3 h
def nxL (src:V)(σ:Sto)(k:Nat):Option (Option V):=(zS src σ).map (·[k]?)
theorem zG5 {src:V}{a it:Addr}:Itr prog w K it (nxL src) (fun k h=>h.IsListIter it a k) (fun ρ h=>VR ρ h src (.ref a)) where
 own:=fun k h ⟨o,ho,hc,hd⟩=>⟨o,ho,qU (by decide) (by decide) (by decide) hc hd⟩
 frame:=fun k h h' ⟨o,ho,r⟩ f=>⟨o,f _ ho,r⟩
 prExt:=fun ρ s ρ' s' r x=>r.ext x
 prBut:=fun ρ k h h' r ⟨o,ho,hc,hd⟩ hb=>r.but ho (qU (by decide) (by decide) (by decide) hc hd) hb
 item:=fun k σ ρ s v A Q E hh hx I hs hp q=>by
  obtain ⟨l,hl,hv⟩:=Option.map_eq_some_iff.mp hx;obtain ⟨b,items,m,e,ho,rs⟩:=yI I hl hp;cases e;obtain ⟨x,hx',rx⟩:=rs.get hv;obtain ⟨o,h1,h2,h3⟩:=id hs;refine wpAny_pyNext_list_item hs ⟨_,ho,rfl,m,rfl⟩ (x:=x) (by simpa using hx') fun h' hi hb=>q h' s.toks x hb.extBut hi ?_;exact rx.but h1 (qU (by decide) (by decide) (by decide) h2 h3) hb.extBut
 done:=fun k σ ρ s A Q E hh hx I hs hp q=>by
  obtain ⟨l,hl,hv⟩:=Option.map_eq_some_iff.mp hx;obtain ⟨b,items,m,e,ho,rs⟩:=yI I hl hp;cases e;have e:=rs.length;simp only [Array.length_toList] at e;refine wpAny_pyNext_list_end hh hs ⟨_,ho,rfl,m,rfl⟩ ?_ fun h' hb=>q h' s.toks hb;rw [Array.getElem?_eq_none_iff];rw [List.getElem?_eq_none_iff] at hv;omega
 lets:=fun k s t x A Q E ⟨o,ho,hc,_⟩ q=>zA9 ho hc (by decide) q
 self:=fun k s A Q E h q=>wpAny_pyIter_listiter h q
def nxT (l:List V)(_:Sto)(k:Nat):Option (Option V):=some l[k]?
theorem zJ6 {l:List V}{a it:Addr}:Itr prog w K it (nxT l) (fun k h=>h.IsTupleIter it a k) (fun ρ h=>VR ρ h (.tup l) (.ref a)) where
 own:=fun k h ⟨o,ho,hc,hd⟩=>⟨o,ho,qU (by decide) (by decide) (by decide) hc hd⟩
 frame:=fun k h h' ⟨o,ho,r⟩ f=>⟨o,f _ ho,r⟩
 prExt:=fun ρ s ρ' s' r x=>r.ext x
 prBut:=fun ρ k h h' r ⟨o,ho,hc,hd⟩ hb=>r.but ho (qU (by decide) (by decide) (by decide) hc hd) hb
 item:=fun k σ ρ s v A Q E hh hx I hs hp q=>by
  have hv:=Option.some.inj hx;obtain ⟨b,items,m,e,_,ho,rs⟩:=vE hp;cases e;obtain ⟨x,hx',rx⟩:=rs.get hv;obtain ⟨o,h1,h2,h3⟩:=id hs;refine wpAny_pyNext_tuple_item hs ⟨_,ho,rfl,m,rfl⟩ (x:=x) (by simpa using hx') fun h' hi hb=>q h' s.toks x hb.extBut hi ?_;exact rx.but h1 (qU (by decide) (by decide) (by decide) h2 h3) hb.extBut
 done:=fun k σ ρ s A Q E hh hx I hs hp q=>by
  have hv:=Option.some.inj hx;obtain ⟨b,items,m,e,_,ho,rs⟩:=vE hp;cases e;have e:=rs.length;simp only [Array.length_toList] at e;refine wpAny_pyNext_tuple_end hh hs ⟨_,ho,rfl,m,rfl⟩ ?_ fun h' hb=>q h' s.toks hb;rw [Array.getElem?_eq_none_iff];rw [List.getElem?_eq_none_iff] at hv;omega
 lets:=fun k s t x A Q E ⟨o,ho,hc,_⟩ q=>zA9 ho hc (by decide) q
 self:=fun k s A Q E h q=>wpAny_pyIter_tupleiter h q
def nxS (x:Str)(_:Sto)(k:Nat):Option (Option V):=some (x.cps[k]?.map fun c=> .str ⟨#[c]⟩)
theorem zJT {x:Str}{t:Tok}{it:Addr}{ty:String}(hty:(ty="str_ascii_iterator"/\True)\/(ty="str_iterator"/\True)):Itr prog w K it (nxS x) (fun k h=>h.IsStrIter it ty x t k) (fun _ _=>True) where
 own:=fun k h ⟨o,ho,hc,hd⟩=>⟨o,ho,qU (by rcases hty with ⟨rfl,_⟩ | ⟨rfl,_⟩ <;>decide) (by rcases hty with ⟨rfl,_⟩ | ⟨rfl,_⟩ <;>decide) (by rcases hty with ⟨rfl,_⟩ | ⟨rfl,_⟩ <;>decide) hc hd⟩
 frame:=fun k h h' ⟨o,ho,r⟩ f=>⟨o,f _ ho,r⟩
 prExt:=fun _ _ _ _ _ _=>trivial
 prBut:=fun _ _ _ _ _ _ _=>trivial
 item:=fun k σ ρ s v A Q E hh hx I hs hp q=>by
  obtain ⟨c,hc,rfl⟩:=Option.map_eq_some_iff.mp (Option.some.inj hx);rcases hty with ⟨rfl,_⟩ | ⟨rfl,_⟩
  ·exact wpAny_pyNext_ascii_item hs hc fun h' hi hb=>q h' _ _ hb.extBut hi qJ
  ·exact wpAny_pyNext_wide_item hs hc fun h' hi hb=>q h' _ _ hb.extBut hi qJ
 done:=fun k σ ρ s A Q E hh hx I hs hp q=>by
  have hc:x.cps[k]? =none:=Option.map_eq_none_iff.mp (Option.some.inj hx);rcases hty with ⟨rfl,_⟩ | ⟨rfl,_⟩
  ·exact wpAny_pyNext_ascii_end hh hs hc fun h' hb=>q h' s.toks hb
  ·exact wpAny_pyNext_wide_end hh hs hc fun h' hb=>q h' s.toks hb
 lets:=fun k s t x A Q E ⟨o,ho,hc,_⟩ q=>zA9 ho hc (by rcases hty with ⟨rfl,_⟩ | ⟨rfl,_⟩ <;>decide) q
 self:=fun k s A Q E h q=>by
  rcases hty with ⟨rfl,_⟩ | ⟨rfl,_⟩
  ·exact wpAny_pyIter_striter_ascii h q
  ·exact wpAny_pyIter_striter_wide h q
def nxR (a b c:Int)(_:Sto)(k:Nat):Option (Option V):=if (k:Int) < Builtin.Range.rangeSize a b c then some (some (.int (a + k * c))) else some none
theorem zKD {a b c:Int}{it:Addr}:Itr prog w K it (nxR a b c) (fun k h=>IsRangeIter h it (a + k * c) (Builtin.Range.rangeSize a b c - k) c) (fun _ _=>True) where
 own:=fun k h ho=>⟨_,ho,by
  rintro (⟨_,_,h⟩ | ⟨h,_⟩)
  ·cases h
  ·injection h with h; exact absurd h (by decide)⟩
 frame:=fun k h h' ho f=>f _ ho
 prExt:=fun _ _ _ _ _ _=>trivial
 prBut:=fun _ _ _ _ _ _ _=>trivial
 item:=fun k σ ρ s v A Q E hh hx I hs hp q=>by
  unfold nxR at hx;split at hx
  ·rename_i hk
   cases hx;refine wpAny_pyNext_range_item hs (by omega) fun h' hi hb=>q h' _ _ hb.extBut ?_ qK;rw [show a + ((k + 1:Nat):Int) * c=a + k * c + c by push_cast; rw [Int.add_mul]; omega,show Builtin.Range.rangeSize a b c - ((k + 1:Nat):Int)=Builtin.Range.rangeSize a b c - k - 1 by push_cast; omega];exact hi
  ·cases hx
 done:=fun k σ ρ s A Q E hh hx I hs hp q=>by
  unfold nxR at hx;split at hx
  ·cases hx
  ·rename_i hk
   exact wpAny_pyNext_range_end hh hs (by omega) fun h' hb=>q h' s.toks hb
 lets:=fun k s t x A Q E ho q=>zA9 ho rfl (by decide) q
 self:=fun k s A Q E h q=>wpAny_pyIter_rangeiter h q
def zIj (v:V):Option (Sto->Nat->Option (Option V)):=match v with
 | .str x=>some (nxS x)
 | .tup l=>some (nxT l)
 | .rng a b c=>if Builtin.Range.small a b c then some (nxR a b c) else none
 | .lst _=>some (nxL v)
 | .trk _=>some (nxL v)
 | _=>none
theorem zAQ {v:V}{nx:Sto->Nat->Option (Option V)}(h:zIj v=some nx){x:Value}(I:Inv K ρ σ s)(rx:VR ρ s.heap v x)(hl:∀i,v= .trk i->(zS v σ).isSome=true){Q:Value->Shared->Prop}{E:Value->Shared->Prop}
  (q:∀it s' St Pr,s.heap.get? it=none->Itr prog w K it nx St Pr->Inv K ρ σ s'->Ext ρ s ρ s'->it ∉ ρ->St 0 s'.heap->Pr ρ s'.heap->Pr ρ s.heap->Q (.ref it) s'):wpAny (model prog w) A (pyIter x) Q E s:=by
 have mk:∀(o:Obj) (St:Nat->Heap->Prop) (Pr:List Addr->Heap->Prop),Itr prog w K s.heap.objs.size nx St Pr->St 0 (s.heap.push o)->Pr ρ (s.heap.push o)->Pr ρ s.heap->Q (.ref s.heap.objs.size) {s with heap:=s.heap.push o}:=by
  intro o St Pr W h0 hp hp0;have xx:=I.extra (o:=o) (tk:=s.toks);exact q _ _ St Pr (yX _) W xx.1 xx.2 I.fresh h0 hp hp0
 unfold zIj at h;split at h
 ·cases h
  obtain ⟨t,rfl⟩:=vrS rx;rename_i u;cases hc:u.cps.all (· < 128) with
  | true=>exact wpAny_pyIter_ascii hc (mk _ _ _ (zJT (t:=t) (.inl ⟨rfl,trivial⟩)) ⟨_,Heap.get?_push_size _ rfl,rfl,rfl⟩ trivial trivial)
  | false=>exact wpAny_pyIter_wide hc (mk _ _ _ (zJT (t:=t) (.inr ⟨rfl,trivial⟩)) ⟨_,Heap.get?_push_size _ rfl,rfl,rfl⟩ trivial trivial)
 ·cases h
  obtain ⟨a,items,m,rfl,hn,ho,rs⟩:=vE rx;exact wpAny_pyIter_tuple ⟨_,ho,rfl,m,rfl⟩ (mk _ _ _ (zJ6 (a:=a)) ⟨_,Heap.get?_push_size _ rfl,rfl,rfl⟩ (rx.push _) rx)
 ·split at h
  ·rename_i hs
   cases h;unfold VR at rx;obtain ⟨p,t,u,v,rfl,_,ho⟩:=rx;refine wpAny_pyIter_range ho hs (mk _ _ _ zKD ?_ trivial trivial);rw [show ∀a c:Int,a + ((0:Nat):Int) * c=a from fun a c=>by simp,show ∀a:Int,a - ((0:Nat):Int)=a from fun a=>by simp];exact Heap.get?_push_size _ rfl
  ·cases h
 ·cases h
  obtain ⟨a,items,m,rfl,ho,rs⟩:=yI (v:= .lst _) I rfl rx;exact wpAny_pyIter_list ⟨_,ho,rfl,m,rfl⟩ (mk _ _ _ (zG5 (a:=a)) ⟨_,Heap.get?_push_size _ rfl,rfl,rfl⟩ (rx.push _) rx)
 ·cases h
  obtain ⟨l,hl'⟩:=Option.isSome_iff_exists.mp (hl _ rfl);obtain ⟨a,items,m,rfl,ho,rs⟩:=yI I hl' rx;exact wpAny_pyIter_list ⟨_,ho,rfl,m,rfl⟩ (mk _ _ _ (zG5 (a:=a)) ⟨_,Heap.get?_push_size _ rfl,rfl,rfl⟩ (rx.push _) rx)
 ·cases h
end
end Mine
end
section
namespace Mine
def yB:Expr->Bool
 | .Set .. =>true
 | _=>false
def xL:Expr->Bool
 | .ListComp .. =>true
 | .SetComp .. =>true
 | .DictComp .. =>true
 | _=>false
def xF (v:V)(σ:Sto):Option (Sto->Nat->Option (Option V)):=match v with
 | .trk i=>(match zS (.trk i) σ with | some _=>zIj (.trk i) | none=>none)
 | v=>zIj v
def zIl (r:Rec)(t it:Expr)(body orelse:List Stmt)(ae:AE)(σ:Sto):Option (Fl×Sto):=
 if yB it || !orelse.isEmpty then none else
 match r.e it ae σ with
 | some (v,σ₁)=>(match xF v σ₁ with | some nx=>yD r t body ae σ₁.length nx 1000 0 σ₁ | none=>none)
 | none=>none
def yF (r:Rec)(t:Expr)(body:List Stmt)(ae:AE)(m:Nat):Nat->Sto->Option (Fl×Sto)
 | 0,_=>none
 | f + 1,σ=>match r.t t ae σ with
  | some (false,σ₁)=>some (.next,σ₁)
  | some (true,σ₁)=>(match evs r body ae σ₁ with
   | some (.next,σ₂)=>yF r t body ae m f (gc m σ₂)
   | some (.cont,σ₂)=>yF r t body ae m f (gc m σ₂)
   | some (.brk,σ₂)=>some (.next,σ₂)
   | some (.ret v,σ₂)=>some (.ret v,σ₂)
   | none=>none)
  | none=>none
def zBu (r:Rec)(e:Expr)(ae:AE)(σ:Sto):Option (Fl×Sto):=if xL e then none else match r.e e ae σ with
 | some (_,σ₁)=>some (.next,σ₁)
 | none=>none
def xT (G:Gl)(r:Rec)(x:Str)(op:Operator)(e:Expr)(ae:AE)(σ:Sto):Option (Fl×Sto):=match kP G x ae σ with
 | some a=>(match r.e e ae σ with
  | some (b,σ₁)=>(match zEA op a b σ₁ with
   | some (v,σ₂)=>(match qA x v ae σ₂ with | some σ₃=>some (.next,σ₃) | none=>none)
   | none=>none)
  | none=>none)
 | none=>none
def zBH (r:Rec)(op:BoolOp):List Expr->AE->Sto->Option (V×Sto)
 | [],_,_=>none
 | [x],ae,σ=>r.e x ae σ
 | x::y::rest,ae,σ=>match r.e x ae σ with
  | some (v,σ₁)=>(match op,kU v σ₁ with
   | .And,some false=>some (v,σ₁)
   | .Or,some true=>some (v,σ₁)
   | _,some _=>zBH r op (y::rest) ae σ₁
   | _,none=>none)
  | none=>none
def zEd (r:Rec)(op:BoolOp):List Expr->AE->Sto->Option (Bool×Sto)
 | [],_,σ=>some (op== .And,σ)
 | x::rest,ae,σ=>match r.t x ae σ with
  | some (b,σ₁)=>(match op,b with
   | .And,false=>some (false,σ₁)
   | .Or,true=>some (true,σ₁)
   | _,_=>zEd r op rest ae σ₁)
  | none=>none
section
variable {prog:Program} {w:World} {A:Around} {K:Frag} {G:Gl} {O:Ops} {n:Nat} {r:Rec} {ρ:List Addr} {σ σ':Sto} {s:Shared} {ae:AE} {env:Env}
theorem xZ {it:Expr}(h:yB it=false)(x:Value):foldedSetIterable it env x=pure x:=by cases it <;>first | rfl | cases h
theorem zKQ (hr:Snd (model prog w) K n r)(hA:Rm A n){t it:Expr}{body orelse:List Stmt}{pos:Pos}{f:Fl}(h:zIl r t it body orelse ae σ=some (f,σ'))(X:EnvR ρ ae env)(I:Inv K ρ σ s):SX (model prog w) A K ρ s (exec (.For t it body orelse pos) env) f σ':=by
 intro Q E q;unfold zIl at h;split at h
 ·cases h
 ·rename_i hc
  simp only [Bool.or_eq_true,not_or,Bool.not_eq_true,Bool.not_eq_false',List.isEmpty_iff] at hc;obtain ⟨hc,rfl⟩:=hc;split at h
  ·rename_i v σ₁ h1
   split at h
   ·rename_i nx hx
    refine wpAny_For (hr.e _ _ _ _ _ h1 A env ρ s hA X I _ _ fun ρ₁ s₁ x I₁ X₁ rx=>?_) (xZ hc);have hx':zIj v=some nx/\∀i,v= .trk i->(zS v σ₁).isSome=true:=by
     unfold xF at hx;split at hx
     ·split at hx
      ·rename_i hl; exact ⟨hx,fun i e=>by cases e; rw [hl]; rfl⟩
      ·cases hx
     ·rename_i hne; exact ⟨hx,fun i e=>absurd e (hne i)⟩
    refine zAQ hx'.1 I₁ rx hx'.2 fun itr s₂ St Pr n0 W I₂ X₂ hn hs hp hp0=>?_;refine zCX hr hA W I₁.len n0 (zJ3 I₁ n0) (X.ext X₁) h I₂ X₂ hn hs hp0 fun ρ' s' y I' X' ry=>?_;exact q _ _ _ I' (X₁.then I₁ X') ry
   ·cases h
  ·cases h
theorem zGj (hr:Snd (model prog w) K n r)(hA:Rm A n){t:Expr}{body:List Stmt}{pos:Pos}{f:Fl}{fu:Nat}{m:Nat}(hm:m=σ.length)(h:yF r t body ae m fu σ=some (f,σ'))(X:EnvR ρ ae env)(I:Inv K ρ σ s):SX (model prog w) A K ρ s (exec (.While t body [] pos) env) f σ':=by
 intro Q E q;refine wpAny_While ?_;refine codeAny_whileLoop (fun fu s'=>∃σ₁ ρ₁,yF r t body ae m fu σ₁=some (f,σ')/\Inv K ρ₁ σ₁ s'/\Ext ρ s ρ₁ s') ?_ fu ⟨σ,ρ,h,I,.refl _ _⟩;clear h;rintro fu s₁ ⟨σ₁,ρ₁,h,I₁,X₁⟩;cases fu with
 | zero=>cases h
 | succ fu=>
  unfold yF at h;split at h
  ·rename_i σ₂ h1
   cases h;refine hr.t _ _ _ _ _ h1 A env _ _ hA (X.ext X₁) I₁ _ _ fun ρ₂ s₂ I₂ X₂=>?_;exact wpAny_execs_nil (q _ _ _ I₂ (X₁.then I₁ X₂) .next)
  ·rename_i σ₂ h1
   refine hr.t _ _ _ _ _ h1 A env _ _ hA (X.ext X₁) I₁ _ _ fun ρ₂ s₂ I₂ X₂=>?_;rw [if_pos rfl];have X₂':=X₁.then I₁ X₂;split at h
   ·rename_i σ₃ h2
    refine zT hr hA h2 (X.ext X₂') I₂ _ _ fun ρ₃ s₃ y I₃ X₃ ry=>?_;cases ry;obtain ⟨ρ₄,I₄,X₄,_⟩:=zAV I₃ (X₂'.then I₂ X₃) (I.len.trans hm.symm);exact ⟨fu,Nat.lt_succ_self _,gc m σ₃,ρ₄,h,I₄,X₄⟩
   ·rename_i σ₃ h2
    refine zT hr hA h2 (X.ext X₂') I₂ _ _ fun ρ₃ s₃ y I₃ X₃ ry=>?_;cases ry;obtain ⟨ρ₄,I₄,X₄,_⟩:=zAV I₃ (X₂'.then I₂ X₃) (I.len.trans hm.symm);exact ⟨fu,Nat.lt_succ_self _,gc m σ₃,ρ₄,h,I₄,X₄⟩
   ·rename_i σ₃ h2
    cases h;refine zT hr hA h2 (X.ext X₂') I₂ _ _ fun ρ₃ s₃ y I₃ X₃ ry=>?_;cases ry;exact q _ _ _ I₃ (X₂'.then I₂ X₃) .next
   ·rename_i v σ₃ h2
    cases h;refine zT hr hA h2 (X.ext X₂') I₂ _ _ fun ρ₃ s₃ y I₃ X₃ ry=>?_;cases ry;exact q _ _ _ I₃ (X₂'.then I₂ X₃) (.ret (by assumption))
   ·cases h
  ·cases h
theorem zDg (X:EnvR ρ ae env):interactive env=false:=by
 unfold interactive;rw [X.kind]; rfl
theorem zGL (hr:Snd (model prog w) K n r)(hA:Rm A n){e:Expr}{pos:Pos}{f:Fl}(h:zBu r e ae σ=some (f,σ'))(X:EnvR ρ ae env)(I:Inv K ρ σ s):SX (model prog w) A K ρ s (exec (.Expr e pos) env) f σ':=by
 intro Q E q;unfold zBu at h;split at h
 ·cases h
 ·rename_i hc
  split at h
  ·rename_i v σ₁ h1
   cases h;refine wpAny_Expr_any (hr.e _ _ _ _ _ h1 A env ρ s hA X I _ _ fun ρ₁ s₁ x I₁ X₁ rx=>q _ _ _ I₁ X₁ .next) (zDg X) ?_;cases e <;>first | rfl | exact absurd rfl hc
  ·cases h
theorem zEq (GO:GlOK K G)(hr:Snd (model prog w) K n r)(hA:Rm A n){x:Str}{op:Operator}{e:Expr}{p pos:Pos}{f:Fl}(h:xT G r x op e ae σ=some (f,σ'))(X:EnvR ρ ae env)(I:Inv K ρ σ s):
  SX (model prog w) A K ρ s (exec (.AugAssign (.Name x p) op e pos) env) f σ':=by
 intro Q E q;unfold xT at h;split at h
 ·rename_i a h0
  split at h
  ·rename_i b σ₁ h1
   split at h
   ·rename_i v σ₂ h2
    split at h
    ·rename_i σ₃ h3
     cases h;refine wpAny_AugAssign_Name (zCy GO h0 X I fun y ry=>?_).2;refine hr.e _ _ _ _ _ h1 A env ρ s hA X I _ _ fun ρ₁ s₁ z I₁ X₁ rz=>?_;refine zBv h2 I₁ (ry.ext X₁) rz _ _ fun ρ₂ s₂ u I₂ X₂ ru=>?_;have X₂':=X₁.then I₁ X₂;exact xH h3 (X.ext X₂') I₂ ru _ _ fun ρ₃ s₃ I₃ X₃=>q _ _ _ I₃ (X₂'.then I₂ X₃) .next
    ·cases h
   ·cases h
  ·cases h
 ·cases h
theorem zGA {pos:Pos}{op:BoolOp}{x y:Sem Value}{rest:List (Sem Value)}{Q:Value->Shared->Prop}{E:Value->Shared->Prop}
  (h:wpAny (model prog w) A x (fun v s₁=>wpAny (model prog w) A (truthy v) (fun t s₂=>match op,t with
   | .And,false | .Or,true=>Q v s₂
   | _,_=>wpAny (model prog w) A (boolOp pos op (y::rest)) Q E s₂) E s₁) E s):wpAny (model prog w) A (boolOp pos op (x::y::rest)) Q E s:=by
 show wpAny (model prog w) A (do
  let v <-x
  standAt pos
  let t <-holding [v] (truthy v)
  match op,t with
  | .And,false | .Or,true=>pure v
  | _,_=>boolOp pos op (y::rest)) Q E s
 refine wpAny_bind (wpAny_mono h (fun v s₁ h₁=>wpAny_bind (wpAny_standAt (wpAny_bind (wpAny_holding (wpAny_mono h₁ (fun t s₂ h₂=>?_) fun _ _ x=>x))))) fun _ _ x=>x);cases op <;>cases t <;>first | exact wpAny_pure h₂ | exact h₂
theorem zCB (hr:Snd (model prog w) K n r)(hA:Rm A n){op:BoolOp}{pos:Pos}:∀{xs:List Expr} {σ:Sto} {v:V} {ρ:List Addr} {s:Shared},zBH r op xs ae σ=some (v,σ')->EnvR ρ ae env->Inv K ρ σ s->SE (model prog w) A K ρ s (boolOp pos op (evalEach xs env)) v σ'
 | [],_,_,_,_,h,_,_=>by cases h
 | [x],σ,v,ρ,s,h,X,I=>hr.e _ _ _ _ _ h A env ρ s hA X I
 | x::y::rest,σ,v,ρ,s,h,X,I=>by
  intro Q E q;unfold zBH at h;split at h
  ·rename_i u σ₁ h1
   refine zGA (hr.e _ _ _ _ _ h1 A env ρ s hA X I _ _ fun ρ₁ s₁ z I₁ X₁ rz=>?_);split at h
   ·rename_i ht
    cases h;refine kB ht I₁ rz fun ρ₂ s₂ I₂ X₂=>q _ _ _ I₂ (X₁.then I₁ X₂) (rz.ext X₂)
   ·rename_i ht
    cases h;refine kB ht I₁ rz fun ρ₂ s₂ I₂ X₂=>q _ _ _ I₂ (X₁.then I₁ X₂) (rz.ext X₂)
   ·rename_i op1 op2 op' b hn1 hn2 ht
    refine kB ht I₁ rz fun ρ₂ s₂ I₂ X₂=>?_;have go:wpAny (model prog w) A (boolOp pos op1 (evalEach (y::rest) env)) Q E s₂:=by
     have X₂':=X₁.then I₁ X₂;exact zCB hr hA h (X.ext X₂') I₂ _ _ fun ρ₃ s₃ u I₃ X₃ ru=>q _ _ _ I₃ (X₂'.then I₂ X₃) ru
    cases op1 <;>cases b <;>first | exact go | exact (hn1 rfl rfl).elim | exact (hn2 rfl rfl).elim
   ·cases h
  ·cases h
theorem zEF (hr:Snd (model prog w) K n r)(hA:Rm A n){op:BoolOp}:∀{xs:List Expr} {σ:Sto} {v:Bool} {ρ:List Addr} {s:Shared},zEd r op xs ae σ=some (v,σ')->EnvR ρ ae env->Inv K ρ σ s->SB (model prog w) A K ρ s (allTrue op xs env) v σ'
 | [],σ,v,ρ,s,h,X,I=>by
  intro Q E q;cases h;cases op
  ·exact wpAny_allTrue_And_nil (q _ _ I (.refl _ _))
  ·exact wpAny_allTrue_Or_nil (q _ _ I (.refl _ _))
 | x::rest,σ,v,ρ,s,h,X,I=>by
  intro Q E q;unfold zEd at h;split at h
  ·rename_i b σ₁ h1
   have go:∀{ρ₁ s₁},Inv K ρ₁ σ₁ s₁->Ext ρ s ρ₁ s₁->zEd r op rest ae σ₁=some (v,σ')->wpAny (model prog w) A (allTrue op rest env) Q E s₁:=fun {ρ₁ s₁} I₁ X₁ h=>
    zEF hr hA h (X.ext X₁) I₁ _ _ fun ρ₃ s₃ I₃ X₃=>q _ _ I₃ (X₁.then I₁ X₃)
   cases op with
   | And=>
    refine wpAny_allTrue_And_cons (hr.t _ _ _ _ _ h1 A env ρ s hA X I _ _ fun ρ₁ s₁ I₁ X₁=>?_);cases b with
    | true=>exact go I₁ X₁ h
    | false=>cases h; exact q _ _ I₁ X₁
   | Or=>
    refine wpAny_allTrue_Or_cons (hr.t _ _ _ _ _ h1 A env ρ s hA X I _ _ fun ρ₁ s₁ I₁ X₁=>?_);cases b with
    | true=>cases h; exact q _ _ I₁ X₁
    | false=>exact go I₁ X₁ h
  ·cases h
end
end Mine
end
section
namespace Mine
def zAm:List (Str×NameKind)->List (Str×Nat)->Sto->List (Str×Nat)×Sto
 | [],acc,σ=>(acc,σ)
 | (n,k)::r,acc,σ=>if k== .cell then zAm r ((n,σ.length)::acc) (σ ++ [.cell none]) else zAm r acc σ
def uL:List (Str×V)->AE->Sto->Option Sto
 | [],_,σ=>some σ
 | (x,v)::r,ae,σ=>match qA x v ae σ with | some σ₁=>uL r ae σ₁ | none=>none
def xG (scope:Scope)(cl:List (Str×Nat))(binds:List (Str×V))(qual:Str)(code:Value)(σ:Sto):Option (AE×Sto):=
 let c:=zAm scope.names cl (σ ++ [.ns []])
 let ae:AE:={scope,loc:=σ.length,cells:=c.1,qual,code}
 match uL binds ae c.2 with | some σ'=>some (ae,σ') | none=>none
def BindsR (ρ:List Addr)(h:Heap):List (Str×V)->List (Str×Value)->Prop
 | [],l=>l=[]
 | (x,v)::r,l=>∃y l',l=(x,y)::l'/\VR ρ h v y/\BindsR ρ h r l'
theorem BindsR.ext {ρ s ρ' s'}(x:Ext ρ s ρ' s'):∀{b:List (Str×V)} {l:List (Str×Value)},BindsR ρ s.heap b l->BindsR ρ' s'.heap b l
 | [],_,e=>e
 | (_,_)::_,_,⟨y,l',e,a,b⟩=>⟨y,l',e,a.ext x,b.ext x⟩
section
variable {prog:Program} {w:World} {A:Around} {K:Frag} {G:Gl} {O:Ops} {n:Nat} {r:Rec} {ρ:List Addr} {σ σ':Sto} {s:Shared} {ae:AE} {env:Env} {M:Model}
theorem zCs:∀{names:List (Str×NameKind)} {acc:List (Str×Addr)} {accA:List (Str×Nat)} {ρ:List Addr} {σ:Sto} {s:Shared},Inv K ρ σ s->cellsR ρ accA acc->
  ∃ρ',Inv K ρ' (zAm names accA σ).2 {s with heap:=pushCells s.heap names}/\Ext ρ s ρ' {s with heap:=pushCells s.heap names}/\cellsR ρ' (zAm names accA σ).1 (cellsFrom s.heap.objs.size names acc)
 | [],acc,accA,ρ,σ,s,I,c=>⟨ρ,I,.refl _ _,c⟩
 | (nm,k)::r,acc,accA,ρ,σ,s,I,c=>by
  unfold zAm pushCells cellsFrom
  by_cases hk:(k==NameKind.cell)=true
  ·rw [if_pos hk,if_pos hk,if_pos hk]
   have x:=I.alloc (o:={cls:= .type "cell",data:= .cell none}) (ob:= .cell none) (tk:=s.toks) (.inr trivial) ⟨none,⟨_,Heap.get?_push_size _ rfl,rfl⟩,trivial⟩;obtain ⟨ρ',I',X',c'⟩:=zCs (names:=r) (acc:=(nm,s.heap.objs.size)::acc) (accA:=(nm,σ.length)::accA) x.1
    ⟨s.heap.objs.size,acc,rfl,by rw [<-I.len,List.getElem?_append_right (Nat.le_refl _),Nat.sub_self]; rfl,c.mono x.2.preP⟩
   refine ⟨ρ',I',x.2.then x.1 X',?_⟩;rw [show ({s with heap:=s.heap.push {cls:= .type "cell",data:= .cell none}}:Shared).heap.objs.size=s.heap.objs.size + 1 from Heap.size_push ..] at c';exact c'
  ·rw [if_neg hk,if_neg hk,if_neg hk]
   exact zCs I c
theorem vW (f:Str×Value->PUnit->Sem (ForInStep PUnit))(hf:∀n v u,f (n,v) u=(do storeName env n v; pure (.yield ⟨⟩))):∀{b:List (Str×V)} {l:List (Str×Value)} {σ:Sto} {ρ:List Addr} {s:Shared},uL b ae σ=some σ'->EnvR ρ ae env->Inv K ρ σ s->BindsR ρ s.heap b l->
  SB M A K ρ s (forIn l ⟨⟩ f) (⟨⟩:PUnit) σ'
 | [],l,σ,ρ,s,h,X,I,R=>by
  intro Q E q;cases h;have e:l=[]:=R;subst e;rw [List.forIn_nil]; exact wpAny_pure (q _ _ I (.refl _ _))
 | (x,v)::r,l,σ,ρ,s,h,X,I,R=>by
  intro Q E q;obtain ⟨y,l',rfl,ry,R'⟩:=R;unfold uL at h;split at h
  ·rename_i σ₁ h1
   rw [List.forIn_cons,hf];refine wpAny_bind (wpAny_bind (xH h1 X I ry _ _ fun ρ₁ s₁ I₁ X₁=>wpAny_pure ?_));exact vW f hf h (X.ext X₁) I₁ (R'.ext X₁) _ _ fun ρ₂ s₂ I₂ X₂=>q _ _ I₂ (X₁.then I₁ X₂)
  ·cases h
theorem zK3 {o:Obj}(hd:o.data= .dict #[])(hc:∃T,o={cls:=T,data:= .dict #[]})(I:Inv K ρ σ s):Inv K (ρ ++ [s.heap.objs.size]) (σ ++ [.ns []]) {s with heap:=s.heap.push o,toks:=s.toks}/\Ext ρ s (ρ ++ [s.heap.objs.size]) {s with heap:=s.heap.push o,toks:=s.toks}:=by
 obtain ⟨T,rfl⟩:=hc;exact I.alloc (.inr trivial) ⟨_,Heap.Ns.new s.heap T,fun x=>trivial⟩
theorem zBg {scope:Scope}{cl:List (Str×Nat)}{closure:List (Str×Addr)}{b:List (Str×V)}{l:List (Str×Value)}{qual:Str}{codeA code:Value}{func:Option Addr}{ae':AE}
  (h:xG scope cl b qual codeA σ=some (ae',σ')) (hca:codeA= .none\/code=codeA) (I:Inv K ρ σ s) (hc:cellsR ρ cl closure) (hb:BindsR ρ s.heap b l) (hk:scope.kind= .function)
  {Q:Env->Shared->Prop} {E:Value->Shared->Prop} (q:∀ρ' s' env',Inv K ρ' σ' s'->Ext ρ s ρ' s'->EnvR ρ' ae' env'->Q env' s'):wpAny M A (newFunctionEnv scope mainGlobals closure l qual func code none builtinsNs) Q E s:=by
 unfold xG at h;dsimp only at h;split at h
 ·rename_i σ₁ h1
  cases h;simp only [newFunctionEnv,Option.isSome_none,Bool.false_eq_true,if_false];refine wpAny_bind (wpAny_alloc ?_);have x:=zK3 (o:={cls:= .type "frame",data:= .dict #[]}) rfl ⟨_,rfl⟩ I;refine wpAny_bind (wpAny_layCells _ (fun name kind cells=>by cases hkc:kind==NameKind.cell <;>simp [hkc]) _ _ _ _ ?_);obtain ⟨ρ',I',X',c'⟩:=zCs (names:=scope.names) (acc:=closure) (accA:=cl) x.1 (hc.mono x.2.preP);have XX:=x.2.then x.1 X';refine wpAny_bind ?_;have EE:EnvR ρ' {scope,loc:=σ.length,cells:=(zAm scope.names cl (σ ++ [.ns []])).1,qual,code:=codeA} {scope,locals:=s.heap.objs.size,globals:=mainGlobals,cells:=cellsFrom (s.heap.push {cls:= .type "frame",data:= .dict #[]}).objs.size scope.names closure,qual,func,code,frame:=some s.heap.objs.size,builtins:=builtinsNs}:=
   ⟨rfl,X'.preP _ _ (by rw [<-I.len,List.getElem?_append_right (Nat.le_refl _),Nat.sub_self]; rfl),c',rfl,rfl,rfl,hca,hk⟩
  refine vW (ae:={scope,loc:=σ.length,cells:=(zAm scope.names cl (σ ++ [.ns []])).1,qual,code:=codeA}) (env:={scope,locals:=s.heap.objs.size,globals:=mainGlobals,cells:=cellsFrom (s.heap.push {cls:= .type "frame",data:= .dict #[]}).objs.size scope.names closure,qual,func,code,frame:=some s.heap.objs.size,builtins:=builtinsNs})
   _ (fun _ _ _=>rfl) h1 EE I' (hb.ext XX) _ _ fun ρ₂ s₂ I₂ X₂=>?_
  exact wpAny_pure (q _ _ _ I₂ (XX.then I' X₂) (EE.ext X₂))
 ·cases h
end
end Mine
end
section
namespace Mine
abbrev Bnd:=Addr->List V->List (Str×V)->Sto->Option (List (Str×V)×Sto)
structure FnOK (prog:Program) (w:World) (K:Frag) (G:Gl) (B:Bnd):Prop where
 fn:∀a fd,G.fn a=some fd->(∃o,K.lookup a=some o/\o.data= .func fd)/\codeIn K fd.code fd.qualname=true/\fd.scope.isCoroutine=false/\fd.scope.isGenerator=false/\fd.scope.kind= .function/\
  fd.globals=mainGlobals/\fd.builtins=builtinsNs/\fd.closure=[]
 lim:∀h,K.In h->h.NoLimit
 bind:∀a fd args kw b σ σ₁,G.fn a=some fd->B a args kw σ=some (b,σ₁)->∀A ρ s xs xk,Inv K ρ σ s->VRs ρ s.heap args xs->BindsR ρ s.heap kw xk->
  ∀(Q:List (Str×Value)->Shared->Prop) (E:Value->Shared->Prop),(∀ρ' s' l,Inv K ρ' σ₁ s'->Ext ρ s ρ' s'->BindsR ρ' s'.heap b l->Q l s')->wpAny (model prog w) A (bindArgs fd ⟨xs,xk⟩) Q E s
def wU:FuncBody->Option (List Stmt)
 | .stmts b=>some b
 | _=>none
def yR (r:Rec)(m:Nat)(body:List Stmt)(ae:AE)(σ:Sto):Option (V×Sto):=match evs r body ae σ with
 | some (.ret v,σ₂)=>some (gcv m v σ₂)
 | some (.next,σ₂)=>some (gcv m .none σ₂)
 | _=>none
def yW (G:Gl)(B:Bnd)(r:Rec)(a:Addr)(args:List V)(kw:List (Str×V))(σ:Sto):Option (V×Sto):=match G.fn a with
 | some fd=>(match wU fd.body,B a args kw σ with
  | some body,some (b,σ₀)=>(match xG fd.scope [] b (fd.qualname ++ ".<locals>.") fd.code σ₀ with
   | some (ae,σ₁)=>yR r σ.length body ae σ₁
   | none=>none)
  | _,_=>none)
 | none=>none
section
variable {prog:Program} {w:World} {A:Around} {K:Frag} {G:Gl} {O:Ops} {B:Bnd} {n:Nat} {r:Rec} {ρ:List Addr} {σ σ':Sto} {s:Shared} {ae:AE} {env:Env}
theorem Rm.deeper (h:Rm A (n + 1))(env:Env):Rm (A.deeper env) n:=⟨h.1,by show A.depth + 1 + 4 * n < _; have:=h.2.1; omega,by show A.units + 3 + 16 * n < _; have:=h.2.2; omega⟩
theorem zHK (hr:Snd (model prog w) K n r)(hA:Rm (A.deeper env) n){m:Nat}{body:List Stmt}{v:V}(h:yR r m body ae σ=some (v,σ'))(X:EnvR ρ ae env)(I:Inv K ρ σ s){ρ₀:List Addr}{s₀:Shared}(X₀:Ext ρ₀ s₀ ρ s)(hm:ρ₀.length<=m)
  {R:Result->Shared->Prop} (q:∀ρ' s' x,Inv K ρ' σ' s'->Ext ρ₀ s₀ ρ' s'->VR ρ' s'.heap v x->R (.ok (.ret x)) s'):codeAny (model prog w) A (.func body env) R s:=by
 unfold yR at h;split at h
 ·rename_i v' σ₂ h1
  have h:=Option.some.inj h;obtain rfl:(gcv m v' σ₂).1=v:=by rw [h]
  obtain rfl:(gcv m v' σ₂).2=σ':=by rw [h]
  refine codeAny_func (zT hr hA h1 X I _ _ fun ρ₁ s₁ f I₁ X₁ rf=>?_);cases rf;exact zE9 (Q:=fun x s'=>R (.ok (.ret x)) s') I₁ (X₀.then I X₁) hm (by assumption) q
 ·rename_i σ₂ h1
  have h:=Option.some.inj h;obtain rfl:(gcv m .none σ₂).1=v:=by rw [h]
  obtain rfl:(gcv m .none σ₂).2=σ':=by rw [h]
  refine codeAny_func (zT hr hA h1 X I _ _ fun ρ₁ s₁ f I₁ X₁ rf=>?_);cases rf;exact zE9 (Q:=fun x s'=>R (.ok (.ret x)) s') I₁ (X₀.then I X₁) hm qY q
 ·cases h
theorem wR (FO:FnOK prog w K G B)(hr:Snd (model prog w) K n r)(hA:Rm A (n + 1)){a:Addr}{args:List V}{kw:List (Str×V)}{v:V}(h:yW G B r a args kw σ=some (v,σ'))(I:Inv K ρ σ s){xs:List Value}{xk:List (Str×Value)}
  (rs:VRs ρ s.heap args xs) (rk:BindsR ρ s.heap kw xk) {R:Result->Shared->Prop} (q:∀ρ' s' x,Inv K ρ' σ' s'->Ext ρ s ρ' s'->VR ρ' s'.heap v x->R (.ok (.ret x)) s'):codeAny (model prog w) A (.call (.ref a) ⟨xs,xk⟩) R s:=by
 unfold yW at h;split at h
 ·rename_i fd hf
  split at h
  ·rename_i body b σ₀ hb hB
   split at h
   ·rename_i ae σ₁ he
    obtain ⟨⟨o,ho,hd⟩,hcd,hco,hge,hk,hgl,hbi,hcl⟩:=FO.fn a fd hf;have hbody:fd.body= .stmts body:=by
     cases z:fd.body with
     | stmts b=>rw [z] at hb; cases hb; rfl
     | expr e=>rw [z] at hb; cases hb
    have hroom:A.depth < recursionLimit:=by have:=hA.2.1; omega
    refine codeAny_call_function hroom (I.stat _ _ ho) hd hco hge hbody (codeRec_of I.kin hcd) ?_;refine FO.bind a fd args kw b _ _ hf hB _ _ _ _ _ I rs rk _ _ fun ρ₁ s₁ l I₁ X₁ rl=>?_;rw [hgl,hbi,hcl];refine zBg he (.inr rfl) I₁ (cl:=[]) rfl rl hk fun ρ₂ s₂ env I₂ X₂ E₂=>⟨FO.lim _ I₂.kin,?_⟩;exact zHK hr (hA.deeper env) h E₂ I₂ (X₁.then I₁ X₂) (by rw [<-I.len]; exact Nat.le_refl _) q
   ·cases h
  ·cases h
 ·cases h
end
end Mine
end
section
namespace Mine
def zEv (r:Rec):List Keyword->AE->Sto->Option (List (Str×V)×Sto)
 | [],_,σ=>some ([],σ)
 | ⟨some x,e,_⟩::rest,ae,σ=>(match r.e e ae σ with
  | some (v,σ₁)=>(match zEv r rest ae σ₁ with | some (l,σ₂)=>some ((x,v)::l,σ₂) | none=>none)
  | none=>none)
 | ⟨none,_,_⟩::_,_,_=>none
def wI (r:Rec)(args:List Expr)(kws:List Keyword)(ae:AE)(σ:Sto):Option (List V×List (Str×V)×Sto):=match evL r args ae σ with
 | some (vs,σ₁)=>(match zEv r kws ae σ₁ with | some (l,σ₂)=>some (vs,l,σ₂) | none=>none)
 | none=>none
section
variable {prog:Program} {w:World} {A:Around} {K:Frag} {G:Gl} {O:Ops} {B:Bnd} {n:Nat} {r:Rec} {ρ:List Addr} {σ σ':Sto} {s:Shared} {ae:AE} {env:Env}
theorem zGu:∀{kws:List Keyword} {σ:Sto} {l:List (Str×V)},zEv r kws ae σ=some (l,σ')->((backToKw pos (keywordEach kws env)).all (·.1.isSome)=true/\((backToKw pos (keywordEach kws env)).any (·.1.isNone))=false/\(backToKw pos (keywordEach kws env)).filterMap (·.1)=l.map (·.1))
 | [],σ,l,h=>by cases h; exact ⟨rfl,rfl,rfl⟩
 | ⟨some x,e,p⟩::rest,σ,l,h=>by
  unfold zEv at h;split at h
  ·split at h
   ·rename_i h2
    cases h;obtain ⟨a,b,c⟩:=zGu h2;refine ⟨?_,?_,?_⟩
    ·show (true && _)=true; rw [Bool.true_and]; exact a
    ·show (false || _)=false; rw [Bool.false_or]; exact b
    ·show x::_=x::_; rw [<-c]; rfl
   ·cases h
  ·cases h
 | ⟨none,e,p⟩::rest,σ,l,h=>by cases h
theorem zC9 (hr:Snd (model prog w) K n r)(hA:Rm A n){pos:Pos}:∀{kws:List Keyword} {σ:Sto} {l:List (Str×V)} {ρ:List Addr} {s:Shared},zEv r kws ae σ=some (l,σ')->EnvR ρ ae env->Inv K ρ σ s->∀(Q:List Value->Shared->Prop) (E:Value->Shared->Prop),
  (∀ρ' s' xs,Inv K ρ' σ' s'->Ext ρ s ρ' s'->VRs ρ' s'.heap (l.map (·.2)) xs->Q xs s')->wpAny (model prog w) A (evalAll ((backToKw pos (keywordEach kws env)).map (·.2))) Q E s
 | [],σ,l,ρ,s,h,X,I,Q,E,q=>by
  cases h;exact wpAny_evalAll_nil (q _ _ _ I (.refl _ _) rfl)
 | ⟨some x,e,p⟩::rest,σ,l,ρ,s,h,X,I,Q,E,q=>by
  unfold zEv at h;split at h
  ·rename_i v σ₁ h1
   split at h
   ·rename_i l' σ₂ h2
    cases h;refine wpAny_evalAll_cons (wpAny_bind (hr.e _ _ _ _ _ h1 A env ρ s hA X I _ _ fun ρ₁ s₁ y I₁ X₁ ry=>wpAny_bind (wpAny_standAt (wpAny_pure ?_))));exact zC9 hr hA h2 (X.ext X₁) I₁ _ _ fun ρ₂ s₂ ys I₂ X₂ rys=>q _ _ _ I₂ (X₁.then I₁ X₂) ⟨y,ys,rfl,ry.ext X₂,rys⟩
   ·cases h
  ·cases h
 | ⟨none,e,p⟩::rest,σ,l,ρ,s,h,X,I,Q,E,q=>by cases h
theorem zBV {h:Heap}:∀{l:List (Str×V)} {xs:List Value},VRs ρ h (l.map (·.2)) xs->BindsR ρ h l ((l.map (·.1)).zip xs)
 | [],xs,r=>by unfold VRs at r; subst r; rfl
 | (x,v)::l,xs,r=>by
  simp only [List.map_cons] at r;unfold VRs at r;obtain ⟨y,ys,rfl,ry,rys⟩:=r;exact ⟨y,_,rfl,ry,zBV rys⟩
theorem zAT {pos:Pos}:∀{es:List Expr} {σ σ':Sto} {vs:List V},evL r es ae σ=some (vs,σ')->((backTo pos (starEach es env)).any (·.1))=false
 | [],_,_,_,_=>rfl
 | e::es,σ,σ',vs,h=>by
  have ns:∀x p,e≠.Starred x p:=fun x p z=>by subst z; cases h
  rw [xM ns];have h':(match r.e e ae σ with | some (v,σ₁)=>(match evL r es ae σ₁ with | some (vs,σ₂)=>some (v::vs,σ₂) | none=>none) | none=>none)=some (vs,σ'):=by
   cases e <;>first | exact h | exact absurd rfl (ns _ _)
  split at h'
  ·split at h'
   ·rename_i h2
    show (false || _)=false;rw [Bool.false_or]; exact zAT h2
   ·cases h'
  ·cases h'
theorem zDP (hr:Snd (model prog w) K n r)(hA:Rm A n){pos:Pos}{args:List Expr}{kws:List Keyword}{vs:List V}{l:List (Str×V)}(h:wI r args kws ae σ=some (vs,l,σ'))(X:EnvR ρ ae env)(I:Inv K ρ σ s)(f:Value)(Q:Args->Shared->Prop)(E:Value->Shared->Prop)
  (q:∀ρ' s' xs xk,Inv K ρ' σ' s'->Ext ρ s ρ' s'->VRs ρ' s'.heap vs xs->BindsR ρ' s'.heap l xk->Q ⟨xs,xk⟩ s'):
  ((backTo pos (starEach args env)).any (·.1) || (backToKw pos (keywordEach kws env)).any (·.1.isNone))=false/\wpAny (model prog w) A (evalArgs f true (backTo pos (starEach args env)) (backToKw pos (keywordEach kws env))) Q E s:=by
 unfold wI at h;split at h
 ·rename_i vs' σ₁ h1
  split at h
  ·rename_i l' σ₂ h2
   cases h;obtain ⟨k1,k2,k3⟩:=zGu (pos:=pos) (env:=env) h2;refine ⟨by rw [zAT (pos:=pos) (env:=env) h1,k2]; rfl,?_⟩;cases args with
   | nil=>
    cases h1;refine evalArgs_kw_nil k1 (zC9 hr hA h2 X I _ _ fun ρ₁ s₁ ys I₁ X₁ rys=>?_);rw [k3];exact q _ _ _ _ I₁ X₁ rfl (zBV rys)
   | cons e es=>
    have ns:∀x p,e≠.Starred x p:=fun x p z=>by subst z; cases h1
    have go:=zCw (pos:=pos) hr hA h1 X I;rw [xM ns] at go ⊢;refine evalArgs_kw k1 (go _ _ fun ρ₁ s₁ xs I₁ X₁ rxs=>?_);refine zC9 hr hA h2 (X.ext X₁) I₁ _ _ fun ρ₂ s₂ ys I₂ X₂ rys=>?_;rw [k3];exact q _ _ _ _ I₂ (X₁.then I₁ X₂) (rxs.ext X₂) (zBV rys)
  ·cases h
 ·cases h
end
end Mine
end
section
namespace Mine
def zIN (kp kf:Addr->Bool)(f:V)(σ:Sto):Bool:=match f with
 | .val (.ref a)=>kp a
 | .val (.builtin _)=>true
 | .val (.type _)=>true
 | .trk i=>(match σ[i]? with
  | some (.lam _ _ _)=>true
  | some (.meth g _)=>kf g
  | _=>false)
 | _=>false
structure KeepOK (K:Frag) (kp kf:Addr->Bool):Prop where
 keep:∀a,kp a=true->keepIn K (.ref a)=true
 fnk:∀a,kf a=true->fnIn K a=true
section
variable {prog:Program} {w:World} {A:Around} {K:Frag} {G:Gl} {O:Ops} {B:Bnd} {n:Nat} {r:Rec} {ρ:List Addr} {σ σ':Sto} {s:Shared} {ae:AE} {env:Env}
def zI2 (prog:Program)(w:World)(f:Value)(h:Heap):Prop:=∃k,(k=Keeper.frame\/k=Keeper.machine\/k=Keeper.boundFrame)/\Looks (model prog w) h (keeperOf f) k
theorem zKv {kp kf:Addr->Bool}(KO:KeepOK K kp kf){f:V}(h:zIN kp kf f σ=true)(I:Inv K ρ σ s){x:Value}(rf:VR ρ s.heap f x):zI2 prog w x s.heap:=by
 unfold zIN at h;split at h
 ·cases vrV rf
  exact keeps_K (KO.keep _ h) s.heap I.kin
 ·cases vrV rf; exact ⟨.machine,.inr (.inl rfl),Looks.of_pure rfl⟩
 ·cases vrV rf; exact ⟨.machine,.inr (.inl rfl),Looks.of_pure rfl⟩
 ·obtain ⟨a,ha,rfl⟩:=vrT rf
  split at h
  ·rename_i fd cl j hl
   obtain ⟨cl',c,ct,pm,_,_,ho⟩:=I.obs _ a _ ha hl;refine ⟨.frame,.inl rfl,(Looks.ld (part:=none) ho).andThen ?_⟩;exact .now
  ·rename_i g u hl
   obtain ⟨y,_,ho⟩:=I.obs _ a _ ha hl;have hf:=KO.fnk _ h;unfold fnIn at hf;split at hf
   ·rename_i e
    refine ⟨.boundFrame,.inr (.inr rfl),(Looks.ld (part:=none) ho).andThen ?_⟩;exact (Looks.ld (part:=none) (I.stat _ _ e)).andThen .now
   ·cases hf
  ·cases h
 ·cases h
def zA3 (kp kf:Addr->Bool)(r:Rec)(f:Expr)(args:List Expr)(kws:List Keyword)(ae:AE)(σ:Sto):Option (V×Sto):=match r.e f ae σ with
 | some (fv,σ₁)=>(match wI r args kws ae σ₁ with
  | some (vs,l,σ₂)=>if zIN kp kf fv σ₂ then r.c fv vs l σ₂ else none
  | none=>none)
 | none=>none
theorem zNg {f:Expr}{args:List Expr}{kws:List Keyword}{pos:Pos}(h:∀o x p,f≠.Attribute o x p):eval (.Call f args kws pos) env=(do callWith pos (<-eval f env) [] (backTo pos (starEach args env)) (backToKw pos (keywordEach kws env))):=by
 cases f <;>first | rfl | exact absurd rfl (h _ _ _)
theorem zCP {h:Heap}:∀{l:List (Str×V)} {xk:List (Str×Value)},BindsR ρ h l xk->(xk.map (·.1)=l.map (·.1)/\VRs ρ h (l.map (·.2)) (xk.map (·.2)))
 | [],xk,e=>by rw [show xk=[] from e]; exact ⟨rfl,rfl⟩
 | (x,v)::l,xk,⟨y,l',e,a,b⟩=>by
  subst e;obtain ⟨c,d⟩:=zCP b;exact ⟨by simp [c],⟨y,_,rfl,a,d⟩⟩
theorem uA (hr:Snd (model prog w) K n r)(hA:Rm A n){kp kf:Addr->Bool}(KO:KeepOK K kp kf){fv:V}{first:List V}{args:List Expr}{kws:List Keyword}{vs:List V}{l:List (Str×V)}{v:V}{σ₁:Sto}{pos:Pos}
  (h1:wI r args kws ae σ=some (vs,l,σ₁)) (h2:zIN kp kf fv σ₁=true) (h3:r.c fv (first ++ vs) l σ₁=some (v,σ')) (X:EnvR ρ ae env) (I:Inv K ρ σ s) {x:Value} {xf:List Value} (rf:VR ρ s.heap fv x) (rfs:VRs ρ s.heap first xf):
  SE (model prog w) A K ρ s (callWith pos x xf (backTo pos (starEach args env)) (backToKw pos (keywordEach kws env))) v σ':=by
 intro Q E q;have Z:=zDP (pos:=pos) hr hA h1 X I x;refine callWith_of (P:=zI2 prog w x) (Z (fun _ _=>True) (fun _ _=>True) fun _ _ _ _ _ _ _ _=>trivial).1 (fun h p=>p) ?_;refine (Z _ _ fun ρ₂ s₂ xs xk I₂ X₂ rs rk=>⟨zKv KO h2 I₂ (rf.ext X₂),?_⟩).2;exact hr.c _ _ _ _ _ _ h3 _ _ _ _ _ _ hA I₂ (rf.ext X₂) ((rfs.ext X₂).append rs) (zCP rk) _ _ fun ρ₃ s₃ y I₃ X₃ ry=>q _ _ _ I₃ (X₂.then I₂ X₃) ry
theorem zG1 (hr:Snd (model prog w) K n r)(hA:Rm A n){kp kf:Addr->Bool}(KO:KeepOK K kp kf){f:Expr}{args:List Expr}{kws:List Keyword}{v:V}{pos:Pos}(h:zA3 kp kf r f args kws ae σ=some (v,σ'))(hf:∀o x p,f≠.Attribute o x p)
  (X:EnvR ρ ae env) (I:Inv K ρ σ s):SE (model prog w) A K ρ s (eval (.Call f args kws pos) env) v σ':=by
 intro Q E q;unfold zA3 at h;split at h
 ·rename_i fv σ₁ h1
  split at h
  ·rename_i vs l σ₂ h2
   split at h
   ·rename_i h3
    rw [zNg hf];refine wpAny_bind (hr.e _ _ _ _ _ h1 A env ρ s hA X I _ _ fun ρ₁ s₁ x I₁ X₁ rx=>?_);exact uA hr hA KO (first:=[]) h2 h3 h (X.ext X₁) I₁ rx rfl _ _ fun ρ₂ s₂ y I₂ X₂ ry=>q _ _ _ I₂ (X₁.then I₁ X₂) ry
   ·cases h
  ·cases h
 ·cases h
end
end Mine
end
section
namespace Mine
def wP (r:Rec):List Expr->AE->Sto->Option (Bool×Sto)
 | [],_,σ=>some (true,σ)
 | c::cs,ae,σ=>match r.t c ae σ with
  | some (true,σ₁)=>wP r cs ae σ₁
  | some (false,σ₁)=>some (false,σ₁)
  | none=>none
def qF (r:Rec)(t:Expr)(ifs:List Expr)(emit:Sto->Option Sto)(ae:AE)(nx:Sto->Nat->Option (Option V)):Nat->Nat->Sto->Option Sto
 | 0,_,_=>none
 | f + 1,k,σ=>match nx σ k with
  | some none=>some σ
  | some (some v)=>(match qD t v ae σ with
   | some σ₁=>(match wP r ifs ae σ₁ with
    | some (true,σ₂)=>(match emit σ₂ with | some σ₃=>qF r t ifs emit ae nx f (k + 1) σ₃ | none=>none)
    | some (false,σ₂)=>qF r t ifs emit ae nx f (k + 1) σ₂
    | none=>none)
   | none=>none)
  | none=>none
def zCd (i:Nat)(v:V)(σ:Sto):Option Sto:=match σ[i]? with
 | some (.list l)=>if l.length < 1000 then some (σ.set i (.list (l ++ [v]))) else none
 | _=>none
def uX (r:Rec)(elt:Expr)(acc:Nat)(ae:AE):List Comprehension->Sto->Option Sto
 | [],σ=>(match r.e elt ae σ with | some (v,σ₁)=>zCd acc v σ₁ | none=>none)
 | ⟨t,it,ifs,_⟩::rest,σ=>if yB it then none else (match r.e it ae σ with
  | some (v,σ₁)=>(match xF v σ₁ with
   | some nx=>qF r t ifs (uX r elt acc ae rest) ae nx 1000 0 σ₁
   | none=>none)
  | none=>none)
section
variable {prog:Program} {w:World} {A:Around} {K:Frag} {G:Gl} {O:Ops} {B:Bnd} {n:Nat} {r:Rec} {ρ:List Addr} {σ σ':Sto} {s:Shared} {ae:AE} {env:Env}
theorem zDv {i:Nat}{v:V}(h:zCd i v σ=some σ')(I:Inv K ρ σ s){a:Addr}(ha:ρ[i]? =some a){x:Value}(rx:VR ρ s.heap v x){Q:Value->Shared->Prop}{E:Value->Shared->Prop}
  (q:∀s',Inv K ρ σ' s'->Ext ρ s ρ s'->Q .none s'):wpAny (model prog w) A (call (.builtin "list.append") [.ref a,x]) Q E s:=by
 unfold zCd at h;split at h
 ·rename_i l hl
  split at h
  ·rename_i hz
   cases h;obtain ⟨items,k,ho,rs⟩:=I.obs _ a _ ha hl;have e:=rs.length;simp only [Array.length_toList] at e;have z:=I.updList (f:=fun xs=>xs.push x) (l':=l ++ [v]) (tk:=s.toks) ha ho (by rw [Array.toList_push]; exact rs.append (VRs.one rx));exact call_meets slot_list_append ⟨_,ho,rfl⟩ entry_list_append (args_list_append _ _) (list_append a items k x (zQ (by omega))) ⟨ho,q _ z.1 z.2⟩
  ·cases h
 ·cases h
theorem uI (hr:Snd (model prog w) K n r)(hA:Rm A n){f:Expr->Bool->Sem (ForInStep Bool)}(hf:∀c ok,f c ok=if ok=true then do let ok <-isTrue c env (eval c env); pure (ForInStep.yield ok) else pure (ForInStep.yield ok)):
  ∀{cs:List Expr} {σ:Sto} {b:Bool} {ρ:List Addr} {s:Shared},wP r cs ae σ=some (b,σ')->EnvR ρ ae env->Inv K ρ σ s->SB (model prog w) A K ρ s (forIn cs true f) b σ'
 | [],σ,b,ρ,s,h,X,I=>by
  cases h;intro Q E q;rw [List.forIn_nil]; exact wpAny_pure (q _ _ I (.refl _ _))
 | c::cs,σ,b,ρ,s,h,X,I=>by
  intro Q E q;unfold wP at h;rw [List.forIn_cons,hf,if_pos rfl];split at h
  ·rename_i σ₁ h1
   refine wpAny_bind (wpAny_bind (hr.t _ _ _ _ _ h1 A env ρ s hA X I _ _ fun ρ₁ s₁ I₁ X₁=>wpAny_pure ?_));exact uI hr hA hf h (X.ext X₁) I₁ _ _ fun ρ₂ s₂ I₂ X₂=>q _ _ I₂ (X₁.then I₁ X₂)
  ·rename_i σ₁ h1
   cases h;refine wpAny_bind (wpAny_bind (hr.t _ _ _ _ _ h1 A env ρ s hA X I _ _ fun ρ₁ s₁ I₁ X₁=>wpAny_pure ?_));have all:∀(cs:List Expr),wpAny (model prog w) A (forIn cs false f) Q E s₁:=by
    intro cs
    induction cs with
    | nil=>rw [List.forIn_nil]; exact wpAny_pure (q _ _ I₁ X₁)
    | cons d ds ih=>rw [List.forIn_cons,hf,if_neg Bool.false_ne_true]; exact wpAny_bind (wpAny_pure ih)
   exact all cs
  ·cases h
theorem zBr {elt:Expr}{gens:List Comprehension}{scope:Scope}{pos:Pos}{d:Nat}{t iter:Expr}{ifs:List Expr}{it acc:Value}{env:Env}{R:Result->Shared->Prop}(hg:gens[d]? =some ⟨t,iter,ifs,0⟩)
  (h0:codeAny (model prog w) A (.compLoop (.ListComp elt gens scope pos) d it acc env) R s)
  (h1:∀(Q:Value->Shared->Prop) E,Q it s->wpAny (model prog w) A (pyIter it) Q E s):codeAny (model prog w) A (.compStart (.ListComp elt gens scope pos) d it acc env) R s:=by
 refine codeAny_of_tree ?_;show wpAny _ A ((compStart (.ListComp elt gens scope pos) d it acc env).onRaise (fun x=>do noteFrame x env; standAt theWindowsPlace)) _ _ s;refine wpAny_notedAt ?_;unfold compStart;simp only [show clausesOf (.ListComp elt gens scope pos)=gens from rfl,hg,Option.elim,bne_self_eq_false,Bool.false_eq_true,if_false];refine wpAny_bind (wpAny_askSetting (wpAny_ite ?_));split
 ·first
   | exact wpAny_bind (wpAny_pure (wpAny_pure (And.intro rfl h0)))
   | exact wpAny_pure (And.intro rfl h0)
 ·refine wpAny_bind (wpAny_rule (wpAny_bind (wpAny_standAt (wpAny_bind (h1 _ _ ?_)))))
  exact wpAny_pure (And.intro rfl h0)
theorem zGK (hr:Snd (model prog w) K n r)(hA:Rm A n){elt:Expr}{gens:List Comprehension}{scope:Scope}{pos:Pos}{acc:Nat}{a:Addr}{env:Env}:∀{rest:List Comprehension} {d:Nat} {t iter:Expr} {ifs:List Expr},
    gens.drop d=⟨t,iter,ifs,0⟩::rest->(∀g∈rest,g.is_async=0)->
    ∀{it:Addr} {nx:Sto->Nat->Option (Option V)} {St:Nat->Heap->Prop} {Pr:List Addr->Heap->Prop} (W:Itr prog w K it nx St Pr) {ρ₀:List Addr} {s₀:Shared} (n0:s₀.heap.get? it=none) (nk:K.lookup it=none)
      {fu k:Nat} {σ σ':Sto} {ρ:List Addr} {s:Shared} (h:qF r t ifs (uX r elt acc ae rest) ae nx fu k σ=some σ') (I:Inv K ρ σ s) (X:Ext ρ₀ s₀ ρ s) (hn:it ∉ ρ) (hs:St k s.heap) (hp:Pr ρ s.heap) (EX:EnvR ρ ae env) (ha:ρ[acc]? =some a)
      {R:Result->Shared->Prop} (q:∀ρ' s',Inv K ρ' σ' s'->Ext ρ₀ s₀ ρ' s'->EnvR ρ' ae env->ρ'[acc]? =some a->∀f,R (.ok f) s'),codeAny (model prog w) A (.compLoop (.ListComp elt gens scope pos) d (.ref it) (.ref a) env) R s:=by
  intro rest
  induction rest with
  | nil=>?_
  | cons g rest ih=>?_
  all_goals
    intro d t iter ifs hd hasy it nx St Pr W ρ₀ s₀ n0 nk fu k σ σ' ρ s h I X hn hs hp EX ha R q;have hg:gens[d]? =some ⟨t,iter,ifs,0⟩:=by
      have:=congrArg (·[0]?) hd
      simpa using this
    refine codeAny_loop rfl (fun fu s=>∃k σ ρ,qF r t ifs (uX r elt acc ae _) ae nx fu k σ=some σ'/\Inv K ρ σ s/\Ext ρ₀ s₀ ρ s/\it ∉ ρ/\St k s.heap/\Pr ρ s.heap/\EnvR ρ ae env/\ρ[acc]? =some a) ?_ fu ⟨k,σ,ρ,h,I,X,hn,hs,hp,EX,ha⟩;clear h I X hn hs hp EX ha;rintro fu s ⟨k,σ,ρ,h,I,X,hn,hs,hp,EX,ha⟩;show wpAny _ A ((compTurn (.ListComp elt gens scope pos) d (.ref it) (.ref a) env).onRaise (fun x=>do noteFrame x env; theTreesLotGoes x)) _ _ s;refine wpAny_noted ?_;unfold compTurn;simp only [hg,bne_self_eq_false,Bool.false_eq_true,if_false];cases fu with
    | zero=>cases h
    | succ fu=>?_
    refine wpAny_bind (wpAny_standAt (wpAny_bind ?_));unfold qF at h;split at h
    · rename_i hx
      cases h;refine W.done _ _ _ _ _ _ _ hA.1 hx I hs hp fun h' tk hb=>?_;obtain ⟨o,ho,hk⟩:=W.own _ _ hs;have I':=I.but (tk:=tk) hn nk ho hk hb;exact wpAny_pure (q _ _ I' (X.itr n0 hb) EX ha _)
    · rename_i v hx
      refine W.item _ _ _ _ _ _ _ _ hA.1 hx I hs hp fun h' tk x hb hs' rx=>?_;obtain ⟨o,ho,hk⟩:=W.own _ _ hs;have I':=I.but (tk:=tk) hn nk ho hk hb;have XX:=X.itr (tk:=tk) n0 hb;have hp':=W.prBut _ _ _ _ hp hs hb;refine wpAny_bind (W.lets (k + 1) _ _ _ _ _ _ hs' ?_);split at h
      · rename_i σ₁ h1
        refine wpAny_bind (uR hA.1 h1 EX I' rx _ _ fun ρ₁ s₁ I₁ X₁=>?_);refine wpAny_bind ?_;split at h
        · rename_i σ₂ h2
          refine uI hr hA (fun c ok=>rfl) h2 (EX.ext X₁) I₁ _ _ fun ρ₂ s₂ I₂ X₂=>?_;have X₂':=X₁.then I₁ X₂;have E₂:=EX.ext X₂';split at h
          · rename_i σ₃ h3
            have fin:∀ρ₃ s₃,Inv K ρ₃ σ₃ s₃->Ext ρ₂ s₂ ρ₃ s₃->_:=fun ρ₃ s₃ I₃ X₃=>(⟨rfl,fu,Nat.lt_succ_self _,k + 1,σ₃,ρ₃,h,I₃,(XX.then I' X₂').then I₂ X₃,uQ hs' W (X₂'.then I₂ X₃) hn,W.frame _ _ _ hs' (kZ hs' W (X₂'.then I₂ X₃) hn),W.prExt _ _ _ _ hp' (X₂'.then I₂ X₃),EX.ext (X₂'.then I₂ X₃),(X₂'.then I₂ X₃).preP _ _ ha⟩:
              Code.compLoop (.ListComp elt gens scope pos) d (.ref it) (.ref a) env=Code.compLoop (.ListComp elt gens scope pos) d (.ref it) (.ref a) env/\∃m,m < fu + 1/\∃k σ ρ,qF r t ifs (uX r elt acc ae _) ae nx m k σ=some σ'/\Inv K ρ σ s₃/\Ext ρ₀ s₀ ρ s₃/\it ∉ ρ/\St k s₃.heap/\Pr ρ s₃.heap/\EnvR ρ ae env/\ρ[acc]? =some a)
            have ha₂:ρ₂[acc]? =some a:=X₂'.preP _ _ ha;rw [if_pos rfl]
            first
              | (have hn1:gens[d + 1]? =none:=by
                   have:=congrArg (·[1]?) hd
                   simpa using this
                 simp only [hn1];unfold uX at h3;split at h3
                 · rename_i v₂ σ₄ h4
                   refine wpAny_bind (wpAny_bind (hr.e _ _ _ _ _ h4 A env _ _ hA E₂ I₂ _ _ fun ρ₄ s₄ y I₄ X₄ ry=>?_));refine wpAny_bind (zDv h3 I₄ (X₄.preP _ _ ha₂) ry fun s₅ I₅ X₅=>?_);exact wpAny_pure (wpAny_pure (fin _ _ I₅ (X₄.then I₄ X₅)))
                 · cases h3)
              | (have hg1:gens[d + 1]? =some g:=by
                   have:=congrArg (·[1]?) hd
                   simpa using this
                 obtain ⟨t',it',ifs',as'⟩:=g;have has:as'=0:=hasy ⟨t',it',ifs',as'⟩ (List.mem_cons_self ..);subst has;simp only [hg1,bne_self_eq_false,Bool.false_eq_true,if_false];unfold uX at h3;split at h3
                 · cases h3
                 · rename_i hset
                   split at h3
                   · rename_i v₂ σ₄ h4
                     split at h3
                     · rename_i nx' hx'
                       have hx2:zIj v₂=some nx'/\∀i,v₂= .trk i->(zS v₂ σ₄).isSome=true:=by
                         unfold xF at hx';split at hx'
                         · split at hx'
                           · rename_i hl; exact ⟨hx',fun i e=>by cases e; rw [hl]; rfl⟩
                           · cases hx'
                         · rename_i hne; exact ⟨hx',fun i e=>absurd e (hne i)⟩
                       refine wpAny_bind (hr.e _ _ _ _ _ h4 A env _ _ hA E₂ I₂ _ _ fun ρ₄ s₄ y I₄ X₄ ry=>?_);refine wpAny_bind (wpAny_standAt (wpAny_bind (wpAny_of_eq (xZ (by simpa using hset) y) ?_)));refine wpAny_bind (wpAny_holding (zAQ hx2.1 I₄ ry hx2.2 fun it₂ s₅ St₂ Pr₂ m0 W₂ I₅ X₅ hn₂ hs₂ hp₂ _=>?_));refine wpAny_bind (wpAny_runOwn ?_);have hd1:gens.drop (d + 1)=⟨t',it',ifs',0⟩::rest:=by
                         have:=congrArg (·.drop 1) hd
                         simpa [List.drop_drop] using this
                       refine zBr hg1 ?_ (fun Q E q=>W₂.self 0 _ _ _ _ hs₂ q);refine ih hd1 (fun g hg=>hasy g (List.mem_cons_of_mem _ hg)) W₂ m0 (zJ3 I₄ m0) h3 I₅ X₅ hn₂ hs₂ hp₂ ((E₂.ext X₄).ext X₅) (X₅.preP _ _ (X₄.preP _ _ ha₂)) fun ρ₆ s₆ I₆ X₆ _ _ f=>?_;exact wpAny_pure (fin _ _ I₆ (X₄.then I₄ X₆))
                     · cases h3
                   · cases h3)
          · cases h
        · rename_i σ₂ h2
          refine uI hr hA (fun c ok=>rfl) h2 (EX.ext X₁) I₁ _ _ fun ρ₂ s₂ I₂ X₂=>?_;have X₂':=X₁.then I₁ X₂;exact wpAny_pure ⟨rfl,fu,Nat.lt_succ_self _,k + 1,σ₂,ρ₂,h,I₂,XX.then I' X₂',uQ hs' W X₂' hn,W.frame _ _ _ hs' (kZ hs' W X₂' hn),W.prExt _ _ _ _ hp' X₂',EX.ext X₂',X₂'.preP _ _ ha⟩
        · cases h
      · cases h
    · cases h
end
end Mine
end
section
namespace Mine
def zA7 (cells:List (Str×Nat)):List (Str×NameKind)->List (Str×Nat)->Option (List (Str×Nat))
 | [],acc=>some acc
 | (n,k)::r,acc=>if k== .free then (match lkS cells n with | some i=>zA7 cells r ((n,i)::acc) | none=>none) else zA7 cells r acc
def xD (scope:Scope)(ae:AE):Scope:=
 {scope with names:=scope.names.map fun (n,k)=>if (k== .free && ae.scope.kind== .function && lkS ae.scope.names n==some .cell) then (n,.cell) else (n,k)}
def zIz (i:Nat)(σ:Sto):Bool:=match σ[i]? with
 | some (.ns _)=>true
 | _=>false
def zFZ (scope:Scope):Bool:=scope.kind== .function && scope.names.all fun x=>x.2 != .local || lkS scope.names x.1==some .local
def zA4 (r:Rec)(elt t:Expr)(ifs:List Expr)(rest:List Comprehension)(scope:Scope)(ae:AE)(nx:Sto->Nat->Option (Option V))(σ₁:Sto):Option Sto:=
 match zA7 ae.cells scope.names [] with
 | some cl=>
  let c:=zAm scope.names cl (σ₁ ++ [.list []] ++ [.ns []])
  let ae':AE:={scope:=xD scope ae,loc:=σ₁.length + 1,cells:=c.1,qual:=ae.qual,code:=ae.code}
  (match qF r t ifs (uX r elt σ₁.length ae' rest) ae' nx 1000 0 c.2 with
   | some σ₃=>if zIz (σ₁.length + 1) σ₃ && zFU (σ₁.length + 1) (σ₃.take (σ₁.length + 1)) then some (σ₃.take (σ₁.length + 1)) else none
   | none=>none)
 | none=>none
def xP (r:Rec)(elt:Expr)(gens:List Comprehension)(scope:Scope)(ae:AE)(σ:Sto):Option (V×Sto):=match gens with
 | ⟨t,it,ifs,as⟩::rest=>if yB it || as !=0 || rest.any (·.is_async !=0) || !zFZ scope then none else
  (match r.e it ae σ with
  | some (v,σ₁)=>(match xF v σ₁ with
   | some nx=>(match zA4 r elt t ifs rest scope ae nx σ₁ with | some σ₂=>some (.trk σ₁.length,σ₂) | none=>none)
   | none=>none)
  | none=>none)
 | []=>none
section
variable {prog:Program} {w:World} {A:Around} {K:Frag} {G:Gl} {O:Ops} {B:Bnd} {n:Nat} {r:Rec} {ρ:List Addr} {σ σ':Sto} {s:Shared} {ae:AE} {env:Env}
theorem zFT (X:EnvR ρ ae env){scope:Scope}{cl:List (Str×Nat)}(h:zA7 ae.cells scope.names []=some cl):∃l,closureFor scope env=pure l/\cellsR ρ cl l:=by
 have gen:∀(names:List (Str×NameKind)) (acc:List (Str×Nat)) (accC:List (Str×Addr)) (cl:List (Str×Nat)),zA7 ae.cells names acc=some cl->cellsR ρ acc accC->
   ∃l,cellsR ρ cl l/\(forIn names accC fun (x:Str×NameKind) (cs:List (Str×Addr))=>(if (x.2==NameKind.free)=true then do
     let c <-cellOf env x.1
     pure (ForInStep.yield ((x.1,c)::cs))
    else pure (ForInStep.yield cs):Sem (ForInStep (List (Str×Addr)))))=pure l:=by
  intro names
  induction names with
  | nil=>intro acc accC cl h c; cases h; exact ⟨accC,c,by rw [List.forIn_nil]⟩
  | cons x r ih=>
   intro acc accC cl h c;obtain ⟨nm,k⟩:=x;unfold zA7 at h;rw [qV] at h;rw [List.forIn_cons];split at h
   ·rename_i hk
    split at h
    ·rename_i i hi
     obtain ⟨a,ha,hr⟩:=qX X.cells hi;obtain ⟨l,c',e⟩:=ih _ ((nm,a)::accC) cl h ⟨a,accC,rfl,hr,c⟩;refine ⟨l,c',?_⟩;simp only [hk,if_true];rw [show cellOf env nm=pure a from by unfold cellOf; rw [ha]];exact e
    ·cases h
   ·rename_i hk
    obtain ⟨l,c',e⟩:=ih _ accC cl h c;refine ⟨l,c',?_⟩;simp only [hk];exact e
 obtain ⟨l,c,e⟩:=gen _ [] [] cl h rfl;refine ⟨l,?_,c⟩;unfold closureFor;exact (by simpa using e)
theorem zEz {scope:Scope}{cl:List (Str×Nat)}{closure:List (Str×Addr)}(I:Inv K ρ σ s)(hc:cellsR ρ cl closure){Q:Env->Shared->Prop}{E:Value->Shared->Prop}
  (q:∀ρ' s' L cells',Inv K ρ' (zAm scope.names cl (σ ++ [.ns []])).2 s'->Ext ρ s ρ' s'->cellsR ρ' (zAm scope.names cl (σ ++ [.ns []])).1 cells'->ρ'[σ.length]? =some L->
   Q {scope,locals:=L,globals:=env.globals,cells:=cells',qual:=env.qual,func:=none,code:=env.code,frame:=env.frame,builtins:=env.builtins} s'):
  wpAny (model prog w) A (newFunctionEnv scope env.globals closure [] env.qual none .none (some env)) Q E s:=by
 simp only [newFunctionEnv,Option.isSome_some,if_true];refine wpAny_bind (wpAny_alloc ?_);have x:=zK3 (o:={cls:= .type "dict",data:= .dict #[]}) rfl ⟨_,rfl⟩ I;refine wpAny_bind (wpAny_layCells _ (fun name kind cells=>by cases hkc:kind==NameKind.cell <;>simp [hkc]) _ _ _ _ ?_);obtain ⟨ρ',I',X',c'⟩:=zCs (names:=scope.names) (acc:=closure) (accA:=cl) x.1 (hc.mono x.2.preP);refine wpAny_bind ?_;rw [List.forIn_nil];refine wpAny_pure (wpAny_pure ?_);exact q _ _ _ _ I' (x.2.then x.1 X') c' (X'.preP _ _ (by rw [<-I.len,List.getElem?_append_right (Nat.le_refl _),Nat.sub_self]; rfl))
theorem zIp (X:EnvR ρ ae env)(scope:Scope):relabel scope env=xD scope ae:=by
 unfold relabel xD Env.kindOf;simp only [qV];rw [X.scope]
theorem vD (hr:Snd (model prog w) K n r)(hA:Rm A n){elt:Expr}{gens:List Comprehension}{scope:Scope}{pos ep:Pos}{v:V}(h:xP r elt gens scope ae σ=some (v,σ'))(X:EnvR ρ ae env)(I:Inv K ρ σ s){Q:Value->Shared->Prop}{E:Value->Shared->Prop}{use:Option (Value->Sem Unit)}
  (q:∀ρc s₃ a C mm,Inv K ρc σ' s₃->Ext ρ s ρc s₃->VR ρc s₃.heap v (.ref a)->C ∉ ρc->K.lookup C=none->s.heap.get? C=none->s₃.heap.Ns C mm->∀f,compPost (model prog w) A E use Q (.ref a) C (.ok f) s₃):
  wpAny (model prog w) A (comprehension (.ListComp elt gens scope ep) scope env pos (newList []) false (firstIter gens env) use) Q E s:=by
 unfold xP at h;split at h
 ·rename_i t it ifs as rest
  split at h
  ·cases h
  ·rename_i hc
   simp only [Bool.or_eq_true,not_or,Bool.not_eq_true,Bool.not_eq_false',bne_iff_ne,ne_eq,Classical.not_not] at hc;obtain ⟨⟨⟨c1,c2⟩,c3⟩,c4⟩:=hc;have c2:as=0:=by simpa using c2
   subst c2;have c3:∀g∈rest,g.is_async=0:=fun g hg=>by
    have:=List.any_eq_false.mp c3 g hg
    simpa using this
   unfold zFZ at c4;simp only [qV] at c4;simp only [Bool.and_eq_true,beq_iff_eq,List.all_eq_true,Bool.or_eq_true,bne_iff_ne,ne_eq] at c4;obtain ⟨hk,hnm⟩:=c4;split at h
   ·rename_i v₁ σ₁ h1
    split at h
    ·rename_i nx hx
     split at h
     ·rename_i σ₂ h2
      cases h;unfold zA4 at h2;split at h2
      ·rename_i cl hcl
       obtain ⟨l,el,_⟩:=zFT X hcl;refine wpAny_comprehension_free rfl (xZ c1) el hk (fun x hx hl=>(hnm x hx).resolve_left (fun z=>z hl)) ?_;have hx2:zIj v₁=some nx/\∀i,v₁= .trk i->(zS v₁ σ₁).isSome=true:=by
        unfold xF at hx;split at hx
        ·split at hx
         ·rename_i hl; exact ⟨hx,fun i e=>by cases e; rw [hl]; rfl⟩
         ·cases hx
        ·rename_i hne; exact ⟨hx,fun i e=>absurd e (hne i)⟩
       refine hr.e _ _ _ _ _ h1 A env ρ s hA X I _ _ fun ρ₁ s₁ x I₁ X₁ rx=>?_;refine zAQ hx2.1 I₁ rx hx2.2 fun itr s₂ St Pr m0 W I₂ X₂ hn hs hp _=>?_;have E₂:=(X.ext X₁).ext X₂;obtain ⟨l',el',cr⟩:=zFT E₂ hcl;have ell:l'=l:=by rw [el] at el'; injection el' with z; exact z.symm
       subst ell;refine wpAny_newList ?_ (Nat.zero_le _);obtain ⟨I₃,X₃⟩:=I₂.alloc (o:={cls:= .type "list",data:= .seq #[]}) (ob:= .list []) (tk:=s₂.toks) (.inr trivial) ⟨#[],0,Heap.get?_push_size _ rfl,rfl⟩;have ha:(ρ₁ ++ [s₂.heap.objs.size])[σ₁.length]? =some s₂.heap.objs.size:=by rw [<-I₂.len,List.getElem?_append_right (Nat.le_refl _),Nat.sub_self]; rfl
       generalize s₂.heap.objs.size=a at I₃ X₃ ha ⊢;generalize ρ₁ ++ [a]=ρ₃ at I₃ X₃ ha;generalize ({s₂ with heap:=s₂.heap.push {cls:= .type "list",data:= .seq #[]},toks:=s₂.toks}:Shared)=s₃ at I₃ X₃ ⊢;have X₁₃:Ext ρ₁ s₁ ρ₃ s₃:=X₂.then I₂ X₃;have hn₃:itr ∉ ρ₃:=uQ hs W X₃ hn;have hs₃:St 0 s₃.heap:=W.frame _ _ _ hs (kZ hs W X₃ hn);have hp₃:Pr ρ₃ s₃.heap:=W.prExt _ _ _ _ hp X₃;refine zEz I₃ (cr.mono X₃.preP) fun ρ₄ s₄ L cells' I₄ X₄ c' hL=>?_;rw [List.length_append] at hL;have hL:ρ₄[σ₁.length + 1]? =some L:=hL;rw [zIp X scope];have E₄:=(E₂.ext X₃).ext X₄;have EC:EnvR ρ₄ {scope:=xD scope ae,loc:=σ₁.length + 1,cells:=(zAm scope.names cl (σ₁ ++ [.list []] ++ [.ns []])).1,qual:=ae.qual,code:=ae.code} {scope:=xD scope ae,locals:=L,globals:=env.globals,cells:=cells',qual:=env.qual,func:=none,code:=env.code,frame:=env.frame,builtins:=env.builtins}:=
        ⟨rfl,hL,c',X.glob,X.bi,X.qual,X.code,hk⟩
       dsimp only at h2;split at h2
       ·rename_i σ₃ h3
        split at h2
        ·rename_i hb
         cases h2;simp only [Bool.and_eq_true] at hb;refine zBr rfl ?_ (fun Q E q=>W.self 0 _ _ _ _ (W.frame _ _ _ hs₃ (kZ hs₃ W X₄ hn₃)) q);refine zGK hr hA (d:=0) (gens:=⟨t,it,ifs,0⟩::rest) rfl c3 W m0 (zJ3 I₁ m0) h3 I₄ (X₁₃.then I₃ X₄) (uQ hs₃ W X₄ hn₃) (W.frame _ _ _ hs₃ (kZ hs₃ W X₄ hn₃)) (W.prExt _ _ _ _ hp₃ X₄) EC (X₄.preP _ _ ha) fun ρ' s' I' X' E' ha' f=>?_;have XT:=X₁.then I₁ X';have hlen:ρ.length<=σ₁.length:=by
          obtain ⟨l,hl⟩:=X₁.pre;have:=I₁.len;rw [hl] at this;simp at this; omega
         have hLL:ρ'[σ₁.length + 1]? =some L:=E'.loc;have hLm:L∈ρ':=List.mem_of_getElem? hLL;have hb1:=hb.1;unfold zIz at hb1;split at hb1
         ·rename_i kv hkv
          obtain ⟨mm,hns,_⟩:=I'.obs _ _ _ hLL hkv;refine q (ρ'.take (σ₁.length + 1)) s' a L mm (I'.take hb.2) (XT.take (Nat.le_succ_of_le hlen)) ?_ ?_ (I'.sep L hLm) (XT.new _ _ (Nat.le_succ_of_le hlen) hLL) hns f
          ·unfold VR; exact ⟨a,kR ha' (Nat.lt_succ_self _),rfl⟩
          ·intro hm
           obtain ⟨j,hj,e⟩:=List.getElem_of_mem hm;have hj':j < σ₁.length + 1:=by simp at hj; omega
           have e':ρ'[j]? =some L:=by
            have:=List.getElem?_eq_getElem hj;rw [e,List.getElem?_take] at this
            simpa [hj'] using this
           exact absurd (yQ I'.nd e' hLL) (by omega)
         ·cases hb1
        ·cases h2
       ·cases h2
      ·cases h2
     ·cases h
    ·cases h
   ·cases h
 ·cases h
end
end Mine
end
section
namespace Mine
def yM (x:Str)(ae:AE):Option (V×Sto)->Option (Fl×Sto)
 | some (v,σ₁)=>(match qA x v ae σ₁ with | some σ₂=>some (.next,σ₂) | none=>none)
 | none=>none
def qS (r:Rec)(x:Str)(e:Expr)(ae:AE)(σ:Sto):Option (Fl×Sto):=match e with
 | .ListComp elt gens scope _=>yM x ae (xP r elt gens scope ae σ)
 | .SetComp .. =>none
 | .DictComp .. =>none
 | e=>yM x ae (r.e e ae σ)
section
variable {prog:Program} {w:World} {A:Around} {K:Frag} {G:Gl} {O:Ops} {B:Bnd} {n:Nat} {r:Rec} {ρ:List Addr} {σ σ':Sto} {s:Shared} {ae:AE} {env:Env}
theorem zEH {h:Heap}{C:Addr}{mm:Str->Option Value}(hn:h.Ns C mm):∃o,h.get? C=some o/\¬Kpt o:=by
 obtain ⟨o,es,ep,ho,hd,_⟩:=hn;refine ⟨o,ho,?_⟩;rintro (⟨_,_,e⟩ | ⟨_,_,e⟩) <;>(rw [hd] at e; cases e)
theorem vY (hr:Snd (model prog w) K n r)(hA:Rm A n){elt:Expr}{gens:List Comprehension}{scope:Scope}{pos:Pos}{v:V}(h:xP r elt gens scope ae σ=some (v,σ'))(X:EnvR ρ ae env)(I:Inv K ρ σ s):SE (model prog w) A K ρ s (eval (.ListComp elt gens scope pos) env) v σ':=by
 intro Q E q;rw [eval_ListComp];have hf:firstAsync gens=false:=by
  unfold xP at h;split at h
  ·split at h
   ·cases h
   ·rename_i hc
    simp only [Bool.or_eq_true,not_or] at hc;simp only [firstAsync]
    simpa using hc.1.1.2
  ·rfl
 rw [hf];refine vD hr hA h X I fun ρc s₃ a C mm Ic Xc rc hC hK h0 hns f=>?_;obtain ⟨o,ho,hk⟩:=zEH hns;refine ⟨mm,hns,fun h' hb=>?_⟩;exact q _ _ _ (Ic.but (tk:=s₃.toks) hC hK ho hk hb.extBut) (Xc.itr h0 hb.extBut) (rc.but ho hk hb.extBut)
theorem wL {x:Str}{p:Pos}{v:V}{f:Fl}(h:yM x ae (some (v,σ))=some (f,σ'))(X:EnvR ρ ae env)(I:Inv K ρ σ s){y:Value}(ry:VR ρ s.heap v y){Q:Unit->Shared->Prop}{E:Value->Shared->Prop}
  (q:f= .next->zMa K ρ s () σ' Q):wpAny (model prog w) A (storeName env x y) Q E s:=by
 unfold yM at h;split at h
 ·rename_i h1
  split at h
  ·rename_i h2
   rename_i v₂ σ₂ _;cases h1;cases h;exact xH h2 X I ry _ _ (q rfl)
  ·cases h
 ·cases h
theorem zCA (hr:Snd (model prog w) K n r)(hA:Rm A n){x:Str}{e:Expr}{p pos:Pos}{f:Fl}(h:qS r x e ae σ=some (f,σ'))(X:EnvR ρ ae env)(I:Inv K ρ σ s):SX (model prog w) A K ρ s (exec (.Assign [.Name x p] e pos) env) f σ':=by
 intro Q E q;have fnext:∀{o:Option (V×Sto)},yM x ae o=some (f,σ')->f= .next/\∃v σ₁,o=some (v,σ₁):=by
  intro o h;unfold yM at h;split at h
  ·split at h
   ·cases h; exact ⟨rfl,_,_,rfl⟩
   ·cases h
  ·cases h
 have plain:∀{o:Option (V×Sto)},(∀v σ₁,o=some (v,σ₁)->SE (model prog w) A K ρ s (eval e env) v σ₁)->yM x ae o=some (f,σ')->swapsWith e (some (.Name x p)) pos.line env=pure false->wpAny (model prog w) A (exec (.Assign [.Name x p] e pos) env) Q E s:=by
  intro o ho h hs;obtain ⟨rfl,v,σ₁,rfl⟩:=fnext h;refine wpAny_Assign_Name (ho _ _ rfl _ _ fun ρ₁ s₁ y I₁ X₁ ry=>?_) hs;exact wL (p:=p) h (X.ext X₁) I₁ ry fun _ ρ₂ s₂ I₂ X₂=>q _ _ _ I₂ (X₁.then I₁ X₂) .next
 cases hce:xL e with
 | false=>
  have he:qS r x e ae σ=yM x ae (r.e e ae σ):=by cases e <;>first | rfl | cases hce
  rw [he] at h;refine plain (o:=r.e e ae σ) (fun v σ₁ ho=>hr.e _ _ _ _ _ ho A env ρ s hA X I) h ?_;cases e <;>first | rfl | cases hce
 | true=>
 clear plain;have plain:∀{o:Option (V×Sto)},(∀v σ₁,o=some (v,σ₁)->SE (model prog w) A K ρ s (eval e env) v σ₁)->yM x ae o=some (f,σ')->swapsWith e (some (.Name x p)) pos.line env=pure false->wpAny (model prog w) A (exec (.Assign [.Name x p] e pos) env) Q E s:=by
  intro o ho h hs;obtain ⟨rfl,v,σ₁,rfl⟩:=fnext h;refine wpAny_Assign_Name (ho _ _ rfl _ _ fun ρ₁ s₁ y I₁ X₁ ry=>?_) hs;exact wL (p:=p) h (X.ext X₁) I₁ ry fun _ ρ₂ s₂ I₂ X₂=>q _ _ _ I₂ (X₁.then I₁ X₂) .next
 cases e <;>try (cases hce; done)
 ·rename_i elt gens scope cp
  unfold qS at h;dsimp only at h;have hsw:∃b,swapsWith (.ListComp elt gens scope cp) (some (.Name x p)) pos.line env=pure b:=⟨_,rfl⟩;obtain ⟨b,hsw⟩:=hsw;obtain ⟨rfl,v,σ₁,ho⟩:=fnext h;rw [ho] at h;cases b with
  | false=>exact plain (o:=xP r elt gens scope ae σ) (fun v σ₁ e=>vY hr hA e X I) (by rw [ho]; exact h) hsw
  | true=>
   rw [exec_Assign_Name_used _ _ _ _ hsw];refine wpAny_bind (wpAny_standAt (wpAny_bind ?_));have hf:firstAsync gens=false:=by
    have h:=ho;unfold xP at h;split at h
    ·split at h
     ·cases h
     ·rename_i hc
      simp only [Bool.or_eq_true,not_or] at hc;simp only [firstAsync]
      simpa using hc.1.1.2
    ·rfl
   rw [arm_evalThenUse_ListComp];rw [hf];refine wpAny_bind (vD hr hA ho X I fun ρc s₃ a C mm Ic Xc rc hC hK h0 hns f=>?_);show wpAny (model prog w) A (assign (.Name x p) env (.ref a)) _ E s₃;refine wpAny_assign_Name (wL (p:=p) h (X.ext Xc) Ic rc fun _ ρ₄ s₄ I₄ X₄=>?_);obtain ⟨o,ho',hk⟩:=zEH hns;have ho4:=X₄.keep C o hC ho';refine ⟨mm,?_,fun h' hb=>?_⟩
   ·obtain ⟨o1,es,ep,h1,r1⟩:=hns
    exact ⟨o1,es,ep,X₄.keep C o1 hC h1,r1⟩
   ·refine wpAny_pure (wpAny_pure ?_)
    exact q _ _ _ (I₄.but (tk:=s₄.toks) (X₄.notin hC ho') hK ho4 hk hb.extBut) ((Xc.then Ic X₄).itr h0 hb.extBut) .next
 ·cases h
 ·cases h
end
end Mine
end
section
namespace Mine
def zHg (O:Ops)(op:CmpOp)(a b:V)(σ:Sto):Option (V×Sto):=(zCS O op a b σ).map fun c=>(.bool c,σ)
def yP (O:Ops)(r:Rec):V->List CmpOp->List Expr->AE->Sto->Option (V×Sto)
 | qC,[op],[e],ae,σ=>(match r.e e ae σ with | some (y,σ₁)=>zHg O op qC y σ₁ | none=>none)
 | qC,op::op'::ops,e::e'::es,ae,σ=>(match r.e e ae σ with
  | some (y,σ₁)=>(match zCS O op qC y σ₁ with
   | some true=>yP O r y (op'::ops) (e'::es) ae σ₁
   | some false=>some (.bool false,σ₁)
   | none=>none)
  | none=>none)
 | _,_,_,_,_=>none
def wG (O:Ops)(r:Rec)(l:Expr)(ops:List CmpOp)(rs:List Expr)(ae:AE)(σ:Sto):Option (V×Sto):=match ops,rs with
 | [op],[x]=>if yB x then none else uE r (zHg O op) l x ae σ
 | op₁::op₂::ops,x::y::rs=>if (x::y::rs).any yB then none else (match r.e l ae σ with
  | some (v,σ₁)=>yP O r v (op₁::op₂::ops) (x::y::rs) ae σ₁
  | none=>none)
 | _,_=>none
section
variable {prog:Program} {w:World} {A:Around} {K:Frag} {G:Gl} {O:Ops} {B:Bnd} {n:Nat} {r:Rec} {ρ:List Addr} {σ σ':Sto} {s:Shared} {ae:AE} {env:Env}
theorem zFM {op:CmpOp}{x:Expr}(h:yB x=false):behindInMarks op x=false:=by cases x <;>first | rfl | cases h
theorem zL0:∀(ops:List CmpOp) (xs:List Expr),xs.any yB=false->lastMarks ops xs=false
 | [],xs,_=>by unfold lastMarks; rfl
 | _::_,[],_=>by cases ‹List CmpOp› <;>(unfold lastMarks; rfl)
 | [op],[e],h=>by unfold lastMarks; exact zFM (by simpa using h)
 | [op],e::e'::es,h=>by
  unfold lastMarks;unfold lastMarks;rfl
 | _::op::ops,e::es,h=>by
  unfold lastMarks;have h':es.any yB=false:=by
   simp only [List.any_cons,Bool.or_eq_false_iff] at h; exact h.2
  exact zL0 (op::ops) es h'
theorem zAz (OO:OpsOK prog w K O)(hA:A.units + 65 < cLine){op:CmpOp}{a b v:V}(h:zHg O op a b σ=some (v,σ')){x y:Value}(I:Inv K ρ σ s)(ra:VR ρ s.heap a x)(rb:VR ρ s.heap b y):SE (model prog w) A K ρ s (compareOp op x y) v σ':=by
 unfold zHg at h;obtain ⟨c,hc,e⟩:=Option.map_eq_some_iff.mp h;cases e;exact zBW OO hA hc I ra rb
theorem zB5 (OO:OpsOK prog w K O)(hu:A.units + 65 < cLine)(hr:Snd (model prog w) K n r)(hA:Rm A n){pos:Pos}:∀{ops:List CmpOp} {xs:List Expr} {qC v:V} {x:Value} {σ:Sto} {ρ:List Addr} {s:Shared},yP O r qC ops xs ae σ=some (v,σ')->EnvR ρ ae env->Inv K ρ σ s->VR ρ s.heap qC x->
  SE (model prog w) A K ρ s (compareChain pos x ops (evalEach xs env)) v σ'
 | [],_,_,_,_,_,_,_,h,_,_,_=>by unfold yP at h; cases h
 | [op],[],_,_,_,_,_,_,h,_,_,_=>by unfold yP at h; cases h
 | [op],[e],qC,v,x,σ,ρ,s,h,X,I,rx=>by
  intro Q E q;unfold yP at h;split at h
  ·rename_i y σ₁ h1
   refine chain_last (hr.e _ _ _ _ _ h1 A env ρ s hA X I _ _ fun ρ₁ s₁ z I₁ X₁ rz=>?_);exact zAz OO hu h I₁ (rx.ext X₁) rz _ _ fun ρ₂ s₂ u I₂ X₂ ru=>q _ _ _ I₂ (X₁.then I₁ X₂) ru
  ·cases h
 | [op],_::_::_,_,_,_,_,_,_,h,_,_,_=>by unfold yP at h; cases h
 | op::op'::ops,[],_,_,_,_,_,_,h,_,_,_=>by unfold yP at h; cases h
 | op::op'::ops,[e],_,_,_,_,_,_,h,_,_,_=>by unfold yP at h; cases h
 | op::op'::ops,e::e'::es,qC,v,x,σ,ρ,s,h,X,I,rx=>by
  intro Q E q;unfold yP at h;split at h
  ·rename_i y σ₁ h1
   refine chain_link (hr.e _ _ _ _ _ h1 A env ρ s hA X I _ _ fun ρ₁ s₁ z I₁ X₁ rz=>?_);split at h
   ·rename_i hc
    refine zBW OO hu hc I₁ (rx.ext X₁) rz _ _ fun ρ₂ s₂ u I₂ X₂ ru=>?_;cases vrB ru;refine wpAny_truthy_bool ?_;rw [if_pos rfl];have X₂':=X₁.then I₁ X₂;exact zB5 OO hu hr hA h (X.ext X₂') I₂ (rz.ext X₂) _ _ fun ρ₃ s₃ u I₃ X₃ ru=>q _ _ _ I₃ (X₂'.then I₂ X₃) ru
   ·rename_i hc
    cases h;refine zBW OO hu hc I₁ (rx.ext X₁) rz _ _ fun ρ₂ s₂ u I₂ X₂ ru=>?_;cases vrB ru;refine wpAny_truthy_bool ?_;rw [if_neg Bool.false_ne_true];exact q _ _ _ I₂ (X₁.then I₁ X₂) kI
   ·cases h
  ·cases h
theorem zEt (OO:OpsOK prog w K O)(hu:A.units + 65 < cLine)(hr:Snd (model prog w) K n r)(hA:Rm A n){l:Expr}{ops:List CmpOp}{rs:List Expr}{pos:Pos}{v:V}(h:wG O r l ops rs ae σ=some (v,σ'))(X:EnvR ρ ae env)(I:Inv K ρ σ s):
  SE (model prog w) A K ρ s (eval (.Compare l ops rs pos) env) v σ':=by
 intro Q E q;unfold wG at h;split at h
 ·rename_i op x
  split at h
  ·cases h
  ·rename_i hs
   refine wpAny_Compare1 (zAF hr hA (fun a b σ v σ' h ρ s x y I ra rb=>zAz OO hu h I ra rb) h X I Q E q) (zFM (by simpa using hs))
 ·rename_i op₁ op₂ ops x y rs
  split at h
  ·cases h
  ·rename_i hs
   split at h
   ·rename_i v₁ σ₁ h1
    refine Compare_chain (hr.e _ _ _ _ _ h1 A env ρ s hA X I _ _ fun ρ₁ s₁ z I₁ X₁ rz=>?_) (zL0 _ _ (by simpa using hs));exact zB5 OO hu hr hA h (X.ext X₁) I₁ rz _ _ fun ρ₂ s₂ u I₂ X₂ ru=>q _ _ _ I₂ (X₁.then I₁ X₂) ru
   ·cases h
 ·cases h
def zBa (O:Ops)(r:Rec)(l:Expr)(op:CmpOp)(x:Expr)(ae:AE)(σ:Sto):Option (Bool×Sto):=if yB x then none else match uE r (zHg O op) l x ae σ with
 | some (.bool b,σ₁)=>some (b,σ₁)
 | _=>none
theorem zGB (OO:OpsOK prog w K O)(hu:A.units + 65 < cLine)(hr:Snd (model prog w) K n r)(hA:Rm A n){l x:Expr}{op:CmpOp}{pos:Pos}{b:Bool}{whole:Sem Value}(h:zBa O r l op x ae σ=some (b,σ'))(X:EnvR ρ ae env)(I:Inv K ρ σ s):
  SB (model prog w) A K ρ s (PySem.isTrue (.Compare l [op] [x] pos) env whole) b σ':=by
 intro Q E q;unfold zBa at h;split at h
 ·cases h
 ·rename_i hs
  split at h
  ·rename_i b' σ₁ h1
   cases h;refine wpAny_isTrue_Compare1 ?_ (zFM (by simpa using hs));have z:=zAF (A:=A) (prog:=prog) (w:=w) (env:=env) hr hA (op:=compareOp op) (fun a b σ v σ' h ρ s x y I ra rb=>zAz OO hu h I ra rb) h1 X I (fun c s₃=>wpAny (model prog w) A (truthy c) Q E s₃) E fun ρ' s' y I' X' ry=>?_
   ·exact z
   ·cases vrB ry
    exact wpAny_truthy_bool (q _ _ I' X')
  ·cases h
end
end Mine
end
section
namespace Mine
def zBN (r:Rec):Option Expr->AE->Sto->Option (V×Sto)
 | none,_,σ=>some (.none,σ)
 | some e,ae,σ=>r.e e ae σ
def zET (r:Rec)(value slice:Expr)(ae:AE)(σ:Sto):Option (V×Sto):=match slice with
 | .Slice lo up none _=>(match r.e value ae σ with
  | some (o,σ₁)=>(match zBN r lo ae σ₁ with
   | some (a,σ₂)=>(match zBN r up ae σ₂ with
    | some (b,σ₃)=>(match zAf a,zAf b with
     | some pl,some pu=>zGc o pl pu σ₃
     | _,_=>none)
    | none=>none)
   | none=>none)
  | none=>none)
 | .Slice _ _ (some _) _=>none
 | i=>(match r.e value ae σ with
  | some (o,σ₁)=>(match r.e i ae σ₁ with
   | some (k,σ₂)=>(wH o k σ₂).map (·,σ₂)
   | none=>none)
  | none=>none)
section
variable {prog:Program} {w:World} {A:Around} {K:Frag} {G:Gl} {O:Ops} {B:Bnd} {n:Nat} {r:Rec} {ρ:List Addr} {σ σ':Sto} {s:Shared} {ae:AE} {env:Env}
theorem zDL (hr:Snd (model prog w) K n r)(hA:Rm A n){e:Option Expr}{v:V}(h:zBN r e ae σ=some (v,σ'))(X:EnvR ρ ae env)(I:Inv K ρ σ s):SE (model prog w) A K ρ s (evalPart e env) v σ':=by
 intro Q E q;cases e with
 | none=>cases h; exact wpAny_evalPart_none (q _ _ _ I (.refl _ _) qY)
 | some e=>exact wpAny_evalPart_some (hr.e _ _ _ _ _ h A env ρ s hA X I Q E q)
def zFO:Expr->Bool
 | .Slice .. =>true
 | _=>false
theorem zKt (hr:Snd (model prog w) K n r)(hA:Rm A n){value slice:Expr}{pos:Pos}{v:V}(h:zET r value slice ae σ=some (v,σ'))(X:EnvR ρ ae env)(I:Inv K ρ σ s):SE (model prog w) A K ρ s (eval (.Subscript value slice pos) env) v σ':=by
 intro Q E q;cases hsl:zFO slice with
 | false=>
  have he:zET r value slice ae σ=(match r.e value ae σ with
   | some (o,σ₁)=>(match r.e slice ae σ₁ with
    | some (k,σ₂)=>(wH o k σ₂).map (·,σ₂)
    | none=>none)
   | none=>none):=by cases slice <;>first | rfl | cases hsl
  rw [he] at h;split at h
  ·rename_i o σ₁ h1
   split at h
   ·rename_i k σ₂ h2
    obtain ⟨u,hu,e⟩:=Option.map_eq_some_iff.mp h;cases e;refine kG (fun a b c p=> .inl fun z=>by subst z; cases hsl) ?_;refine hr.e _ _ _ _ _ h1 A env ρ s hA X I _ _ fun ρ₁ s₁ x I₁ X₁ rx=>?_;refine hr.e _ _ _ _ _ h2 A env _ _ hA (X.ext X₁) I₁ _ _ fun ρ₂ s₂ y I₂ X₂ ry=>?_;exact zE7 hu I₂ (rx.ext X₂) ry fun ρ₃ s₃ z I₃ X₃ rz=>q _ _ _ I₃ ((X₁.then I₁ X₂).then I₂ X₃) rz
   ·cases h
  ·cases h
 | true=>
  cases slice <;>try (cases hsl; done)
  rename_i lo up st p;cases st with
  | some st=>cases h
  | none=>
   unfold zET at h;dsimp only at h;split at h
   ·rename_i o σ₁ h1
    split at h
    ·rename_i a σ₂ h2
     split at h
     ·rename_i b σ₃ h3
      split at h
      ·rename_i pl pu hl hu
       refine kG (fun a b c p'=>by
        cases c with
        | none=>exact .inr rfl
        | some c=>exact .inl (fun z=>by cases z)) ?_
       refine hr.e _ _ _ _ _ h1 A env ρ s hA X I _ _ fun ρ₁ s₁ x I₁ X₁ rx=>?_;refine wpAny_Slice (zDL hr hA h2 (X.ext X₁) I₁ _ _ fun ρ₂ s₂ y I₂ X₂ ry=>?_);have X₂':=X₁.then I₁ X₂;refine zDL hr hA h3 (X.ext X₂') I₂ _ _ fun ρ₃ s₃ z I₃ X₃ rz=>?_;have X₃':=X₂'.then I₂ X₃;refine wpAny_evalPart_none ?_;exact zG3 h hl hu I₃ ((rx.ext X₂).ext X₃) (ry.ext X₃) rz fun ρ₄ s₄ u I₄ X₄ ru=>q _ _ _ I₄ (X₃'.then I₃ X₄) ru
      ·cases h
     ·cases h
    ·cases h
   ·cases h
end
end Mine
end
section
namespace Mine
abbrev Mth:=V->Str->Sto->Option (V×List V)
structure MthOK (prog:Program) (w:World) (K:Frag) (m:Mth):Prop where
 get:∀u name σ f first,m u name σ=some (f,first)->∀A ρ s x pl,A.units + 65 < cLine->Inv K ρ σ s->VR ρ s.heap u x->∀(Q:Value×List Value->Shared->Prop) (E:Value->Shared->Prop),
  (∀s' y ys,Inv K ρ σ s'->Ext ρ s ρ s'->VR ρ s'.heap f y->VRs ρ s'.heap first ys->Q (y,ys) s')->wpAny (model prog w) A (getMethod x name pl) Q E s
def uC:Expr->Bool
 | .Call (.Name _ _) [] [] _=>true
 | _=>false
theorem zJw {o:Expr}{name:Str}{env:Env}{whole:Sem Value}(h:uC o=false):attributeBase o name env whole=whole:=by
 unfold attributeBase;split
 ·rename_i id p pos; cases h
 ·rfl
def zCC (kp kf:Addr->Bool)(m:Mth)(r:Rec)(o:Expr)(name:Str)(apos pos:Pos)(args:List Expr)(kws:List Keyword)(ae:AE)(σ:Sto):Option (V×Sto):=
 if uC o || !(apos.endLine==pos.line) || !decide (args.length + kws.length < 29) then none else
 match r.e o ae σ with
 | some (u,σ₁)=>(match m u name σ₁ with
  | some (f,first)=>(match wI r args kws ae σ₁ with
   | some (vs,l,σ₂)=>if zIN kp kf f σ₂ then r.c f (first ++ vs) l σ₂ else none
   | none=>none)
  | none=>none)
 | none=>none
section
variable {prog:Program} {w:World} {A:Around} {K:Frag} {G:Gl} {O:Ops} {B:Bnd} {n:Nat} {r:Rec} {ρ:List Addr} {σ σ':Sto} {s:Shared} {ae:AE} {env:Env}
theorem zHu (hr:Snd (model prog w) K n r)(hA:Rm A n)(hu:A.units + 65 < cLine){kp kf:Addr->Bool}(KO:KeepOK K kp kf){m:Mth}(MO:MthOK prog w K m){o:Expr}{name:Str}{apos pos:Pos}{args:List Expr}{kws:List Keyword}{v:V}
  (h:zCC kp kf m r o name apos pos args kws ae σ=some (v,σ')) (X:EnvR ρ ae env) (I:Inv K ρ σ s):SE (model prog w) A K ρ s (eval (.Call (.Attribute o name apos) args kws pos) env) v σ':=by
 intro Q E q;unfold zCC at h;split at h
 ·cases h
 ·rename_i hc
  simp only [Bool.or_eq_true,not_or,Bool.not_eq_true,Bool.not_eq_false',Bool.not_eq_eq_eq_not,Bool.not_true,Bool.not_false,decide_eq_true_eq] at hc;obtain ⟨⟨c1,c2⟩,c3⟩:=hc;have c3:args.length + kws.length < 29:=by simpa using c3
  split at h
  ·rename_i u σ₁ h1
   split at h
   ·rename_i f first h2
    split at h
    ·rename_i vs l σ₂ h3
     split at h
     ·rename_i h4
      rw [arm_eval_Call,zJw c1];refine wpAny_bind (hr.e _ _ _ _ _ h1 A env ρ s hA X I _ _ fun ρ₁ s₁ x I₁ X₁ rx=>?_);refine wpAny_bind (wpAny_standAt ?_);have hform:methodCallForm (args.length + kws.length) (backTo pos (starEach args env)) (backToKw pos (keywordEach kws env))=true:=by
       have Z:=(zDP (pos:=pos) hr hA h3 (X.ext X₁) I₁ x (fun _ _=>True) (fun _ _=>True) fun _ _ _ _ _ _ _ _=>trivial).1;simp only [Bool.or_eq_false_iff] at Z;unfold methodCallForm;simp only [Bool.and_eq_true,decide_eq_true_eq];refine ⟨⟨?_,?_⟩,?_⟩
       ·rw [List.all_eq_true]; intro y hy; have:=List.any_eq_false.mp Z.1 y hy; simpa using this
       ·rw [List.all_eq_true]; intro y hy; have:=List.any_eq_false.mp Z.2 y hy; simpa [Option.isNone_iff_eq_none,Option.isSome_iff_ne_none] using this
       ·split <;>omega
      have hpos:methodCallPos true o env apos pos=pure pos:=by unfold methodCallPos; simp [c2]
      unfold methodCall;rw [hform];refine wpAny_bind (wpAny_holding (MO.get _ _ _ _ _ h2 _ _ _ _ _ hu I₁ rx _ _ fun s₂ y ys I₂ X₂ ry rys=>?_));refine wpAny_bind (wpAny_of_eq hpos ?_);have X₂':=X₁.then I₁ X₂;exact uA hr hA KO h3 h4 h (X.ext X₂') I₂ ry rys _ _ fun ρ₃ s₃ z I₃ X₃ rz=>q _ _ _ I₃ (X₂'.then I₂ X₃) rz
     ·cases h
    ·cases h
   ·cases h
  ·cases h
end
end Mine
end
section
namespace Mine
def zIF:List (Str×String):=[(Str.ofString "lower","str.lower"),(Str.ofString "upper","str.upper"),(Str.ofString "join","str.join"),(Str.ofString "replace","str.replace"),(Str.ofString "split","str.split"),(Str.ofString "count","str.count"),(Str.ofString "index","str.index")]
def zIA:List (Str×String):=[(Str.ofString "append","list.append"),(Str.ofString "pop","list.pop"),(Str.ofString "sort","list.sort"),(Str.ofString "reverse","list.reverse")]
theorem zJ0:∀p∈zIF,Slot "str" p.1 p.2/\typeOf (.builtin p.2)=pure (.type "method_descriptor"):=by
 intro p hp;simp only [zIF,List.mem_cons,List.not_mem_nil,or_false] at hp;rcases hp with rfl | rfl | rfl | rfl | rfl | rfl | rfl
 ·exact ⟨F.slot_str_lower,F.type_str_lower⟩
 ·exact ⟨F.slot_str_upper,F.type_str_upper⟩
 ·exact ⟨F.slot_str_join,F.type_str_join⟩
 ·exact ⟨F.slot_str_replace,F.type_str_replace⟩
 ·exact ⟨F.slot_str_split,F.type_str_split⟩
 ·exact ⟨F.slot_str_count,F.type_str_count⟩
 ·exact ⟨F.slot_str_index,F.type_str_index⟩
theorem zKX:∀p∈zIA,Slot "list" p.1 p.2/\typeOf (.builtin p.2)=pure (.type "method_descriptor"):=by
 intro p hp;simp only [zIA,List.mem_cons,List.not_mem_nil,or_false] at hp;rcases hp with rfl | rfl | rfl | rfl
 ·exact ⟨F.slot_list_append,F.type_list_append⟩
 ·exact ⟨F.slot_list_pop,F.type_list_pop⟩
 ·exact ⟨F.slot_list_sort,F.type_list_sort⟩
 ·exact ⟨F.slot_list_reverse,F.type_list_reverse⟩
def zPj:Mth:=fun u name σ=>match u with
 | .str x=>(lkS zIF name).map fun id=>(.val (.builtin id),[.str x])
 | u=>(match zS u σ with
  | some _=>(lkS zIA name).map fun id=>(.val (.builtin id),[u])
  | none=>none)
section
variable {prog:Program} {w:World} {A:Around} {K:Frag} {ρ:List Addr} {σ σ':Sto} {s:Shared}
theorem wS {h:Heap}{v:Value}:VR ρ h (.val v) v:=by unfold VR; rfl
theorem zNb:MthOK prog w K zPj:=⟨by
 intro u name σ f first h A ρ s x pl hu I rx Q E q
 unfold zPj at h;simp only [qV] at h;split at h
 ·rename_i y
  obtain ⟨id,hid,e⟩:=Option.map_eq_some_iff.mp h;cases e;obtain ⟨h1,h2⟩:=zJ0 _ (mem_of_lookup hid);obtain ⟨t,rfl⟩:=vrS rx;exact getMethod_builtin (typeIs_str s y t) F.plainAttrs_str h1 h2 (fun a e=>by cases e) (q s _ _ I (.refl _ _) wS (VRs.one qJ))
 ·split at h
  ·rename_i l hl
   obtain ⟨id,hid,e⟩:=Option.map_eq_some_iff.mp h;cases e;obtain ⟨h1,h2⟩:=zKX _ (mem_of_lookup hid);obtain ⟨a,items,n,rfl,ho,rs⟩:=yI I hl rx;exact getMethod_builtin ⟨_,ho,rfl⟩ F.plainAttrs_list h1 h2 (fun b e=>by cases e; exact ⟨_,ho,rfl⟩) (q s _ _ I (.refl _ _) wS (VRs.one rx))
  ·cases h⟩
end
end Mine
end
section
namespace Mine
def vM (id:String)(args:List V)(σ:Sto):Option (V×Sto):=match args with
 | [.str x]=>
  if id=="len" then (if x.length < 2 ^ 63 then some (.int x.length,σ) else none)
  else if id=="ord" then (match x.cps.toList with | [c]=>some (.int c,σ) | _=>none)
  else none
 | [.int i]=>
  if id=="chr" then (if decide (i < 0) || decide (i >1114111) then none else some (.str ⟨#[i.toNat]⟩,σ))
  else if id=="abs" then some (.int (if i < 0 then -i else i),σ)
  else none
 | [.tup l]=>if id=="len" then (if l.length < 2 ^ 63 then some (.int l.length,σ) else none) else none
 | _=>none
section
variable {prog:Program} {w:World} {A:Around} {K:Frag} {ρ:List Addr} {σ σ':Sto} {s:Shared}
theorem zF {v:V}{xs:List Value}(r:VRs ρ s.heap [v] xs):∃x,xs=[x]/\VR ρ s.heap v x:=by
 unfold VRs at r;obtain ⟨y,ys,rfl,a,b⟩:=r;unfold VRs at b;subst b;exact ⟨y,rfl,a⟩
theorem zDN {id:String}{args:List V}{v:V}(h:vM id args σ=some (v,σ'))(I:Inv K ρ σ s){xs:List Value}(rs:VRs ρ s.heap args xs):SE (model prog w) A K ρ s (call (.builtin id) xs) v σ':=by
 intro Q E q;unfold vM at h;split at h
 ·rename_i x
  obtain ⟨y,rfl,ry⟩:=zF rs;obtain ⟨t,rfl⟩:=vrS ry;split at h
  ·rename_i hid
   rw [beq_iff_eq] at hid; subst hid;split at h
   ·cases h; exact P.len_str (by omega) (SE.tok I qK q)
   ·cases h
  ·split at h
   ·rename_i hid
    rw [beq_iff_eq] at hid; subst hid;split at h
    ·rename_i c hc
     cases h;have e:x=⟨#[c]⟩:=by
      obtain ⟨a⟩:=x;have:a=#[c]:=by apply Array.ext'; simpa using hc
      rw [this]
     subst e;exact P.ord_of_char (SE.tok I qK q)
    ·cases h
   ·cases h
 ·rename_i i
  obtain ⟨y,rfl,ry⟩:=zF rs;obtain ⟨t,rfl⟩:=vrI ry;split at h
  ·rename_i hid
   rw [beq_iff_eq] at hid; subst hid;split at h
   ·cases h
   ·rename_i hc; cases h; exact P.chr_of_int (by simpa using hc) (SE.tok I qJ q)
  ·split at h
   ·rename_i hid
    rw [beq_iff_eq] at hid; subst hid;cases h;exact call_abs_int fun u tk=>SE.tok I qK q
   ·cases h
 ·rename_i l
  obtain ⟨y,rfl,ry⟩:=zF rs;obtain ⟨a,items,k,rfl,_,ho,r2⟩:=vE ry;have e:=r2.length;simp only [Array.length_toList] at e;split at h
  ·rename_i hid
   rw [beq_iff_eq] at hid; subst hid;split at h
   ·cases h
    refine P.len_tuple ho (by omega) ?_;rw [<-e]; exact SE.tok I qK q
   ·cases h
  ·cases h
 ·cases h
end
end Mine
end
section
namespace Mine
def zCb (id:String)(args:List V)(σ:Sto):Option (V×Sto):=match args with
 | [.trk i,v]=>if id=="list.append" then (zCd i v σ).map (.none,·) else none
 | [.trk i]=>(match σ[i]? with
  | some (.list l)=>
   if id=="list.reverse" then (if l.length<=1000 then some (.none,σ.set i (.list l.reverse)) else none)
   else none
  | some (.stk b l)=>
   if id=="list.reverse" then (if b<=1000 then some (.none,σ.set i (.stk b l.reverse)) else none)
   else none
  | _=>none)
 | _=>none
section
variable {prog:Program} {w:World} {A:Around} {K:Frag} {ρ:List Addr} {σ σ':Sto} {s:Shared}
theorem Inv.same {i:Nat}{ob ob':Ob}(I:Inv K ρ σ s)(hi:σ[i]? =some ob)(z:∀a,ObR ρ s.heap a ob->ObR ρ s.heap a ob'):Inv K ρ (σ.set i ob') s:=by
 refine ⟨by rw [List.length_set]; exact I.len,I.nd,fun j a o e1 e2=>?_,I.stat,I.sep,I.gens⟩
 by_cases hj:j=i
 ·subst hj
  rw [List.getElem?_set_self (List.getElem?_eq_some_iff.mp hi).1] at e2;cases e2;exact z a (I.obs _ a _ e1 hi)
 ·rw [List.getElem?_set_ne (fun z=>hj z.symm)] at e2
  exact I.obs _ a _ e1 e2
theorem zDc {i:Nat}{l:List V}(hl:σ[i]? =some (.list l))(hz:l.length<=1000)(I:Inv K ρ σ s){a:Addr}(ha:ρ[i]? =some a):SE (model prog w) A K ρ s (call (.builtin "list.reverse") [.ref a]) .none (σ.set i (.list l.reverse)):=by
 intro Q E q;obtain ⟨items,k,ho,r2⟩:=I.obs _ a _ ha hl;have e:=r2.length;simp only [Array.length_toList] at e;have z:=I.updList (f:=fun xs=>xs.reverse) (l':=l.reverse) (tk:=s.toks) ha ho (by rw [Array.toList_reverse]; exact r2.reverse);exact call_meets F.slot_list_reverse ⟨_,ho,rfl⟩ F.entry_list_reverse (F.args_list_reverse_1 _) (AutoSeq1.list_reverse_list_0 a items k (zQ (by omega))) ⟨ho,q _ _ _ z.1 z.2 qY⟩
theorem zHp {id:String}{args:List V}{v:V}(h:zCb id args σ=some (v,σ'))(I:Inv K ρ σ s){xs:List Value}(rs:VRs ρ s.heap args xs):SE (model prog w) A K ρ s (call (.builtin id) xs) v σ':=by
 intro Q E q;unfold zCb at h;split at h
 ·rename_i i v'
  unfold VRs at rs;obtain ⟨y,ys,rfl,ry,rys⟩:=rs;obtain ⟨z,rfl,rz⟩:=zF rys;obtain ⟨a,ha,rfl⟩:=vrT ry;split at h
  ·rename_i hid
   rw [beq_iff_eq] at hid; subst hid;obtain ⟨σ₁,hp,e⟩:=Option.map_eq_some_iff.mp h;cases e;exact zDv hp I ha rz fun s' I' X'=>q _ _ _ I' X' qY
  ·cases h
 ·rename_i i
  obtain ⟨y,rfl,ry⟩:=zF rs;obtain ⟨a,ha,rfl⟩:=vrT ry;split at h
  ·rename_i l hl
   split at h
   ·rename_i hid
    rw [beq_iff_eq] at hid; subst hid;split at h
    ·rename_i hz
     cases h;exact zDc hl hz I ha Q E q
    ·cases h
   ·cases h
  ·rename_i b l hl
   split at h
   ·rename_i hid
    rw [beq_iff_eq] at hid; subst hid;split at h
    ·rename_i hb
     cases h;have hlt:i < σ.length:=(List.getElem?_eq_some_iff.mp hl).1;obtain ⟨hz,_⟩:=I.obs _ a _ ha hl;have I':=I.same (ob':= .list (qH l)) hl fun a r=>r.2;have e1:(qH l).reverse=qH l.reverse:=by simp [qH]
     refine zDc (σ:=σ.set i (.list (qH l))) (List.getElem?_set_self hlt) (by simp [qH]; omega) I' ha Q E fun ρ' s' x J X r=>?_;have z:=J.same (ob':= .stk b l.reverse) (List.getElem?_set_self (by simpa using hlt)) fun a r=>⟨by simpa using hz,e1▸r⟩;rw [List.set_set,List.set_set] at z;exact q ρ' s' x z X r
    ·cases h
   ·cases h
  ·cases h
 ·cases h
end
end Mine
end
section
namespace Mine
def zLw (i:Nat)(σ:Sto):Option (V×Sto):=match σ[i]? with
 | some (.list l)=>if l.length<=1000 then (l.getLast?).map fun v=>(v,σ.set i (.list l.dropLast)) else none
 | some (.stk b (c::l))=>if b<=1000 then some (.str ⟨#[c]⟩,σ.set i (.stk b l)) else none
 | _=>none
section
variable {prog:Program} {w:World} {A:Around} {K:Frag} {ρ:List Addr} {σ σ':Sto} {s:Shared}
theorem VRs.dropLast {ρ:List Addr}{h:Heap}{l:List V}{xs:List Value}(r:VRs ρ h l xs):VRs ρ h l.dropLast xs.dropLast:=by
 rw [List.dropLast_eq_take,List.dropLast_eq_take,r.length];exact r.take _
theorem zD8 {i:Nat}{l:List V}(hl:σ[i]? =some (.list l)){v:V}(h:(if l.length<=1000 then (l.getLast?).map fun v=>(v,σ.set i (.list l.dropLast)) else none)=some (v,σ'))(I:Inv K ρ σ s){a:Addr}(ha:ρ[i]? =some a):SE (model prog w) A K ρ s (call (.builtin "list.pop") [.ref a]) v σ':=by
 intro Q E q;split at h
 ·rename_i hz
  obtain ⟨u,hu,e⟩:=Option.map_eq_some_iff.mp h;cases e;obtain ⟨items,k,ho,rs⟩:=I.obs _ a _ ha hl;have e:=rs.length;simp only [Array.length_toList] at e;rw [List.getLast?_eq_getElem?] at hu;obtain ⟨y,hy,ry⟩:=rs.get hu;have hy':items[items.size - 1]? =some y:=by rw [<-e]; simpa using hy
  have z:=I.updList (f:=fun xs=>xs.eraseIdxIfInBounds (items.size - 1)) (l':=l.dropLast) (tk:=s.toks) ha ho (by
   have:(items.eraseIdxIfInBounds (items.size - 1)).toList=items.toList.dropLast:=by
    unfold Array.eraseIdxIfInBounds;split
    ·rename_i hlt
     rw [Array.toList_eraseIdx,List.dropLast_eq_take,List.eraseIdx_eq_take_drop_succ,Array.length_toList];rw [show items.size - 1 + 1=items.size by omega];simp
    ·rename_i hlt
     have:items.size=0:=by omega
     have:items=#[]:=Array.eq_empty_of_size_eq_zero this;subst this; rfl
   rw [this]; exact rs.dropLast)
  refine call_meets F.slot_list_pop ⟨_,ho,rfl⟩ F.entry_list_pop (F.args_list_pop_1 _) (PySem.MeetsSeq.list_pop_last a items k y hy' (zQ (by omega))) ⟨ho,?_⟩;exact q _ _ _ z.1 z.2 (ry.ext z.2)
 ·cases h
theorem zKu {i:Nat}{v:V}(h:zLw i σ=some (v,σ'))(I:Inv K ρ σ s){a:Addr}(ha:ρ[i]? =some a):SE (model prog w) A K ρ s (call (.builtin "list.pop") [.ref a]) v σ':=by
 intro Q E q;unfold zLw at h;split at h
 ·rename_i l hl
  exact zD8 hl h I ha Q E q
 ·rename_i b c l hl
  split at h
  ·rename_i hb
   cases h;have hlt:i < σ.length:=(List.getElem?_eq_some_iff.mp hl).1;obtain ⟨hz,_⟩:=I.obs _ a _ ha hl;have I':=I.same (ob':= .list (qH (c::l))) hl fun a r=>r.2;have hlen:(qH (c::l)).length=l.length + 1:=by simp [qH]
   have hn:l.length + 1<=b:=hz;refine zD8 (σ:=σ.set i (.list (qH (c::l)))) (σ':=σ.set i (.list (qH l))) (v:= .str ⟨#[c]⟩) (l:=qH (c::l)) (List.getElem?_set_self hlt) ?_ I' ha Q E fun ρ' s' x J X r=>?_
   ·rw [if_pos (by omega)]
    have e1:(qH (c::l)).getLast? =some (.str ⟨#[c]⟩):=by simp [qH]
    have e2:(qH (c::l)).dropLast=qH l:=by simp [qH]
    rw [e1,e2,List.set_set]; rfl
   ·have z:=J.same (ob':= .stk b l) (List.getElem?_set_self hlt) fun a r=>⟨by omega,r⟩
    rw [List.set_set] at z;exact q ρ' s' x z X r
  ·cases h
 ·cases h
end
end Mine
end
section
namespace Mine
def zHc (i:Nat)(σ:Sto):Option (V×Sto):=match σ[i]? with
 | some (.list (v::l))=>if l.length < 1000 then some (v,σ.set i (.list l)) else none
 | _=>none
section
variable {prog:Program} {w:World} {A:Around} {K:Frag} {ρ:List Addr} {σ σ':Sto} {s:Shared}
theorem zIB {i:Nat}{v:V}(h:zHc i σ=some (v,σ'))(I:Inv K ρ σ s){a:Addr}{t:Tok}(ha:ρ[i]? =some a):SE (model prog w) A K ρ s (call (.builtin "list.pop") [.ref a,.int 0 t]) v σ':=by
 intro Q E q;unfold zHc at h;split at h
 ·rename_i u l hl
  split at h
  ·rename_i hz
   cases h;obtain ⟨items,k,ho,rs⟩:=I.obs _ a _ ha hl;have e:=rs.length;simp only [Array.length_toList,List.length_cons] at e;unfold VRs at rs;obtain ⟨y,ys,hys,ry,rys⟩:=rs;have hy':items[0]? =some y:=by rw [<-Array.getElem?_toList,hys]; rfl
   have hk:seqIndex? 0 items.size=some 0:=by
    unfold seqIndex?;have:(0:Int) < items.size:=by omega
    simp only [Int.lt_irrefl,if_false,Int.le_refl,decide_true,Bool.true_and,decide_eq_true this,if_true];rfl
   have z:=I.updList (f:=fun xs=>xs.eraseIdxIfInBounds 0) (l':=l) (tk:=s.toks) ha ho (by
    have:(items.eraseIdxIfInBounds 0).toList=ys:=by
     unfold Array.eraseIdxIfInBounds;rw [dif_pos (by omega),Array.toList_eraseIdx,hys];rfl
    rw [this]; exact rys)
   refine call_meets F.slot_list_pop ⟨_,ho,rfl⟩ F.entry_list_pop (F.args_list_pop_2 _ _) (PySem.MeetsSeq.list_pop_at a items k 0 t 0 y (by decide) hk hy' (zQ (by omega))) ⟨ho,?_⟩;exact q _ _ _ z.1 z.2 (ry.ext z.2)
  ·cases h
 ·cases h
end
end Mine
end
section
namespace Mine
section
variable {prog:Program} {w:World} {A:Around} {K:Frag} {ρ:List Addr} {σ σ':Sto} {s:Shared}
theorem zHt {u:V}{l:List V}(hl:zS u σ=some l)(hz:l.length < 2 ^ 63)(I:Inv K ρ σ s){x:Value}(rx:VR ρ s.heap u x):SE (model prog w) A K ρ s (call (.builtin "len") [x]) (.int l.length) σ:=by
 intro Q E q;obtain ⟨a,items,k,rfl,ho,rs⟩:=yI I hl rx;have e:=rs.length;simp only [Array.length_toList] at e;refine call_len_meets ⟨_,ho,rfl⟩ F.slot_list_len F.entry_list_len (F.args_list_len_1 _) (AutoListH.list___len___list_0 a items k) (by omega) (by omega) (fun _ hq=>⟨ho,hq⟩) ?_;rw [<-e]; exact SE.tok I qK q
end
end Mine
end
section
namespace Mine
open Builtin Builtin.Str
def loF (c:Nat):Nat:=if Nat.ble 65 c && Nat.ble c 90 then c + 32 else c
def upF (c:Nat):Nat:=if Nat.ble 97 c && Nat.ble c 122 then c - 32 else c
def zAo (x:Str):Bool:=x.cps.toList.all (fun c=>Nat.blt c 128) && Nat.ble x.cps.size 1000
def zB2 (id:String)(args:List V)(σ:Sto):Option (V×Sto):=match args with
 | [.str x]=>
  if id=="str.lower" then (if zAo x then some (.str ⟨(x.cps.toList.map loF).toArray⟩,σ) else if tooLong (placed x fun i _=>Unicode.lowerAt x.cps i).size then none else if (placed x fun i _=>Unicode.lowerAt x.cps i).size<=sizeLine then some (.str ⟨placed x fun i _=>Unicode.lowerAt x.cps i⟩,σ) else none)
  else if id=="str.upper" then (if zAo x then some (.str ⟨(x.cps.toList.map upF).toArray⟩,σ) else if tooLong (placed x fun _ c=>Unicode.upperOf c).size then none else if (placed x fun _ c=>Unicode.upperOf c).size<=sizeLine then some (.str ⟨placed x fun _ c=>Unicode.upperOf c⟩,σ) else none)
  else none
 | [.str x,.str y]=>
  if id=="str.count" then some (.int (occurrences x y 0 x.length (x.length + 1)).length,σ)
  else if id=="str.index" then (match occurrences x y 0 x.length 1 with | i::_=>some (.int (i:Nat),σ) | []=>none)
  else none
 | _=>none
theorem zO0 (c:Nat):loF c=lo1 c:=by
 unfold loF lo1;simp only [Bool.and_eq_true,Nat.ble_eq]
theorem zOL (c:Nat):upF c=up1 c:=by
 unfold upF up1;simp only [Bool.and_eq_true,Nat.ble_eq]
theorem zCY {x:Str}(h:zAo x=true):(∀c∈x.cps.toList,c < 128)/\x.cps.size<=1000:=by
 unfold zAo at h;simp only [Bool.and_eq_true,List.all_eq_true,Nat.ble_eq,Nat.blt_eq] at h;exact h
theorem zDV {x:Str}(h:zAo x=true):placed x (fun i _=>Unicode.lowerAt x.cps i)=(x.cps.toList.map loF).toArray:=by
 have:=lower_ascii (zCY h).1;unfold Txt.lower at this;injection this with this
 rw [this];apply Array.toList_inj.mp;rw [Array.toList_map];exact List.map_congr_left fun c _=>(zO0 c).symm
theorem zDJ {x:Str}(h:zAo x=true):placed x (fun _ c=>Unicode.upperOf c)=(x.cps.toList.map upF).toArray:=by
 have:=upper_ascii (zCY h).1;unfold Txt.upper at this;injection this with this
 rw [this];apply Array.toList_inj.mp;rw [Array.toList_map];exact List.map_congr_left fun c _=>(zOL c).symm
theorem zES {x:Str}(h:zAo x=true)(f:Nat->Nat):tooLong (x.cps.toList.map f).toArray.size=false/\(x.cps.toList.map f).toArray.size<=sizeLine:=by
 have h2:=(zCY h).2;have e:(x.cps.toList.map f).toArray.size=x.cps.size:=by simp
 rw [e];refine ⟨?_,zQ h2⟩;unfold tooLong;have:=zQ h2;simp only [decide_eq_false_iff_not];omega
section
variable {prog:Program} {w:World} {A:Around} {K:Frag} {ρ:List Addr} {σ σ':Sto} {s:Shared}
theorem zHs {id:String}{args:List V}{v:V}(h:zB2 id args σ=some (v,σ'))(I:Inv K ρ σ s){xs:List Value}(rs:VRs ρ s.heap args xs):SE (model prog w) A K ρ s (call (.builtin id) xs) v σ':=by
 intro Q E q;unfold zB2 at h;split at h
 ·rename_i x
  obtain ⟨y,rfl,ry⟩:=zF rs;obtain ⟨t,rfl⟩:=vrS ry;split at h
  ·rename_i hid
   rw [beq_iff_eq] at hid; subst hid;split at h
   ·rename_i hf
    cases h;rw [<-zDV hf] at q;have hz:=zES hf loF;rw [<-zDV hf] at hz;exact call_gives F.slot_str_lower (typeIs_str s x t) F.entry_str_lower (F.args_str_lower_1 _) (gives_str_lower x t hz.1) (kQ I hz.2 q)
   split at h
   ·cases h
   ·rename_i h1
    split at h
    ·rename_i h2
     cases h;exact call_gives F.slot_str_lower (typeIs_str s x t) F.entry_str_lower (F.args_str_lower_1 _) (gives_str_lower x t (by simpa using h1)) (kQ I h2 q)
    ·cases h
  ·split at h
   ·rename_i hid
    rw [beq_iff_eq] at hid; subst hid;split at h
    ·rename_i hf
     cases h;rw [<-zDJ hf] at q;have hz:=zES hf upF;rw [<-zDJ hf] at hz;exact call_gives F.slot_str_upper (typeIs_str s x t) F.entry_str_upper (F.args_str_upper_1 _) (gives_str_upper x t hz.1) (kQ I hz.2 q)
    split at h
    ·cases h
    ·rename_i h1
     split at h
     ·rename_i h2
      cases h;exact call_gives F.slot_str_upper (typeIs_str s x t) F.entry_str_upper (F.args_str_upper_1 _) (gives_str_upper x t (by simpa using h1)) (kQ I h2 q)
     ·cases h
   ·cases h
 ·rename_i x y
  unfold VRs at rs;obtain ⟨x',ys,rfl,rx,rys⟩:=rs;obtain ⟨y',rfl,ry⟩:=zF rys;obtain ⟨t,rfl⟩:=vrS rx;obtain ⟨u,rfl⟩:=vrS ry;split at h
  ·rename_i hid
   rw [beq_iff_eq] at hid; subst hid;cases h;exact call_gives F.slot_str_count (typeIs_str s x t) F.entry_str_count (F.args_str_count_2 _ _) (gives_str_count x y t u) (zX I q)
  ·split at h
   ·rename_i hid
    rw [beq_iff_eq] at hid; subst hid;split at h
    ·rename_i i rest ho
     cases h;exact call_gives F.slot_str_index (typeIs_str s x t) F.entry_str_index (F.args_str_index_2 _ _) (gives_str_index x y t u i rest ho) (zX I q)
    ·cases h
   ·cases h
 ·cases h
end
end Mine
end
section
namespace Mine
abbrev ClsT:=Addr->Str->Option (Option Addr)
def uN (K:Frag)(C:Addr):Bool:=plainGet K C "" && hasDictIn K C && findIn K (.ref C) "__setattr__"==some (some (.builtin "object.__setattr__")) && plainOver K C
def clsNone (K:Frag)(C:Addr)(name:Str):Bool:=uN K C && findIn K (.ref C) name==some none
def clsFn (K:Frag)(C:Addr)(name:Str)(f:Addr):Bool:=
 uN K C && findIn K (.ref C) name==some (some (.ref f)) && isFn K (.ref f) && specialIn K (.ref f) "__get__"==some (some (.builtin "function.__get__")) && takesIn K (.ref f)==some false && !copiedNames.contains name
structure ClsOK (K:Frag) (T:ClsT):Prop where
 non:∀C name,T C name=some none->clsNone K C name=true
 fn:∀C name f,T C name=some (some f)->clsFn K C name f=true
section
variable {K:Frag} {ρ:List Addr} {σ σ':Sto} {s:Shared}
theorem zHo {k name:Str}{t:Tok}(h:¬k=name):Value.isStr (.str k t) name=false:=by
 show (k==name)=false;exact beq_eq_false_iff_ne.mpr h
theorem zGN {name:Str}{t:Tok}:Value.isStr (.str name t) name=true:=by
 show (name==name)=true;exact beq_self_eq_true name
theorem zBC {h:Heap}:∀{kv:List (Str×V)} {es:List DictEntry},vH ρ h kv es->es.any (·.refKey)=false
 | [],es,r=>by rw [show es=[] from r]; rfl
 | (k,v)::kv,es,⟨e,es',q,⟨t,hk⟩,b,c⟩=>by
  subst q;simp only [List.any_cons,zBC c,Bool.or_false];unfold DictEntry.refKey;rw [hk]
theorem zJr {h:Heap}(name:Str):∀{kv:List (Str×V)} {es:List DictEntry},vH ρ h kv es->
  (∃v x,kv.lookup name=some v/\es.find? (·.key.isStr name)=some x/\VR ρ h v x.val)\/(kv.lookup name=none/\es.find? (·.key.isStr name)=none)
 | [],es,r=> .inr (by rw [show es=[] from r]; exact ⟨rfl,rfl⟩)
 | (k,v)::kv,es,⟨e,es',q,⟨t,hk⟩,b,c⟩=>by
  subst q
  by_cases hn:k=name
  ·subst hn
   refine .inl ⟨v,e,by simp,?_,b⟩;rw [List.find?_cons,hk,zGN]
  ·have h1:(name==k)=false:=beq_eq_false_iff_ne.mpr fun z=>hn z.symm
   rw [List.lookup_cons,h1,List.find?_cons,hk,zHo hn];exact zJr name c
theorem zBn {h:Heap}{name:Str}{kv:List (Str×V)}{es:List DictEntry}(r:vH ρ h kv es):
  (∃v x,kv.lookup name=some v/\getL name es=some (some x)/\VR ρ h v x)\/(kv.lookup name=none/\getL name es=some none):=by
 rcases zJr name r with ⟨v,x,a,b,c⟩ | ⟨a,b⟩
 ·exact .inl ⟨v,x.val,a,by unfold getL; rw [b],c⟩
 ·refine .inr ⟨a,?_⟩
  unfold getL;rw [b,zBC r]; rfl
theorem zJR {h:Heap}{name:Str}{hsh:Int}{t:Tok}{v:V}{x:Value}(rv:VR ρ h v x):∀{kv:List (Str×V)} {es:List DictEntry},vH ρ h kv es->vH ρ h (uV name v kv) (putL name hsh (.str name t) x es)
 | [],es,r=>by
  rw [show es=[] from r];exact ⟨_,_,rfl,⟨t,rfl⟩,rv,rfl⟩
 | (k,u)::kv,es,⟨e,es',q,⟨t',hk⟩,b,c⟩=>by
  subst q;unfold uV putL;rw [qT]
  by_cases hn:k=name
  ·subst hn
   rw [hk,zGN,if_pos (beq_self_eq_true k),if_pos rfl];exact ⟨_,_,rfl,⟨t',rfl⟩,rv,c⟩
  ·rw [hk,zHo hn,if_neg (by simpa using hn),if_neg Bool.false_ne_true]
   exact ⟨e,_,rfl,⟨t',hk⟩,b,zJR rv c⟩
theorem zC4 {h:Heap}:∀{kv:List (Str×V)} {es:List DictEntry},vH ρ h kv es->kv.length=es.length
 | [],es,r=>by rw [show es=[] from r]; rfl
 | (k,u)::kv,es,⟨e,es',q,_,_,c⟩=>by subst q; simp [zC4 c]
end
def zDh (i:Nat)(σ:Sto):Option (Addr×Nat×List (Str×V)):=match σ[i]? with
 | some (.inst C d)=>(match σ[d]? with | some (.dict kv)=>some (C,d,kv) | _=>none)
 | _=>none
def zMj:V->Bool
 | .val _=>true
 | _=>false
def zDb (T:ClsT)(o:V)(name:Str)(σ:Sto):Option (V×Sto):=match o with
 | .trk i=>(match zDh i σ with
  | some (C,_,kv)=>(match lkS kv name,T C name with
   | some v,some none=>if zMj v then none else some (v,σ)
   | none,some (some f)=>some (.trk σ.length,σ ++ [.meth f o])
   | _,_=>none)
  | none=>none)
 | _=>none
def setA (T:ClsT)(o:V)(name:Str)(v:V)(σ:Sto):Option Sto:=match o with
 | .trk i=>(match zDh i σ with
  | some (C,d,kv)=>(match T C name with
   | some none=>if kv.length < 900 then some (σ.set d (.dict (uV name v kv))) else none
   | _=>none)
  | none=>none)
 | _=>none
def zQL (T:ClsT):Mth:=fun o name σ=>match o with
 | .trk i=>(match zDh i σ with
  | some (C,_,kv)=>(match lkS kv name,T C name with
   | some v,some none=>if zMj v then none else some (v,[])
   | none,some (some f)=>some (.val (.ref f),[o])
   | _,_=>none)
  | none=>none)
 | _=>none
section
variable {prog:Program} {w:World} {A:Around} {K:Frag} {T:ClsT} {ρ:List Addr} {σ σ':Sto} {s:Shared}
theorem zF0 (I:Inv K ρ σ s){i:Nat}{C:Addr}{d:Nat}{kv:List (Str×V)}(h:zDh i σ=some (C,d,kv)){x:Value}(rx:VR ρ s.heap (.trk i) x):
  ∃a dx es n,x= .ref a/\ρ[i]? =some a/\ρ[d]? =some dx/\σ[d]? =some (.dict kv)/\s.heap.get? a=some (instObj C dx)/\s.heap.get? dx=some (dictOf es n)/\vH ρ s.heap kv es:=by
 unfold zDh at h;split at h
 ·rename_i C' d' h1
  split at h
  ·rename_i kv' h2
   cases h;obtain ⟨a,ha,rfl⟩:=vrT rx;obtain ⟨dx,hd,ho⟩:=I.obs _ a _ ha h1;obtain ⟨es,n,hes,re⟩:=I.obs _ dx _ hd h2;exact ⟨a,dx,es,n,rfl,ha,hd,h2,ho,hes,re⟩
  ·cases h
 ·cases h
theorem zFd {h:Heap}{v:V}{x:Value}(hv:zMj v=false)(r:VR ρ h v x):handedIn x=true:=by
 cases v <;>unfold VR at r
 case none=>subst r; rfl
 case bool=>subst r; rfl
 case int=>obtain ⟨t,rfl⟩:=r; rfl
 case str=>obtain ⟨t,rfl⟩:=r; rfl
 case tup=>obtain ⟨a,_,_,rfl,_⟩:=r; rfl
 case lst=>obtain ⟨a,_,_,rfl,_⟩:=r; rfl
 case trk=>obtain ⟨a,_,rfl⟩:=r; rfl
 case val=>cases hv
 case rng=>obtain ⟨a,_,_,_,rfl,_⟩:=r; rfl
theorem kO {C:Addr}(h:uN K C=true):(findIn K (.ref C) "__getattribute__"=some (some (.builtin "object.__getattribute__"))/\findIn K (.ref C) "__getattr__"=some none)/\hasDictIn K C=true/\
  findIn K (.ref C) "__setattr__"=some (some (.builtin "object.__setattr__"))/\plainOver K C=true:=by
 unfold uN at h;simp only [Bool.and_eq_true,beq_iff_eq] at h;exact ⟨plainGet_of h.1.1.1,h.1.1.2,h.1.2,h.2⟩
theorem zAN {C:Addr}{name:Str}(h:clsNone K C name=true):uN K C=true/\findIn K (.ref C) name=some none:=by
 unfold clsNone at h
 simpa only [Bool.and_eq_true,beq_iff_eq] using h
theorem zGR {C f:Addr}{name:Str}(h:clsFn K C name f=true):uN K C=true/\findIn K (.ref C) name=some (some (.ref f))/\typeIn K (.ref f)=some (.type "function")/\
  specialIn K (.ref f) "__get__"=some (some (.builtin "function.__get__"))/\takesIn K (.ref f)=some false/\copiedNames.contains name=false:=by
 unfold clsFn isFn at h;simp only [Bool.and_eq_true,beq_iff_eq,Bool.not_eq_true'] at h;exact ⟨h.1.1.1.1.1,h.1.1.1.1.2,h.1.1.1.2,h.1.1.2,h.1.2,h.2⟩
theorem wV {a C dx:Addr}{es:List DictEntry}{n:Nat}(h1:s.heap.get? a=some (instObj C dx))(h2:s.heap.get? dx=some (dictOf es n)):InstAt s.heap a (instObj C dx) C (some (dictOf es n)):=⟨h1,rfl,rfl,h2⟩
theorem zDo (TO:ClsOK K T){o v:V}{name:Str}(h:zDb T o name σ=some (v,σ'))(I:Inv K ρ σ s){x:Value}(rx:VR ρ s.heap o x){expr:Bool}:SE (model prog w) A K ρ s (getAttr x name expr) v σ':=by
 intro Q E q;unfold zDb at h;simp only [qV] at h;split at h
 ·rename_i i
  split at h
  ·rename_i C d kv hi
   obtain ⟨a,dx,es,n,rfl,ha,hd,hsd,h1,h2,re⟩:=zF0 I hi rx;split at h
   ·rename_i u hu ht
    split at h
    ·cases h
    ·rename_i hv
     cases h;obtain ⟨b1,b2⟩:=zAN (TO.non _ _ ht);obtain ⟨c1,c2,c3,c4⟩:=kO b1;rcases zBn (name:=name) re with ⟨v',y,l1,l2,ry⟩ | ⟨l1,_⟩
     ·rw [hu] at l1; cases l1
      refine get_value I.kin (wV h1 h2) c1.1 (findObj_own c2 b2 rfl (by rw [lookIn_dict,l2])) (zFd (by simpa using hv) ry) ?_;exact q _ _ _ (I.toks _) ((Ext.refl _ _).toks _) ry
     ·rw [hu] at l1; cases l1
   ·rename_i f hu ht
    cases h;obtain ⟨b1,b2,b3,b4,b5,b6⟩:=zGR (TO.fn _ _ _ ht);obtain ⟨c1,c2,c3,c4⟩:=kO b1;rcases zBn (name:=name) re with ⟨v',y,l1,l2,ry⟩ | ⟨_,l2⟩
    ·rw [hu] at l1; cases l1
    ·refine get_bind I.kin (wV h1 h2) c1.1 (findObj_fn c2 b2 b4 b5 b6 (by rw [lookIn_dict,l2])) c1.2 ?_
     refine wpAny_call (fn_get (s:={s with toks:=s.toks + 1}) I.kin b3 (handed_on rfl ?_));have x:=I.alloc (o:=methodObj (.ref f) (.ref a)) (ob:= .meth f (.trk i)) (tk:=s.toks + 1) (.inr trivial) ⟨.ref a,by
      unfold VR;exact ⟨a,by rw [List.getElem?_append_left (List.getElem?_eq_some_iff.mp ha).1]; exact ha,rfl⟩,Heap.get?_push_size _ rfl⟩
     refine q _ _ _ x.1 x.2 ?_;unfold VR;exact ⟨s.heap.objs.size,by rw [<-I.len,List.getElem?_append_right (Nat.le_refl _),Nat.sub_self]; rfl,rfl⟩
   ·cases h
  ·cases h
 ·cases h
theorem zNq (TO:ClsOK K T):MthOK prog w K (zQL T):=⟨by
 intro o name σ f first h A ρ s x pl hu I rx Q E q
 unfold zQL at h;simp only [qV] at h;split at h
 ·rename_i i
  split at h
  ·rename_i C d kv hi
   obtain ⟨a,dx,es,n,rfl,ha,hd,hsd,h1,h2,re⟩:=zF0 I hi rx;split at h
   ·rename_i u hu ht
    split at h
    ·cases h
    ·rename_i hv
     cases h;obtain ⟨b1,b2⟩:=zAN (TO.non _ _ ht);obtain ⟨c1,c2,c3,c4⟩:=kO b1;rcases zBn (name:=name) re with ⟨v',y,l1,l2,ry⟩ | ⟨l1,_⟩
     ·rw [hu] at l1; cases l1
      refine method_usual I.kin (wV h1 h2) c1.1 c1.2 b2 rfl ?_;refine get_value I.kin (wV h1 h2) c1.1 (findObj_own c2 b2 rfl (by rw [lookIn_dict,l2])) (zFd (by simpa using hv) ry) ?_;exact q _ _ _ (I.toks _) ((Ext.refl _ _).toks _) ry rfl
     ·rw [hu] at l1; cases l1
   ·rename_i f' hu ht
    cases h;obtain ⟨b1,b2,b3,b4,b5,b6⟩:=zGR (TO.fn _ _ _ ht);obtain ⟨c1,c2,c3,c4⟩:=kO b1;rcases zBn (name:=name) re with ⟨v',y,l1,l2,ry⟩ | ⟨_,l2⟩
    ·rw [hu] at l1; cases l1
    ·exact method_fn I.kin (wV h1 h2) c1.1 c1.2 b2 b3 (by show (lookIn name (dictOf es n)).map _=_; rw [lookIn_dict,l2]; rfl) (q _ _ _ I (.refl _ _) wS (VRs.one rx))
   ·cases h
  ·cases h
 ·cases h⟩
theorem zB0 {name:Str}{hsh:Int}{key v:Value}:∀es:List DictEntry,(putL name hsh key v es).length<=es.length + 1
 | []=>by simp [putL]
 | e::r=>by
  unfold putL;split
  ·simp
  ·have:=zB0 (name:=name) (hsh:=hsh) (key:=key) (v:=v) r
   simp only [List.length_cons]; omega
theorem zAc (TO:ClsOK K T){o v:V}{name:Str}(h:setA T o name v σ=some σ')(I:Inv K ρ σ s){x y:Value}(rx:VR ρ s.heap o x)(ry:VR ρ s.heap v y):SB (model prog w) A K ρ s (setAttr x name y) () σ':=by
 intro Q E q;unfold setA at h;split at h
 ·rename_i i
  split at h
  ·rename_i C d kv hi
   obtain ⟨a,dx,es,n,rfl,ha,hd,hsd,h1,h2,re⟩:=zF0 I hi rx;split at h
   ·rename_i ht
    split at h
    ·rename_i hz
     cases h;obtain ⟨b1,b2⟩:=zAN (TO.non _ _ ht);obtain ⟨c1,c2,c3,c4⟩:=kO b1;refine set_plain I.kin (wV h1 h2) c3 ?_;refine osa_open (s:={s with toks:=s.toks + 1}) I.kin (wV h1 h2) c4 (show takerIn K C name=some none by unfold takerIn; rw [b2]; rfl) fun b=>?_;obtain ⟨cd,hc,hd'⟩:=any_some c2;refine wpAny_bind (wpAny_pure (wpAny_bind (wpAny_bind (wpAny_loadPart (s:={s with toks:=s.toks + 1}) h1 (wpAny_bind ((looks_clsIn (I.toks (s.toks + 1)).kin hc).here (s:={s with toks:=s.toks + 1}) ?_))))));rw [hd'];refine wpAny_pure (a:=some dx) (wpAny_bind (wpAny_pure (wpAny_bind ?_)));unfold nsSet;refine wpAny_bind (wpAny_bind (wpAny_askSetting (wpAny_pure (wpAny_bind (wpAny_mkText (wpAny_bind (wpAny_loadPart (s:={s with toks:=s.toks + 1 + 1}) h2 ?_)))))));dsimp only;have c:(!es.toArray.any (·.key.isStr name) && es.toArray.any (·.refKey))=false:=by
      rw [<-Array.any_toList,<-Array.any_toList];simp only [zBC re,Bool.and_false]
     rw [aRefKeyMayBeTheName_at,c];have hb:=(Heap.SameBut.update s.heap dx (Obj.putName name (PyData.keyHash w.params name) (.str name (s.toks + 1)) y)).extBut;have hg:(s.heap.update dx (Obj.putName name (PyData.keyHash w.params name) (.str name (s.toks + 1)) y)).get? dx=some (dictOf (putL name (PyData.keyHash w.params name) (.str name (s.toks + 1)) y es) (putN name es n)):=
      (Heap.get?_update_self _ h2 (by rw [putName_dict]; rfl)).trans (by rw [putName_dict])
     have e1:=zC4 re;have e2:=zB0 (name:=name) (hsh:=PyData.keyHash w.params name) (key:= .str name (s.toks + 1)) (v:=y) es;have z:=I.upd (ob:= .dict (uV name v kv)) (tk:=s.toks + 1 + 1) hd hb ⟨_,_,hg,by
      have kp:=Kp.upd (List.mem_of_getElem? hd) hb;exact (zJR ry re).mono (fun _ _ e=>e) kp⟩
     refine wpAny_updatePart (s:={s with toks:=s.toks + 1 + 1}) h2 ?_;refine wpAny_bind (wpAny_lookBehind hg (pastItsLine_dict (by rw [List.size_toArray,sizeLine_eq]; omega)) ?_);exact wpAny_pure (q _ _ z.1 z.2)
    ·cases h
   ·cases h
  ·cases h
 ·cases h
end
end Mine
end
section
namespace Mine
def zCW (T:ClsT)(r:Rec)(o:Expr)(name:Str)(ae:AE)(σ:Sto):Option (V×Sto):=if uC o then none else match r.e o ae σ with
 | some (u,σ₁)=>zDb T u name σ₁
 | none=>none
def xY (T:ClsT)(r:Rec)(o:Expr)(name:Str)(e:Expr)(ae:AE)(σ:Sto):Option (Fl×Sto):=if xL e then none else match r.e e ae σ with
 | some (v,σ₁)=>(match r.e o ae σ₁ with
  | some (u,σ₂)=>(match setA T u name v σ₂ with | some σ₃=>some (.next,σ₃) | none=>none)
  | none=>none)
 | none=>none
def xV (T:ClsT)(r:Rec)(o:Expr)(name:Str)(op:Operator)(e:Expr)(ae:AE)(σ:Sto):Option (Fl×Sto):=match r.e o ae σ with
 | some (u,σ₁)=>(match zDb T u name σ₁ with
  | some (a,σ₂)=>(match r.e e ae σ₂ with
   | some (b,σ₃)=>(match zEA op a b σ₃ with
    | some (v,σ₄)=>(match setA T u name v σ₄ with | some σ₅=>some (.next,σ₅) | none=>none)
    | none=>none)
   | none=>none)
  | none=>none)
 | none=>none
def vN (o i v:V)(σ:Sto):Option Sto:=match o,i with
 | .trk n,.int k=>(match σ[n]? with
  | some (.list l)=>if decide (0<=k) && decide (k < l.length) && decide (l.length<=1000) then some (σ.set n (.list (l.set k.toNat v))) else none
  | _=>none)
 | _,_=>none
def uD (r:Rec)(o i:Expr)(op:Operator)(e:Expr)(ae:AE)(σ:Sto):Option (Fl×Sto):=if zFO i then none else match r.e o ae σ with
 | some (u,σ₁)=>(match r.e i ae σ₁ with
  | some (k,σ₂)=>(match wH u k σ₂ with
   | some a=>(match r.e e ae σ₂ with
    | some (b,σ₃)=>(match zEA op a b σ₃ with
     | some (v,σ₄)=>(match vN u k v σ₄ with | some σ₅=>some (.next,σ₅) | none=>none)
     | none=>none)
    | none=>none)
   | none=>none)
  | none=>none)
 | none=>none
section
variable {prog:Program} {w:World} {A:Around} {K:Frag} {T:ClsT} {n:Nat} {r:Rec} {ρ:List Addr} {σ σ':Sto} {s:Shared} {ae:AE} {env:Env}
theorem zFG (TO:ClsOK K T)(hr:Snd (model prog w) K n r)(hA:Rm A n){o:Expr}{name:Str}{pos:Pos}{v:V}(h:zCW T r o name ae σ=some (v,σ'))(X:EnvR ρ ae env)(I:Inv K ρ σ s):SE (model prog w) A K ρ s (eval (.Attribute o name pos) env) v σ':=by
 intro Q E q;unfold zCW at h;split at h
 ·cases h
 ·rename_i hb
  split at h
  ·rename_i u σ₁ h1
   rw [arm_eval_Attribute,zJw (by simpa using hb)];refine wpAny_bind (hr.e _ _ _ _ _ h1 A env ρ s hA X I _ _ fun ρ₁ s₁ x I₁ X₁ rx=>?_);refine wpAny_bind (wpAny_standAt (wpAny_bind (wpAny_holding ?_)));refine zDo TO h I₁ rx _ _ fun ρ₂ s₂ y I₂ X₂ ry=>?_;exact wpAny_bind (wpAny_letTemporaryGo (wpAny_pure (q _ _ _ I₂ (X₁.then I₁ X₂) ry)))
  ·cases h
theorem zL6 {e t:Expr}{l:Nat}(h:xL e=false):swapsWith e (some t) l env=pure false:=by cases e <;>first | rfl | cases h
theorem zEy (TO:ClsOK K T)(hr:Snd (model prog w) K n r)(hA:Rm A n){o e:Expr}{name:Str}{p pos:Pos}{f:Fl}(h:xY T r o name e ae σ=some (f,σ'))(X:EnvR ρ ae env)(I:Inv K ρ σ s):SX (model prog w) A K ρ s (exec (.Assign [.Attribute o name p] e pos) env) f σ':=by
 intro Q E q;unfold xY at h;split at h
 ·cases h
 ·rename_i hc
  split at h
  ·rename_i v σ₁ h1
   split at h
   ·rename_i u σ₂ h2
    split at h
    ·rename_i σ₃ h3
     cases h;refine plainObj_wpAny_Assign_Attribute (hr.e _ _ _ _ _ h1 A env ρ s hA X I _ _ fun ρ₁ s₁ x I₁ X₁ rx=>?_) (zL6 (by simpa using hc));refine hr.e _ _ _ _ _ h2 A env _ _ hA (X.ext X₁) I₁ _ _ fun ρ₂ s₂ y I₂ X₂ ry=>?_;exact zAc TO h3 I₂ ry (rx.ext X₂) _ _ fun ρ₃ s₃ I₃ X₃=>q _ _ _ I₃ ((X₁.then I₁ X₂).then I₂ X₃) .next
    ·cases h
   ·cases h
  ·cases h
theorem zEx (TO:ClsOK K T)(hr:Snd (model prog w) K n r)(hA:Rm A n){o e:Expr}{name:Str}{op:Operator}{p pos:Pos}{f:Fl}(h:xV T r o name op e ae σ=some (f,σ'))(X:EnvR ρ ae env)(I:Inv K ρ σ s):SX (model prog w) A K ρ s (exec (.AugAssign (.Attribute o name p) op e pos) env) f σ':=by
 intro Q E q;unfold xV at h;split at h
 ·rename_i u σ₁ h1
  split at h
  ·rename_i a σ₂ h2
   split at h
   ·rename_i b σ₃ h3
    split at h
    ·rename_i v σ₄ h4
     split at h
     ·rename_i σ₅ h5
      cases h;refine wpAny_AugAssign_AttributeAny (hr.e _ _ _ _ _ h1 A env ρ s hA X I _ _ fun ρ₁ s₁ x I₁ X₁ rx=>?_);refine zDo TO h2 I₁ rx _ _ fun ρ₂ s₂ y I₂ X₂ ry=>?_;have X₂':=X₁.then I₁ X₂;refine hr.e _ _ _ _ _ h3 A env _ _ hA (X.ext X₂') I₂ _ _ fun ρ₃ s₃ z I₃ X₃ rz=>?_;have X₃':=X₂'.then I₂ X₃;refine zBv h4 I₃ (ry.ext X₃) rz _ _ fun ρ₄ s₄ u I₄ X₄ ru=>?_;have X₄':=X₃'.then I₃ X₄;exact zAc TO h5 I₄ (((rx.ext X₂).ext X₃).ext X₄) ru _ _ fun ρ₅ s₅ I₅ X₅=>q _ _ _ I₅ (X₄'.then I₄ X₅) .next
     ·cases h
    ·cases h
   ·cases h
  ·cases h
 ·cases h
theorem VRs.setA {l:List V}{xs:List Value}{k:Nat}{v:V}{x:Value}(rs:VRs ρ s.heap l xs)(rv:VR ρ s.heap v x):VRs ρ s.heap (l.set k v) (xs.set k x):=VRs.set rv k rs
theorem zEw {o i v:V}(h:vN o i v σ=some σ')(I:Inv K ρ σ s){x y z:Value}(rx:VR ρ s.heap o x)(ry:VR ρ s.heap i y)(rz:VR ρ s.heap v z):SB (model prog w) A K ρ s (setItem x y z) () σ':=by
 intro Q E q;unfold vN at h;split at h
 ·rename_i m k
  split at h
  ·rename_i l hl
   split at h
   ·rename_i hc
    cases h;simp only [Bool.and_eq_true,decide_eq_true_eq] at hc;obtain ⟨⟨h0,hn⟩,hz⟩:=hc;obtain ⟨a,ha,rfl⟩:=vrT rx;obtain ⟨t,rfl⟩:=vrI ry;obtain ⟨items,c,ho,rs⟩:=I.obs _ a _ ha hl;have e:=rs.length;simp only [Array.length_toList] at e;have hfit:k < 2 ^ 63:=by omega
    have hl':s.heap.IsList a items:=⟨_,ho,rfl,c,rfl⟩;unfold setItem
    try with_reducible refine wpAny_holding ?_
    first | refine wpAny_bind (wpAny_pure ?_) | skip
    refine wpAny_bind (wpAny_sequenceKey hl'.typeIs (by decide) ?_);refine wpAny_bind (wpAny_callSpecial?_slot (name:=Str.ofString "__setitem__") hl'.typeIs slot_list_setitem
     (wpAny_call_entry slot_list_setitem hl'.typeIs entry_list_setitem ?_ (args_list_setitem _ _ _)))
    show wpAny _ _ (Builtin.List.listSubscript? (.int k t) >>=_) _ _ s;refine wpAny_bind (wpAny_listSubscript_int (fitsIndex_of h0 hfit) ?_);clear hfit;obtain ⟨j,rfl⟩:=Int.eq_ofNat_of_zero_le h0;have hj:j < items.size:=by omega
    have hx':items[j]? =some items[j]:=Array.getElem?_eq_getElem hj;show wpAny _ _ ((seqItemAt a j >>=fun r=>pure (r.map (j,·))) >>=_) _ _ s;refine wpAny_bind (wpAny_bind (wpAny_seqItemAt ho rfl (wpAny_pure ?_)));rw [hx'];show wpAny _ _ (setSeqItemAt a j z >>=_) _ _ s;have u:=I.updList (f:=fun xs=>xs.setIfInBounds j z) (l':=l.set j v) (tk:=s.toks) ha ho (by
     rw [Array.toList_setIfInBounds]; exact rs.setA rz)
    refine wpAny_bind (wpAny_setSeqItemAt ho rfl ?_);have fin:Q () {s with heap:=s.heap.update a (Obj.mapSeq (·.setIfInBounds j z))}:=q _ _ u.1 u.2
    first
     | exact wpAny_bind (wpAny_pure (wpAny_pure ⟨.none,rfl,wpAny_pure fin⟩))
     | exact wpAny_pure ⟨.none,rfl,wpAny_pure fin⟩
   ·cases h
  ·cases h
 ·cases h
theorem zFK (hr:Snd (model prog w) K n r)(hA:Rm A n){o i e:Expr}{op:Operator}{p pos:Pos}{f:Fl}(h:uD r o i op e ae σ=some (f,σ'))(X:EnvR ρ ae env)(I:Inv K ρ σ s):SX (model prog w) A K ρ s (exec (.AugAssign (.Subscript o i p) op e pos) env) f σ':=by
 intro Q E q;unfold uD at h;split at h
 ·cases h
 ·rename_i hs
  split at h
  ·rename_i u σ₁ h1
   split at h
   ·rename_i k σ₂ h2
    split at h
    ·rename_i a h3
     split at h
     ·rename_i b σ₃ h4
      split at h
      ·rename_i v σ₄ h5
       split at h
       ·rename_i σ₅ h6
        cases h;refine wpAny_AugAssign_SubscriptAny (hr.e _ _ _ _ _ h1 A env ρ s hA X I _ _ fun ρ₁ s₁ x I₁ X₁ rx=>?_) (by intros; cases i <;>first | rfl | exact absurd rfl hs);refine hr.e _ _ _ _ _ h2 A env _ _ hA (X.ext X₁) I₁ _ _ fun ρ₂ s₂ y I₂ X₂ ry=>?_;have X₂':=X₁.then I₁ X₂;have z:=zE7 (prog:=prog) (w:=w) (A:=A) (E:=E) h3 I₂ (rx.ext X₂) ry (Q:=fun old s₃=>wpAny (model prog w) A (eval e env) (fun v s₄=>wpAny (model prog w) A (inplaceOp op old v) (fun new s₅=>wpAny (model prog w) A (setItem x y new) (fun _=>Q .next) E s₅) E s₄) E s₃)
         fun ρ₃ s₃ y' I₃ X₃ ry'=>?_
        ·obtain ⟨_,_,_,_,hg⟩:=z
         exact hg
        ·have X₃':=X₂'.then I₂ X₃
         refine hr.e _ _ _ _ _ h4 A env _ _ hA (X.ext X₃') I₃ _ _ fun ρ₄ s₄ z I₄ X₄ rz=>?_;have X₄':=X₃'.then I₃ X₄;refine zBv h5 I₄ (ry'.ext X₄) rz _ _ fun ρ₅ s₅ u I₅ X₅ ru=>?_;have X₅':=X₄'.then I₄ X₅;exact zEw h6 I₅ ((((rx.ext X₂).ext X₃).ext X₄).ext X₅) (((ry.ext X₃).ext X₄).ext X₅) ru _ _ fun ρ₆ s₆ I₆ X₆=>q _ _ _ I₆ (X₅'.then I₅ X₆) .next
       ·cases h
      ·cases h
     ·cases h
    ·cases h
   ·cases h
  ·cases h
end
end Mine
end
section
namespace Mine
structure MakeOK (K:Frag) (ini:Addr->Option Addr):Prop where
 mks:∀C f,ini C=some f->makesIn K C=true/\findIn K (.ref C) "__init__"=some (some (.ref f))/\typeIn K (.ref f)=some (.type "function")
def zE0 (G:Gl)(B:Bnd)(ini:Addr->Option Addr)(r:Rec)(C:Addr)(args:List V)(kw:List (Str×V))(σ:Sto):Option (V×Sto):=match ini C with
 | some f=>(match yW G B r f (.trk (σ.length + 1)::args) kw (σ ++ [.dict []] ++ [.inst C σ.length]) with
  | some (.none,σ')=>some (.trk (σ.length + 1),σ')
  | _=>none)
 | none=>none
section
variable {prog:Program} {w:World} {A:Around} {K:Frag} {G:Gl} {B:Bnd} {ini:Addr->Option Addr} {n:Nat} {r:Rec} {ρ:List Addr} {σ σ':Sto} {s:Shared}
theorem Rm.make (h:Rm A (n + 2))(C:Addr)(xs:List Value)(xk:List (Str×Value)):Rm (A.under (.builtin "type.__call__" ⟨.ref C::xs,xk⟩)) (n + 1):=by
 have e1:(Code.builtin "type.__call__" ⟨.ref C::xs,xk⟩).weight=1:=rfl;have e3:(Code.builtin "type.__call__" ⟨.ref C::xs,xk⟩).cUnits=1:=rfl;refine ⟨h.1,?_,?_⟩
 ·show A.depth + _ + 4 * (n + 1) < _; rw [e1]; have:=h.2.1; omega
 ·show A.units + _ + 16 * (n + 1) < _; rw [e3]; have:=h.2.2; omega
theorem zJ1 (FO:FnOK prog w K G B)(MO:MakeOK K ini)(hr:Snd (model prog w) K n r)(hA:Rm A (n + 2)){C:Addr}{args:List V}{kw:List (Str×V)}{v:V}(h:zE0 G B ini r C args kw σ=some (v,σ'))(I:Inv K ρ σ s){xs:List Value}{xk:List (Str×Value)}
  (rs:VRs ρ s.heap args xs) (rk:BindsR ρ s.heap kw xk):SE (model prog w) A K ρ s (call (.ref C) xs xk) v σ':=by
 intro Q E q;unfold zE0 at h;split at h
 ·rename_i f hf
  split at h
  ·rename_i σ₁ h1
   cases h;obtain ⟨m1,m2,m3⟩:=MO.mks _ _ hf;have y:=I.alloc (o:=emptyDict) (ob:= .dict []) (tk:=s.toks) (.inr trivial) ⟨[],0,Heap.get?_push_size _ rfl,rfl⟩;have hd:(ρ ++ [s.heap.objs.size])[σ.length]? =some s.heap.objs.size:=by rw [<-I.len,List.getElem?_append_right (Nat.le_refl _),Nat.sub_self]; rfl
   have z:=y.1.alloc (o:=instObj C s.heap.objs.size) (ob:= .inst C σ.length) (tk:=s.toks) (.inr trivial) ⟨s.heap.objs.size,by
    rw [List.getElem?_append_left (List.getElem?_eq_some_iff.mp hd).1]; exact hd,Heap.get?_push_size _ rfl⟩
   have hsz:(s.heap.push emptyDict).objs.size=s.heap.objs.size + 1:=Heap.size_push ..;have X2:=y.2.then y.1 z.2;have I2:=z.1;have hi:(ρ ++ [s.heap.objs.size] ++ [(s.heap.push emptyDict).objs.size])[σ.length + 1]? =some (s.heap.objs.size + 1):=by
    rw [<-I.len,List.getElem?_append_right (by simp)];simp [hsz]
   refine wpAny_call ?_;obtain ⟨hh,g,d,t,os⟩:=s;refine make_core (makes_of I.kin m1) (looks_findIn I.kin m2) (fun self=>bind_fn I.kin self m3) (.inl rfl) ?_;refine wR FO hr (hA.make C xs xk) h1 I2 (xs:= .ref (hh.objs.size + 1)::xs) ?_ (rk.ext X2) ?_
   ·unfold VRs
    refine ⟨_,_,rfl,?_,rs.ext X2⟩;unfold VR;exact ⟨_,hi,rfl⟩
   ·intro ρ' s' x I' X' rx
    cases vrN rx;refine ⟨rfl,q _ _ _ I' (X2.then I2 X') ?_⟩;unfold VR;exact ⟨_,X'.preP _ _ hi,rfl⟩
  ·cases h
 ·cases h
end
end Mine
end
section
namespace Mine
section
variable {K:Frag} {ρ:List Addr} {σ σ':Sto} {s s':Shared}
theorem Inv.gen {l:List Addr}(I:Inv K ρ σ s)(hl:ρ.length + l.length=σ'.length)(nd:l.Nodup)(fr:∀b∈l,s.heap.get? b=none)(keep:∀b o,b ∉ ρ->s.heap.get? b=some o->s'.heap.get? b=some o)
  (ob:∀(i:Nat) (a:Addr) (ob:Ob),(ρ ++ l)[i]? =some a->σ'[i]? =some ob->(σ[i]? =some ob/\∀o,s.heap.get? a=some o->s'.heap.get? a=some o)\/ObR (ρ ++ l) s'.heap a ob) (hg:s'.gens=s.gens) (ho:s'.os=s.os):
  Inv K (ρ ++ l) σ' s'/\Ext ρ s (ρ ++ l) s':=by
 have x:Ext ρ s (ρ ++ l) s':=by
  refine ⟨⟨l,rfl⟩,?_,keep,ho⟩;intro i a hi e;rw [List.getElem?_append_right hi] at e;exact fr a (List.mem_of_getElem? e)
 refine ⟨⟨by simp [<-hl],?_,?_,?_,?_,hg.trans I.gens⟩,x⟩
 ·refine List.nodup_append.mpr ⟨I.nd,nd,fun b hb c hc e=>?_⟩
  subst e;obtain ⟨o,q⟩:=I.has b hb;rw [fr b hc] at q; cases q
 ·intro i a o e1 e2
  rcases ob i a o e1 e2 with ⟨h1,h2⟩ | h
  ·have hi:i < ρ.length:=by rw [I.len]; exact (List.getElem?_eq_some_iff.mp h1).1
   have e1':ρ[i]? =some a:=by rw [List.getElem?_append_left hi] at e1; exact e1
   exact (I.obs i a o e1' h1).mono x.preP x.kp h2
  ·exact h
 ·intro a o e
  exact keep a o (fun m=>by rw [I.sep a m] at e; cases e) (I.stat a o e)
 ·intro a m
  rcases List.mem_append.mp m with m | m
  ·exact I.sep a m
  ·exact zJ3 I (fr a m)
end
def zK0:Arguments->Bool
 | ⟨_,_,_,_,[],_,[]⟩=>true
 | _=>false
def uF:Arguments->Option Str
 | ⟨[],[p],none,[],[],none,[]⟩=>some p.arg
 | _=>none
abbrev zK6 (qual:Str)(params:Arguments)(body:Expr)(scope:Scope):FuncData:=kla_fn "<lambda>" qual params body scope [] .none .none .none
def zBj (lt:Value->Option Addr)(params:Arguments)(body:Expr)(scope:Scope)(ae:AE)(σ:Sto):Option (V×Sto):=
 if !zK0 params then none else match lt ae.code,(σ[0]? :Option Ob),zA7 ae.cells scope.names [] with
 | some P,some (.ctab P' false),some cl=>if P==P' then some (.trk (σ.length + 1),σ.set 0 (.ctab P true) ++ [.crec (ae.qual ++ "<lambda>"),.lam (zK6 (ae.qual ++ "<lambda>") params body scope) cl σ.length]) else none
 | _,_,_=>none
structure LamOK (K:Frag) (lt:Value->Option Addr):Prop where
 tab:∀c P,lt c=some P->∃a,c= .ref a/\∀h,K.In h->CodeHd h a P/\∃mg,h.Ns mainGlobals mg/\h.BuiltinsAt mg P/\mainGlobals≠P
def zIE:FuncBody->Option Expr
 | .expr b=>some b
 | _=>none
def xW (r:Rec)(i:Nat)(args:List V)(kw:List (Str×V))(σ:Sto):Option (V×Sto):=match (σ[i]? :Option Ob),args,kw with
 | some (.lam fd cl j),[v],[]=>(match zIE fd.body,uF fd.params,(σ[j]? :Option Ob) with
  | some e,some x,some (.crec q)=>if q==fd.qualname && fd.scope.kind== .function && !fd.scope.isCoroutine && !fd.scope.isGenerator && fd.globals==mainGlobals && fd.builtins==builtinsNs && fd.defaults== .none && fd.kwdefaults== .none then
    (match xG fd.scope cl [(x,v)] (fd.qualname ++ ".<locals>.") .none σ with
    | some (ae,σ₁)=>(match r.e e ae σ₁ with
     | some (u,σ₂)=>some (u,cut σ.length u σ₂)
     | none=>none)
    | none=>none) else none
  | _,_,_=>none)
 | _,_,_=>none
section
variable {prog:Program} {w:World} {A:Around} {K:Frag} {G:Gl} {B:Bnd} {n:Nat} {r:Rec} {ρ:List Addr} {σ σ':Sto} {s:Shared} {ae:AE} {env:Env}
theorem zKP {params:Arguments}(h:zK0 params=true)(env:Env):defaultsOf params env=([],[]):=by
 obtain ⟨a,b,c,d,e,f,g⟩:=params;cases e <;>cases g <;>first | rfl | cases h
theorem zFE (hlim:∀h,K.In h->h.NoLimit){lt:Value->Option Addr}(LO:LamOK K lt){params:Arguments}{body:Expr}{scope:Scope}{pos:Pos}{v:V}(h:zBj lt params body scope ae σ=some (v,σ'))(X:EnvR ρ ae env)(I:Inv K ρ σ s):
  SE (model prog w) A K ρ s (eval (.Lambda params body scope pos) env) v σ':=by
 intro Q E q;unfold zBj at h;split at h
 ·cases h
 ·rename_i hd
  split at h
  ·rename_i P P' cl h1 h2 h3
   split at h
   ·rename_i hP
    rw [beq_iff_eq] at hP; subst hP;cases h;obtain ⟨c,hc,hK⟩:=LO.tab _ _ h1;obtain ⟨C,mg,hg,hb,hgP⟩:=hK _ I.kin;have hcode:env.code= .ref c:=by
     rcases X.code with z | z
     ·rw [z] at hc; cases hc
     ·rw [z,hc]
    obtain ⟨l,hcl,hcr⟩:=zFT X h3;obtain ⟨a,ha,o,rfl,ho,hz⟩:=I.ob h2;have ho:=(hz rfl)▸ho;refine kla_eval (zKP (by simpa using hd) env) ?_;refine kla_makeFunction (ps:=#[]) hcl X.glob hg hcode C ho (by trivial) rfl hgP hb fun c' ctv h' tk hx hge hlt hrec htb=>?_;have n1:s.heap.get? c'=none:=Heap.get?_none_of_le hge;have n2:s.heap.get? h'.objs.size=none:=Heap.get?_none_of_le (Nat.le_trans hge (Nat.le_of_lt hlt));have ham:a∈ρ:=List.mem_of_getElem? ha;have hl:=I.len;have keep:∀b o,b ∉ ρ->s.heap.get? b=some o->h'.get? b=some o:=fun b o nb e=>hx b o (fun z=>nb (z▸ham)) e;have y:=I.gen (l:=[c',h'.objs.size]) (σ':=σ.set 0 (.ctab a true) ++ [.crec (ae.qual ++ "<lambda>"),.lam (zK6 (ae.qual ++ "<lambda>") params body scope) cl σ.length])
     (s':={s with heap:=h'.push (kla_obj "<lambda>" (env.qual ++ "<lambda>") params body scope l ((mg "__name__").getD .none) c' ctv),toks:=tk}) (by simp [I.len]) (by
      refine List.nodup_cons.mpr ⟨fun m=>?_,List.pairwise_singleton _ _⟩;rw [List.mem_singleton] at m;exact absurd m (Nat.ne_of_lt hlt)) (fun b hb=>by
      simp only [List.mem_cons,List.not_mem_nil,or_false] at hb;rcases hb with rfl | rfl
      ·exact n1
      ·exact n2) (fun b o nb e=>Heap.get?_push_of_some _ (keep b o nb e)) ?_ rfl rfl
    ·refine q _ _ _ y.1 y.2 ?_
     unfold VR;refine ⟨h'.objs.size,?_,rfl⟩;rw [List.getElem?_append_right (by omega)];simp [hl]
    ·intro i b ob e1 e2
     by_cases hi:i < σ.length
     ·rw [List.getElem?_append_left (by simpa using hi)] at e2
      rw [List.getElem?_append_left (by omega)] at e1
      by_cases hi0:i=0
      ·subst hi0
       rw [List.getElem?_set_self hi] at e2;rw [ha] at e1;cases e1; cases e2;exact .inr ⟨_,rfl,Heap.get?_push_of_some _ htb,fun z=>by cases z⟩
      ·rw [List.getElem?_set_ne (fun z=>hi0 z.symm)] at e2
       refine .inl ⟨e2,fun o e=>Heap.get?_push_of_some _ (hx b o (fun z=>?_) e)⟩;subst z;exact hi0 (yQ I.nd e1 ha)
     ·have e2':=e2
      rw [List.getElem?_append_right (by simp; omega)] at e2;rw [List.getElem?_append_right (by omega)] at e1;simp only [List.length_set] at e2;rw [hl] at e1;have hj:i - σ.length=0\/i - σ.length=1:=by
       have:=(List.getElem?_eq_some_iff.mp e2).1;simp at this; omega
      rcases hj with hj | hj
      ·rw [hj] at e1 e2
       cases e1; cases e2;refine .inr ?_;obtain ⟨c₂,oc,vs,t,f1,f2,f3,f4⟩:=hrec;cases f1;refine ⟨c',oc,vs,t,rfl,Heap.get?_push_of_some _ f2,f3,?_⟩;rw [<-X.qual]; exact f4
      ·rw [hj] at e1 e2
       cases e1; cases e2;refine .inr ⟨l,c',ctv,(mg "__name__").getD .none,?_,?_,?_⟩
       ·rw [List.getElem?_append_right (by omega)]; simp [hl]
       ·exact hcr.mono fun i b e=>by rw [List.getElem?_append_left (List.getElem?_eq_some_iff.mp e).1]; exact e
       ·rw [<-X.qual]; exact Heap.get?_push_size _ rfl
   ·cases h
  ·cases h
theorem zL4 {fd:FuncData}{x:Str}(h:uF fd.params=some x)(hd:fd.defaults= .none)(y:Value):bindArgs fd ⟨[y],[]⟩=pure [(x,y)]:=by
 obtain ⟨name,qualname,params,body,scope,globals,closure,defaults,kwdefaults,doc,pyModule,annotations,code,closureTuple,builtins⟩:=fd;dsimp only at h hd;subst hd;unfold uF at h;split at h
 ·cases h
  unfold bindArgs;simp [seqItems?];rfl
 ·cases h
theorem zEr (hlim:∀h,K.In h->h.NoLimit)(hr:Snd (model prog w) K n r)(hA:Rm A (n + 1)){i:Nat}{args:List V}{kw:List (Str×V)}{v:V}(h:xW r i args kw σ=some (v,σ'))(I:Inv K ρ σ s){a:Addr}(ha:ρ[i]? =some a){xs:List Value}{xk:List (Str×Value)}
  (rs:VRs ρ s.heap args xs) (rk:BindsR ρ s.heap kw xk):SE (model prog w) A K ρ s (call (.ref a) xs xk) v σ':=by
 intro Q E q;unfold xW at h;split at h
 ·rename_i fd cl j u h1
  split at h
  ·rename_i e x qn h2 h3 h4
   split at h
   ·rename_i hc
    simp only [Bool.and_eq_true,beq_iff_eq,Bool.not_eq_true'] at hc;obtain ⟨⟨⟨⟨⟨⟨⟨c1,c2⟩,c3⟩,c4⟩,c5⟩,c6⟩,c7⟩,c8⟩:=hc;split at h
    ·rename_i ae σ₁ h5
     split at h
     ·rename_i u' σ₂ h6
      cases h;obtain ⟨y,rfl,ry⟩:=zF rs;have rk:xk=[]:=rk;subst rk;obtain ⟨cl',c,ct,pm,hcj,hcr,ho⟩:=I.obs _ a _ ha h1;have hrec:s.heap.CodeRec (.ref c) qn:=I.obs _ c _ hcj h4;subst c1;have hbody:fd.body= .expr e:=by
       cases z:fd.body with
       | stmts b=>rw [z] at h2; cases h2
       | expr e'=>rw [z] at h2; cases h2; rfl
      refine wpAny_call ?_;refine kla_callFunE (by have:=hA.2.1; omega) ho rfl c3 c4 hbody hrec ?_;refine wpAny_of_eq (zL4 (fd:={fd with closure:=cl',code:= .ref c,closureTuple:=ct,pyModule:=pm}) h3 c7 y) ?_;show wpAny (model prog w) A.in1 (newFunctionEnv fd.scope fd.globals cl' [(x,y)] (fd.qualname ++ ".<locals>.") (some a) (.ref c) none fd.builtins) _ _ s;rw [c5,c6];refine zBg h5 (.inl rfl) I hcr ⟨y,[],rfl,ry,rfl⟩ c2 fun ρ₂ s₂ env I₂ X₂ E₂=>⟨hlim _ I₂.kin,?_⟩;refine kla_codeExpr (hr.e _ _ _ _ _ h6 _ env _ _ (hA.deeper env) E₂ I₂ _ _ fun ρ₃ s₃ z I₃ X₃ rz=>?_);exact zJ5 I₃ (X₂.then I₂ X₃) (by rw [<-I.len]; exact Nat.le_refl _) rz q
     ·cases h
    ·cases h
   ·cases h
  ·cases h
 ·cases h
end
end Mine
end
section
namespace Mine
theorem qI:Slot "callable_iterator" "__next__" "callable_iterator.__next__":=
 .of (owner:="callable_iterator") (n:="__next__") (by rw [typeLookup_type,builtinLookup_eq_fast]; kernel_rfl) (by decide +kernel) (by decide +kernel) (by decide +kernel)
  (by first | exact .inl (by decide +kernel) | exact .inr (by decide +kernel)) (by rw [isSubtype_type]; kernel_rfl)
theorem zAb:entryFor table "callable_iterator.__next__"=some Builtin.«callable_iterator.__next__» :=entryFor_of_tree (by kernel_rfl)
theorem zAW (a:Value):argsOk "callable_iterator.__next__" ⟨[a],[]⟩:=by unfold argsOk; kernel_rfl
theorem zBm:Slot "callable_iterator" "__iter__" "callable_iterator.__iter__":=
 .of (owner:="callable_iterator") (n:="__iter__") (by rw [typeLookup_type,builtinLookup_eq_fast]; kernel_rfl) (by decide +kernel) (by decide +kernel) (by decide +kernel)
  (by first | exact .inl (by decide +kernel) | exact .inr (by decide +kernel)) (by rw [isSubtype_type]; kernel_rfl)
theorem zEo:entryFor table "callable_iterator.__iter__"=some Builtin.«dict_keyiterator.__iter__» :=
 entryFor_alias (id':="dict_keyiterator.__iter__") (by kernel_rfl) (by first | rfl | decide +kernel | (unfold String.splitOn; simp +decide [String.splitOnAux])) (by decide +kernel) (by kernel_rfl)
theorem zFP (a:Value):argsOk "callable_iterator.__iter__" ⟨[a],[]⟩:=by unfold argsOk; kernel_rfl
def zIq (kf:Addr->Bool)(args:List V)(σ:Sto):Option (V×Sto):=match args with
 | [.trk i,.str q]=>(match (σ[i]? :Option Ob) with
  | some (.meth f _)=>if kf f then some (.trk σ.length,σ ++ [.citer (.trk i) (.str q) true]) else none
  | _=>none)
 | _=>none
def zEX (kf:Addr->Bool)(r:Rec)(i:Nat)(σ:Sto):Option (Option V×Sto):=match (σ[i]? :Option Ob) with
 | some (.citer (.trk j) (.str q) true)=>(match (σ[j]? :Option Ob) with
  | some (.meth g _)=>if !kf g then none else (match r.c (.trk j) [] [] σ with
   | some (.str x,σ₁)=>(match (σ₁[i]? :Option Ob),(σ₁[j]? :Option Ob) with
    | some (.citer (.trk j') (.str q') true),some (.meth g' _)=>
     if !(j'==j) || !kf g' then none
     else if eqS q' x then some (none,σ₁.set i (.citer .none .none false)) else some (some (.str x),σ₁)
    | _,_=>none)
   | _=>none)
  | _=>none)
 | some (.citer _ _ false)=>some (none,σ)
 | _=>none
section
variable {prog:Program} {w:World} {A:Around} {K:Frag} {G:Gl} {B:Bnd} {n:Nat} {r:Rec} {ρ:List Addr} {σ σ':Sto} {s:Shared} {ae:AE} {env:Env}
theorem Rm.in1 (h:Rm A (n + 1)):Rm A.in1 n:=⟨h.1,by show A.depth + 4 * n < _; have:=h.2.1; omega,by show A.units + 1 + 16 * n < _; have:=h.2.2; omega⟩
theorem zKy:builtinKind "iter"=none:=by decide +kernel
theorem zIh:plainId "iter"=true:=by decide +kernel
theorem zIC (a b:Value):argsOk "iter" ⟨[a,b],[]⟩:=by unfold argsOk; kernel_rfl
theorem zBK:∃v,typeLookup (.type "method") "__call__"=pure (some v):=⟨.builtin "method.__call__",by rw [typeLookup_type,builtinLookup_eq_fast]; kernel_rfl⟩
theorem zHa {kf:Addr->Bool}{args:List V}{v:V}(h:zIq kf args σ=some (v,σ'))(I:Inv K ρ σ s){xs:List Value}(rs:VRs ρ s.heap args xs):SE (model prog w) A K ρ s (call (.builtin "iter") xs) v σ':=by
 intro Q E q;unfold zIq at h;split at h
 ·rename_i i x
  split at h
  ·rename_i f u hi
   split at h
   ·cases h
    unfold VRs at rs;obtain ⟨y,ys,rfl,ry,rys⟩:=rs;obtain ⟨z,rfl,rz⟩:=zF rys;obtain ⟨a,ha,rfl⟩:=vrT ry;obtain ⟨sx,_,ho⟩:=I.obs _ a _ ha hi;obtain ⟨vv,hv⟩:=zBK;refine call_function_entry zKy zIh kdk_entry_iter (zIC _ _) ?_;unfold Builtin.«iter»;refine wpAny_bind (m:=someArgs "iter" 1 2 _) (wpAny_of_eq (a:=[Value.ref a,z]) (by first | rfl | kernel_rfl!) ?_);dsimp only;refine wpAny_bind (wpAny_specialOf (T:="method") ⟨_,ho,rfl⟩ hv ?_);simp only [Option.isNone_some,Bool.false_eq_true,if_false];refine wpAny_bind (wpAny_rule (wpAny_bind ?_));have y:=I.alloc (o:={cls:= .type "callable_iterator",data:= .fields #[.ref a,z,.bool false]}) (ob:= .citer (.trk i) (.str x) true) (tk:=s.toks) (.inr trivial) ⟨.ref a,z,Heap.get?_push_size _ rfl,fun _=>by
     have p:Pre ρ (ρ ++ [s.heap.objs.size]):=fun i b e=>by rw [List.getElem?_append_left (List.getElem?_eq_some_iff.mp e).1]; exact e
     have k:Kp ρ (ρ ++ [s.heap.objs.size]) s.heap (s.heap.push {cls:= .type "callable_iterator",data:= .fields #[.ref a,z,.bool false]}):=fun b o nb e _=>⟨Heap.get?_push_of_some _ e,fun m=>by
      rcases List.mem_append.mp m with m | m
      ·exact nb m
      ·rw [List.mem_singleton] at m; subst m; rw [yX] at e; cases e⟩
     exact ⟨ry.mono p k,rz.mono p k⟩⟩
    refine wpAny_newObj_type ?_ (by size_fits);refine wpAny_pure ⟨_,rfl,?_⟩;refine q _ _ _ y.1 y.2 ?_;unfold VR;exact ⟨s.heap.objs.size,by rw [<-I.len,List.getElem?_append_right (Nat.le_refl _),Nat.sub_self]; rfl,rfl⟩
   ·cases h
  ·cases h
 ·cases h
theorem zCo {f:Value}{Q:Value->Shared->Prop}{E:Value->Shared->Prop}(h:wpAny (model prog w) A (call f [] []) Q E s):wpAny (model prog w) A (callBorrowed f []) Q E s:=fun Γ p hΓ=>by
 have z:=h Γ p hΓ;unfold call at z;rw [Sem.wp_runValue] at z;unfold callBorrowed;rw [Sem.wp_call];refine wpCode_mono (fun r s' h=>?_) z;cases r with
 | error e=>exact h
 | ok f=>cases f <;>first | exact h | exact h.elim
end
end Mine
end
section
namespace Mine
section
variable {prog:Program} {w:World} {A:Around} {K:Frag} {G:Gl} {B:Bnd} {n:Nat} {r:Rec} {ρ:List Addr} {σ σ':Sto} {s:Shared} {ae:AE} {env:Env}
theorem zJm (it:Value):Builtin.«callable_iterator.__next__» ⟨[it],[]⟩=(do
  if (<-field it 2)== .bool true then rule "callable_iterator.__next__.ended"; Builtin.SmallTypes.stopIteration
  match <-(callOutOfASlot (<-field it 0)).attempt with
  | .error e=>
   if !(<-isInstance e (.type "StopIteration")) then throw e
   rule "callable_iterator.__next__.stop-iteration"
   (do slotLetsGo "callable_iterator.__next__" (<-field it 0) (fun | .builtin "callable_iterator.__next__" x=>x.pos.head? ==some it | _=>false); setField it 0 .none; setField it 1 .none; setField it 2 (.bool true))
   Builtin.SmallTypes.stopIteration
  | .ok r=>
   if (<-field it 2)== .bool true then rule "callable_iterator.__next__.ended-meanwhile"; Builtin.SmallTypes.stopIteration
   if !(<-holding [r] (eqBool (<-field it 1) r)) then return <-ret r
   rule "callable_iterator.__next__.sentinel"
   (do slotLetsGo "callable_iterator.__next__" (<-field it 0) (fun | .builtin "callable_iterator.__next__" x=>x.pos.head? ==some it | _=>false); setField it 0 .none; setField it 1 .none; setField it 2 (.bool true))
   Builtin.SmallTypes.stopIteration):=rfl
theorem zAX {kf:Addr->Bool}{kp:Addr->Bool}(KO:KeepOK K kp kf){g a:Addr}{x:Value}(hk:kf g=true)(hK:K.In s.heap)(ho:s.heap.get? a=some (methodObj (.ref g) x)){Q:Bool->Shared->Prop}{E:Value->Shared->Prop}(q:Q true s):
  wpAny (model prog w) A (borrowsExactly (.ref a)) Q E s:=by
 have hf:=KO.fnk _ hk;unfold fnIn at hf;split at hf
 ·rename_i o1 o2 fd o3 hl
  unfold borrowsExactly;refine wpAny_bind (wpAny_load ho ?_);show wpAny (model prog w) A (do match (<-load g).data with
   | .func _=>pure true
   | _=>pure false) Q E s
  refine wpAny_bind (wpAny_load (hK _ _ hl) ?_);exact wpAny_pure q
 ·cases hf
theorem zBD {α:Type}(hh:A.handled=none){Q:α->Shared->Prop}{E:Value->Shared->Prop}(q:∀h' e,(∀b o,s.heap.get? b=some o->h'.get? b=some o)->(∃o,h'.get? e=some o/\o.cls= .type "StopIteration")->E (.ref e) {s with heap:=h'}):
  wpAny (model prog w) A (Builtin.SmallTypes.stopIteration:Sem α) Q E s:=by
 unfold Builtin.SmallTypes.stopIteration;refine wpAny_bind ?_;simp only [newExc,newTuple];refine wpAny_bind (wpAny_newObj_type ?_ (by size_fits));refine wpAny_bind (m:=firstArgMember _ _) (wpAny_of_eq (a:=Value.none) (by first | rfl | (simp only [firstArgMember]; rfl)) ?_);refine wpAny_newObj_type ?_ (by size_fits);simp only [raiseNew];refine wpAny_bind (wpAny_handled ?_);rw [show A.handled=none from hh];refine wpAny_bind (wpAny_pure (wpAny_throw ?_));exact q _ _ (fun b o e=>Heap.get?_push_of_some _ (Heap.get?_push_of_some _ e)) ⟨_,Heap.get?_push_size _ rfl,rfl⟩
theorem vT {e:Addr}(he:∃o,s.heap.get? e=some o/\o.cls= .type "StopIteration"){Q:Option Value->Shared->Prop}{E:Value->Shared->Prop}(q:Q none s):
  wpAny (model prog w) A (do if <-isInstance (.ref e) (.type "StopIteration") then pure none else throw (.ref e):Sem (Option Value)) Q E s:=
 wpAny_bind (wpAny_isInstance (T:="StopIteration") (b:=true) he isSubtype_stop (wpAny_pure q))
theorem zG8 {kf:Addr->Bool}{kp:Addr->Bool}(KO:KeepOK K kp kf)(hr:Snd (model prog w) K n r)(hA:Rm A (n + 1)){i:Nat}{o:Option V}(h:zEX kf r i σ=some (o,σ'))(I:Inv K ρ σ s){a:Addr}(ha:ρ[i]? =some a){Q:Option Value->Shared->Prop}{E:Value->Shared->Prop}
  (q:∀ρ' s' x,Inv K ρ' σ' s'->Ext ρ s ρ' s'->OR ρ' s'.heap o x->Q x s'):wpAny (model prog w) A (pyNext (.ref a)) Q E s:=by
 unfold zEX at h;split at h
 ·rename_i j qs hi
  split at h
  ·rename_i g self hj
   split at h
   ·cases h
   ·rename_i hk
    have hk:kf g=true:=by simpa using hk
    split at h
    ·rename_i x σ₁ h1
     split at h
     ·rename_i j' q' g' self' hi1 hj1
      split at h
      ·cases h
      ·rename_i hc
       simp only [Bool.or_eq_true,not_or,Bool.not_eq_true,Bool.not_eq_false',beq_iff_eq] at hc;obtain ⟨hjj,hk'⟩:=hc;have hjj:j'=j:=by simpa using hjj
       subst hjj;obtain ⟨fx,fy,ho,hv⟩:=I.obs _ a _ ha hi;obtain ⟨rfx,rfy⟩:=hv rfl;obtain ⟨m,hm,rfl⟩:=vrT rfx;obtain ⟨t,rfl⟩:=vrS rfy;obtain ⟨sx,_,hmo⟩:=I.obs _ m _ hm hj;have hT:s.TypeIs (.ref a) "callable_iterator":=⟨_,ho,rfl⟩;unfold pyNext;refine wpAny_bind (wpAny_attempt (wpAny_callSpecial?_slot (name:=Str.ofString "__next__") hT qI (wpAny_call_entry qI hT zAb ?_ (zAW _))));rw [zJm];refine wpAny_bind (wpAny_field ho rfl (x:= .bool false) rfl ?_);show wpAny (model prog w) A.in1 (if (Value.bool false==Value.bool true)=true then _ else _) _ _ s;rw [if_neg (show ¬((Value.bool false==Value.bool true)=true) from Bool.false_ne_true)];refine wpAny_bind (wpAny_field ho rfl (x:= .ref m) rfl ?_);refine wpAny_bind (wpAny_attempt ?_);unfold callOutOfASlot;refine wpAny_bind (zAX KO hk I.kin hmo ?_);rw [if_pos rfl];refine zCo (hr.c _ _ _ _ _ _ h1 _ _ _ _ [] [] hA.in1 I rfx (by unfold VRs; rfl) ⟨rfl,by unfold VRs; rfl⟩ _ _ fun ρ₁ s₁ y I₁ X₁ ry=>?_);obtain ⟨t',rfl⟩:=vrS ry;have ha₁:=X₁.preP _ _ ha;have hm₁:=X₁.preP _ _ hm;obtain ⟨fx',fy',ho₁,hv₁⟩:=I₁.obs _ a _ ha₁ hi1;obtain ⟨rfx₁,rfy₁⟩:=hv₁ rfl;obtain ⟨m',hm',rfl⟩:=vrT rfx₁;rw [hm₁] at hm'; cases hm';obtain ⟨t'',rfl⟩:=vrS rfy₁;obtain ⟨sx',_,hmo₁⟩:=I₁.obs _ m _ hm₁ hj1;dsimp only;refine wpAny_bind (wpAny_field ho₁ rfl (x:= .bool false) rfl ?_);show wpAny (model prog w) A.in1 (if (Value.bool false==Value.bool true)=true then _ else _) _ _ s₁;rw [if_neg (show ¬((Value.bool false==Value.bool true)=true) from Bool.false_ne_true)];refine wpAny_bind (wpAny_field ho₁ rfl (x:= .str q' t'') rfl ?_);refine wpAny_bind (wpAny_holding (wpAny_eqBool_str ?_));split at h
       ·rename_i hq
        rw [qT,beq_iff_eq] at hq; subst hq;cases h;simp only [decide_true,Bool.not_true,Bool.false_eq_true,if_false];refine wpAny_bind (wpAny_rule ?_);refine wpAny_bind (wpAny_bind (wpAny_field ho₁ rfl (x:= .ref m) rfl ?_));unfold slotLetsGo;refine wpAny_bind (wpAny_bind (zAX KO hk' I₁.kin hmo₁ ?_));rw [if_pos rfl];refine wpAny_pure (wpAny_bind (wpAny_setField ho₁ rfl (by simp) ?_));have g1:=Heap.get?_update_self (Obj.mapFields (·.setIfInBounds 0 Value.none)) ho₁ rfl;refine wpAny_bind (wpAny_setField g1 rfl (by simp [Obj.mapFields]) ?_);have g2:=Heap.get?_update_self (Obj.mapFields (·.setIfInBounds 1 Value.none)) g1 rfl;refine wpAny_setField g2 rfl (by simp [Obj.mapFields]) ?_;have g3:=Heap.get?_update_self (Obj.mapFields (·.setIfInBounds 2 (Value.bool true))) g2 rfl;refine zBD (show A.in1.handled=none from hA.1) fun h' e hk2 he=>?_;refine vT he ?_;have z:=I₁.upd (ob:= .citer .none .none false) (tk:=s₁.toks) ha₁ (h':=h') (fun b o nb e=>hk2 b o (by
         rw [(Heap.SameBut.update _ a _).2 b nb,(Heap.SameBut.update _ a _).2 b nb,(Heap.SameBut.update _ a _).2 b nb]; exact e)) ⟨.none,.none,hk2 _ _ g3,fun z=>by cases z⟩
        exact q _ _ none z.1 (X₁.then I₁ z.2) trivial
       ·rename_i hq
        cases h;have:decide (q'=x)=false:=by rw [qT] at hq; simpa using hq
        rw [this];simp only [Bool.not_false,if_true];exact wpAny_pure ⟨_,rfl,wpAny_pure (q _ _ _ I₁ X₁ (show VR _ _ _ _ from ry))⟩
     ·cases h
    ·cases h
  ·cases h
 ·rename_i f u hi
  cases h;obtain ⟨fx,fy,ho,_⟩:=I.obs _ a _ ha hi;have hT:s.TypeIs (.ref a) "callable_iterator":=⟨_,ho,rfl⟩;unfold pyNext;refine wpAny_bind (wpAny_attempt (wpAny_callSpecial?_slot (name:=Str.ofString "__next__") hT qI (wpAny_call_entry qI hT zAb ?_ (zAW _))));rw [zJm];refine wpAny_bind (wpAny_field ho rfl (x:= .bool true) rfl ?_);show wpAny (model prog w) A.in1 (if (Value.bool true==Value.bool true)=true then _ else _) _ _ s;rw [if_pos (by rfl)];refine wpAny_bind (wpAny_rule (wpAny_bind ?_));refine zBD (show A.in1.handled=none from hA.1) fun h' e hk2 he=>?_;refine vT he ?_;exact q _ _ none (I.keeps (tk:=s.toks) hk2) (uP hk2) trivial
 ·cases h
end
end Mine
end
section
namespace Mine
def zGd:Expr->Bool
 | .Tuple .. =>true
 | _=>false
def zLW (args:List V)(σ:Sto):Option (V×Sto):=match args with
 | [u]=>(match zS u σ with
  | some _=>some (.trk (σ.length + 1),σ ++ [.liter u 0,.enum σ.length 0])
  | none=>none)
 | _=>none
def zHV (args:List V)(σ:Sto):Option (V×Sto):=match args with
 | [.trk i]=>(match (σ[i]? :Option Ob) with
  | some (.dict [])=>some (.trk σ.length,σ ++ [.itms i])
  | _=>none)
 | _=>none
def zCK (kf:Addr->Bool)(r:Rec)(t:Expr)(i:Nat)(σ:Sto):Option (Option V×Sto):=match (σ[i]? :Option Ob) with
 | some (.citer _ _ _)=>zEX kf r i σ
 | some (.enum j k)=>if !zGd t || i==j then none else (match (σ[j]? :Option Ob) with
  | some (.liter src k')=>if !(k'==k) then none else (match zS src σ with
   | some l=>(match l[k]? with
    | some v=>some (some (.tup [.int k,v]),(σ.set i (.enum j (k + 1))).set j (.liter src (k + 1)))
    | none=>some (none,σ.set j .junk))
   | none=>none)
  | _=>none)
 | _=>none
section
variable {prog:Program} {w:World} {A:Around} {K:Frag} {G:Gl} {B:Bnd} {n:Nat} {r:Rec} {ρ:List Addr} {σ σ':Sto} {s:Shared} {ae:AE} {env:Env}
theorem zIU {args:List V}{v:V}(h:zLW args σ=some (v,σ'))(I:Inv K ρ σ s){xs:List Value}(rs:VRs ρ s.heap args xs):SE (model prog w) A K ρ s (call (.type "enumerate") xs) v σ':=by
 intro Q E q;unfold zLW at h;split at h
 ·rename_i u
  split at h
  ·rename_i l hl
   cases h;obtain ⟨y,rfl,ry⟩:=zF rs;obtain ⟨a,items,n,rfl,ho,r2⟩:=yI I hl ry;refine call_enumerate_list ⟨_,ho,rfl,n,rfl⟩ fun h' he hit hsz hk=>?_;have hlen:=I.len;have z:=I.gen (l:=[s.heap.objs.size,s.heap.objs.size + 1]) (σ':=σ ++ [.liter u 0,.enum σ.length 0]) (s':={s with heap:=h'}) (by simp [I.len]) (by
     refine List.nodup_cons.mpr ⟨fun m=>?_,List.pairwise_singleton _ _⟩;rw [List.mem_singleton] at m;exact absurd m (Nat.ne_of_lt (Nat.lt_succ_self _))) (fun b hb=>by
     simp only [List.mem_cons,List.not_mem_nil,or_false] at hb;rcases hb with rfl | rfl
     ·exact yX _
     ·exact Heap.get?_none_of_le (Nat.le_succ _)) (fun b o _ e=>hk b o e) ?_ rfl rfl
   ·refine q _ _ _ z.1 z.2 ?_
    unfold VR;refine ⟨_,?_,rfl⟩;rw [List.getElem?_append_right (by omega)];simp [hlen]
   ·have p:Pre ρ (ρ ++ [s.heap.objs.size,s.heap.objs.size + 1]):=fun i b e=>by rw [List.getElem?_append_left (List.getElem?_eq_some_iff.mp e).1]; exact e
    have kp:Kp ρ (ρ ++ [s.heap.objs.size,s.heap.objs.size + 1]) s.heap h':=fun b o nb e _=>⟨hk b o e,fun m=>by
     have:=Heap.lt_size e;rcases List.mem_append.mp m with m | m
     ·exact nb m
     ·simp only [List.mem_cons,List.not_mem_nil,or_false] at m
      rcases m with rfl | rfl
      ·exact Nat.lt_irrefl _ this
      ·exact absurd this (Nat.not_lt.mpr (Nat.le_succ _))⟩
    intro i b ob e1 e2
    by_cases hi:i < σ.length
    ·rw [List.getElem?_append_left hi] at e2
     exact .inl ⟨e2,fun o e=>hk b o e⟩
    ·rw [List.getElem?_append_right (by omega)] at e2
     rw [List.getElem?_append_right (by omega)] at e1;rw [hlen] at e1;have hj:i - σ.length=0\/i - σ.length=1:=by
      have:=(List.getElem?_eq_some_iff.mp e2).1;simp at this; omega
     rcases hj with hj | hj
     ·rw [hj] at e1 e2
      cases e1; cases e2;exact .inr ⟨a,hit,ry.mono p kp⟩
     ·rw [hj] at e1 e2
      cases e1; cases e2;refine .inr ⟨s.heap.objs.size,.none,?_,he⟩;rw [List.getElem?_append_right (by omega)];simp [hlen]
  ·cases h
 ·cases h
theorem zKW (hsm:(K.lookup sysModules).isSome=true)(I:Inv K ρ σ s){i:Nat}{a:Addr}(ha:ρ[i]? =some a):(a==sysModules)=false:=by
 rw [beq_eq_false_iff_ne];rintro rfl;rw [I.sep _ (List.mem_of_getElem? ha)] at hsm; cases hsm
theorem zHf (hsm:(K.lookup sysModules).isSome=true){args:List V}{v:V}(h:zHV args σ=some (v,σ'))(I:Inv K ρ σ s){xs:List Value}(rs:VRs ρ s.heap args xs):SE (model prog w) A K ρ s (call (.builtin "dict.items") xs) v σ':=by
 intro Q E q;unfold zHV at h;split at h
 ·rename_i i
  split at h
  ·rename_i hi
   cases h;obtain ⟨y,rfl,ry⟩:=zF rs;obtain ⟨a,ha,rfl⟩:=vrT ry;obtain ⟨es,n,ho,re⟩:=I.obs _ a _ ha hi;have re:es=[]:=re;subst re;have hd:s.heap.DictOf (strKind prog w) a []:=⟨_,#[],n,ho,⟨rfl,rfl,rfl⟩,rfl,(by unfold PySem.KeysOf; intro e he; simp at he),.nil,List.nodup_nil⟩;refine call_meetsIn PySem.F.slot_dict_items ⟨_,ho,rfl⟩ PySem.F.entry_dict_items (PySem.F.args_dict_items_1 _) (meets_dict_items (strKind prog w) a (zKW hsm I ha)) ⟨⟨[],hd⟩,?_⟩;have z:=I.alloc (o:={cls:= .type "dict_items",data:= .fields #[.ref a]}) (ob:= .itms i) (tk:=s.toks) (.inr trivial) ⟨a,by
    rw [List.getElem?_append_left (List.getElem?_eq_some_iff.mp ha).1]; exact ha,Heap.get?_push_size _ rfl⟩
   refine q _ _ _ z.1 z.2 ?_;unfold VR;exact ⟨s.heap.objs.size,by rw [<-I.len,List.getElem?_append_right (Nat.le_refl _),Nat.sub_self]; rfl,rfl⟩
  ·cases h
 ·cases h
end
end Mine
end
section
namespace Mine
def zZ (kf:Addr->Bool)(r:Rec)(t:Expr)(i:Nat)(σ:Sto):Option (Option V×Sto):=match zCK kf r t i σ with
 | some (some v,σ₁)=>(match (σ[i]? :Option Ob),(σ₁[i]? :Option Ob) with
  | some (.citer _ _ _),some (.citer _ _ _)=>some (some v,σ₁)
  | some (.enum _ _),_=>some (some v,σ₁)
  | _,_=>none)
 | x=>x
section
variable {prog:Program} {w:World} {A:Around} {K:Frag} {G:Gl} {B:Bnd} {n:Nat} {r:Rec} {ρ:List Addr} {σ σ':Sto} {s:Shared} {ae:AE} {env:Env}
theorem zFV {it l:Addr}{i:Nat}{items}{Q:Value->Shared->Prop}{E:Value->Shared->Prop}(hh:A.handled=none)
  (hit:s.heap.IsListIter it l i) (hl:s.heap.IsList l items) (hx:items[i]? =none)
  (hE:∀h' e,Heap.ExtBut it s.heap h'->(∃o,h'.get? it=some o)->(∃o,h'.get? e=some o/\o.cls= .type "StopIteration")->E (.ref e) {s with heap:=h'}):
  wpAny (model prog w) A (Builtin.SmallTypes.nextOf (.ref it)) Q E s:=by
 obtain ⟨o,ho,hc,hd⟩:=id hit;obtain ⟨ol,hol,_,nl,hdl⟩:=hl;unfold Builtin.SmallTypes.nextOf;refine wpAny_bind (wpAny_callSpecial?_slot (name:=Str.ofString "__next__") hit.typeIs slot_listiter_next
  (wpAny_call_entry slot_listiter_next hit.typeIs entry_listiter_next ?_ (args_listiter_next _)))
 show wpAny _ _ (field (.ref it) 0 >>=_) _ _ s;refine wpAny_bind (wpAny_field ho hd (x:= .ref l) rfl ?_);show wpAny _ _ (if (Value.ref l==Value.none)=true then _ else _) _ _ s;rw [if_neg (show ¬((Value.ref l==Value.none)=true) from Bool.false_ne_true)];show wpAny _ _ (field (.ref it) 1 >>=_) _ _ s;refine wpAny_bind (wpAny_field ho hd (x:= .int i 0) rfl ?_);show wpAny _ _ (seqItems? (.ref l) >>=_) _ _ s;refine wpAny_bind (wpAny_seqItems hol hdl ?_);simp only [Int.toNat_natCast,hx];refine wpAny_bind (wpAny_rule (wpAny_bind (wpAny_setField ho hd (by simp) ?_)));obtain ⟨oc,od,oda,osl⟩:=o;dsimp only at hd hc;subst hd;have g1:=Heap.get?_update_self (Obj.mapFields (·.setIfInBounds 0 Value.none)) ho rfl;refine zBD (show A.in1.handled=none from hh) fun h' e hk he=>?_;exact hE _ _ (fun b o nb e=>hk _ _ ((Heap.SameBut.update ..).extBut b o nb e)) ⟨_,hk _ _ g1⟩ he
theorem zMy {e it l:Addr}{i:Nat}{items:Array Value}{old:Value}{Q:Option Value->Shared->Prop}{E:Value->Shared->Prop}(hh:A.handled=none)
  (he:IsEnum s.heap e it i old) (hit:s.heap.IsListIter it l i) (hl:s.heap.IsList l items) (hx:items[i]? =none)
  (hQ:∀h',Heap.ExtBut it s.heap h'->(∃o,h'.get? it=some o)->Q none {s with heap:=h'}):wpAny (model prog w) A (pyNext (.ref e)) Q E s:=by
 have hT:s.TypeIs (.ref e) "enumerate":=⟨_,he,rfl⟩;unfold pyNext;refine wpAny_bind (wpAny_attempt (wpAny_callSpecial?_slot (name:=Str.ofString "__next__") hT F.slot_enumerate_next
  (wpAny_call_entry F.slot_enumerate_next hT F.entry_enumerate_next ?_ (F.args_enumerate_next_1 _))))
 show wpAny _ _ (field (.ref e) 2 >>=_) _ _ _;refine wpAny_bind (wpAny_field he rfl (x:= .ref it) rfl ?_);refine wpAny_bind (zFV (show A.in1.handled=none from hh) hit hl hx fun h' x he' hi hx'=>?_);exact vT hx' (hQ _ he' hi)
theorem zAy {i j:Nat}{a b:Addr}(I:Inv K ρ σ s)(ha:ρ[i]? =some a)(hb:ρ[j]? =some b)(h:i≠j):a≠b:=fun z=>h (yQ I.nd ha (z▸hb))
theorem zHq {kf:Addr->Bool}{kp:Addr->Bool}(KO:KeepOK K kp kf)(hr:Snd (model prog w) K n r)(hA:Rm A (n + 1)){i:Nat}{t:Expr}{o:Option V}(h:zZ kf r t i σ=some (o,σ'))(I:Inv K ρ σ s){a:Addr}(ha:ρ[i]? =some a){Q:Option Value->Shared->Prop}{E:Value->Shared->Prop}
  (q:∀ρ' s' x,Inv K ρ' σ' s'->Ext ρ s ρ' s'->OR ρ' s'.heap o x->Q x s'):
  wpAny (model prog w) A (pyNext (.ref a)) (fun y s₁=>match y with | none=>Q none s₁ | some x=>wpAny (model prog w) A (letOwnedTupleGo t (.ref a) x) (fun _ s₂=>Q (some x) s₂) E s₁) E s:=by
 have hu:=h;unfold zZ at h;have ht:zCK kf r t i σ=some (o,σ'):=by
  split at h
  ·rename_i v σ₁ h1
   split at h <;>first | (cases h; exact h1) | cases h
  ·exact h
 unfold zCK at ht;split at ht
 ·rename_i cf cs cl hi
  refine zG8 KO hr hA ht I ha fun ρ' s' x I' X' rx=>?_;cases o with
  | none=>cases x with
   | none=>exact q _ _ _ I' X' rx
   | some x=>exact rx.elim
  | some v=>cases x with
   | none=>exact rx.elim
   | some x=>
    have hi':∃f' s'' l',σ'[i]? =some (.citer f' s'' l'):=by
     split at h
     ·rename_i v' σ₁ h1
      split at h
      ·rename_i f' s'' l' hs; cases h; exact ⟨_,_,_,hs⟩
      ·rename_i e1; rw [hi] at e1; cases e1
      ·cases h
     ·rename_i hn; exact absurd h (hn _ _)
    obtain ⟨f',s'',l',hs⟩:=hi';obtain ⟨y1,y2,ho,_⟩:=I'.obs _ a _ (X'.preP _ _ ha) hs;exact zA9 ho rfl (by decide) (q _ _ _ I' X' rx)
 ·rename_i j k hi
  split at ht
  ·cases ht
  ·rename_i hc
   simp only [Bool.or_eq_true,not_or,Bool.not_eq_true,Bool.not_eq_false',Bool.not_eq_eq_eq_not,Bool.not_true,Bool.not_false] at hc;obtain ⟨hc1,hc2⟩:=hc;have hc1:zGd t=true:=by simpa using hc1
   have hij:i≠j:=by simpa using hc2
   split at ht
   ·rename_i src k' hj
    split at ht
    ·cases ht
    ·rename_i hk
     have hk:k'=k:=by simpa using hk
     subst hk;split at ht
     ·rename_i l hl
      obtain ⟨it,old,hit,he⟩:=I.obs _ a _ ha hi;obtain ⟨la,hli,rsrc⟩:=I.obs _ it _ hit hj;obtain ⟨la',items,m,e,hlo,rs⟩:=yI I hl rsrc;cases e;have elen:=rs.length;simp only [Array.length_toList] at elen;have hne:a≠it:=zAy I ha hit hij;have hlen:=I.len;split at ht
      ·rename_i v hv
       cases ht;obtain ⟨x,hx,rx⟩:=rs.get hv;refine wpAny_pyNext_enum_item he hli ⟨_,hlo,rfl,m,rfl⟩ (x:=x) (by simpa using hx) hne fun h' e1 e2 e3 e4 e5=>?_;cases t <;>try (cases hc1; done)
       refine wpAny_letOwnedTupleGo_enum (s:={s with heap:=h',toks:=s.toks + 1}) e1 fun h'' e6 e7=>?_;have old':∀b o,b≠a->b≠it->s.heap.get? b=some o->h''.get? b=some o:=fun b o n1 n2 g=>e7.extBut b o n1 (e5 b o n1 n2 g);have kp:Kp ρ ρ s.heap h'':=fun b o nb g _=>⟨old' b o (fun z=>nb (z▸List.mem_of_getElem? ha)) (fun z=>nb (z▸List.mem_of_getElem? hit)) g,nb⟩;have z:=I.gen (l:=[]) (σ':=(σ.set i (.enum j (k' + 1))).set j (.liter src (k' + 1))) (s':={s with heap:=h'',toks:=s.toks + 1}) (by simp [I.len]) List.nodup_nil (fun b hb=>by cases hb)
        (fun b o nb g=>old' b o (fun z=>nb (z▸List.mem_of_getElem? ha)) (fun z=>nb (z▸List.mem_of_getElem? hit)) g) ?_ rfl rfl
       ·rw [List.append_nil] at z
        refine q _ _ _ z.1 z.2 ?_;show VR _ _ _ _;unfold VR;refine ⟨_,_,_,rfl,I.fresh,e7.extBut _ _ (fun z=>?_) e3,?_⟩
        ·obtain ⟨o,g⟩:=I.has a (List.mem_of_getElem? ha)
         exact absurd (Heap.lt_size g) (by rw [<-z]; exact Nat.lt_irrefl _)
        ·unfold VRs
         refine ⟨_,_,rfl,qK,?_⟩;unfold VRs;exact ⟨_,_,rfl,rx.mono (fun _ _ e=>e) kp,rfl⟩
       ·intro p b ob g1 g2
        rw [List.append_nil] at g1 ⊢
        by_cases hpj:p=j
        ·subst hpj
         rw [List.getElem?_set_self (by simp; rw [<-hlen]; exact (List.getElem?_eq_some_iff.mp hit).1)] at g2;rw [hit] at g1; cases g1; cases g2;exact .inr ⟨la,e2.extBut e7.extBut hne.symm,rsrc.mono (fun _ _ e=>e) kp⟩
        ·rw [List.getElem?_set_ne (fun z=>hpj z.symm)] at g2
         by_cases hpi:p=i
         ·subst hpi
          rw [List.getElem?_set_self (by rw [<-hlen]; exact (List.getElem?_eq_some_iff.mp ha).1)] at g2;rw [ha] at g1; cases g1; cases g2;exact .inr ⟨it,x,hit,by simpa using e6⟩
         ·rw [List.getElem?_set_ne (fun z=>hpi z.symm)] at g2
          exact .inl ⟨g2,fun o g=>old' b o (zAy I g1 ha hpi) (zAy I g1 hit hpj) g⟩
      ·rename_i hv
       cases ht;refine zMy hA.1 he hli ⟨_,hlo,rfl,m,rfl⟩ ?_ fun h' e1 e2=>?_
       ·rw [Array.getElem?_eq_none_iff]
        rw [List.getElem?_eq_none_iff] at hv;omega
       ·have z:=I.upd (ob:= .junk) (tk:=s.toks) hit e1 e2
        exact q _ _ none z.1 z.2 trivial
     ·cases ht
   ·cases ht
 ·cases ht
end
end Mine
end
section
namespace Mine
def yL (kf:Addr->Bool)(r:Rec)(t:Expr)(body:List Stmt)(ae:AE)(i:Nat):Nat->Sto->Option (Fl×Sto)
 | 0,_=>none
 | f + 1,σ=>match zZ kf r t i σ with
  | some (none,σ₁)=>some (.next,σ₁)
  | some (some v,σ₁)=>(match qD t v ae σ₁ with
   | some σ₂=>(match evs r body ae σ₂ with
    | some (.next,σ₃)=>yL kf r t body ae i f σ₃
    | some (.cont,σ₃)=>yL kf r t body ae i f σ₃
    | some (.brk,σ₃)=>some (.next,σ₃)
    | some (.ret v,σ₃)=>some (.ret v,σ₃)
    | none=>none)
   | none=>none)
  | none=>none
inductive Src where
 | ito | items | other
def zEU (v:V)(σ:Sto):Src:=match v with
 | .trk i=>(match (σ[i]? :Option Ob) with
  | some (.citer _ _ _)=> .ito
  | some (.enum _ _)=> .ito
  | some (.itms j)=>(match (σ[j]? :Option Ob) with | some (.dict [])=> .items | _=> .other)
  | _=> .other)
 | _=> .other
def zNR:V->Nat
 | .trk i=>i
 | _=>0
def zAI (kf:Addr->Bool)(r:Rec)(t it:Expr)(body orelse:List Stmt)(ae:AE)(σ:Sto):Option (Fl×Sto):=
 if yB it || !orelse.isEmpty then none else
 match r.e it ae σ with
 | some (v,σ₁)=>(match zEU v σ₁ with
  | .ito=>yL kf r t body ae (zNR v) 1000 σ₁
  | .items=>some (.next,σ₁)
  | .other=>(match xF v σ₁ with | some nx=>yD r t body ae σ₁.length nx 1000 0 σ₁ | none=>none))
 | none=>none
section
variable {prog:Program} {w:World} {A:Around} {K:Frag} {G:Gl} {B:Bnd} {n:Nat} {r:Rec} {ρ:List Addr} {σ σ':Sto} {s:Shared} {ae:AE} {env:Env}
theorem zKB {a:Addr}{vs:Array Value}(ho:s.heap.get? a=some ⟨.type "callable_iterator",none,.fields vs,#[]⟩){Q:Value->Shared->Prop}{E:Value->Shared->Prop}(q:Q (.ref a) s):wpAny (model prog w) A (pyIter (.ref a)) Q E s:=by
 have hT:s.TypeIs (.ref a) "callable_iterator":=⟨_,ho,rfl⟩;refine wpAny_pyIter_slot hT zBm (wpAny_call_entry zBm hT zEo ?_ (zFP _));show wpAny _ _ (ret (.ref a)) _ _ s;exact wpAny_pure ⟨_,rfl,"callable_iterator",_,hT,qI.lookup,q⟩
theorem zCm {kf kp:Addr->Bool}(KO:KeepOK K kp kf)(hr:Snd (model prog w) K n r)(hA:Rm A (n + 1)){i:Nat}{t:Expr}{body:List Stmt}{f:Fl}{ρ₀:List Addr}{s₀:Shared}(X₀:EnvR ρ₀ ae env){a:Addr}(ha₀:ρ₀[i]? =some a)
  {fu:Nat} (h:yL kf r t body ae i fu σ=some (f,σ')) (I:Inv K ρ σ s) (X:Ext ρ₀ s₀ ρ s)
  {R:Result->Shared->Prop} (q:∀ρ' s' x,Inv K ρ' σ' s'->Ext ρ₀ s₀ ρ' s'->FlR ρ' s'.heap f x->R (.ok x) s'):codeAny (model prog w) A (.forLoop t (.ref a) body [] env) R s:=by
 refine codeAny_forLoop_any (fun fu s=>∃σ ρ,yL kf r t body ae i fu σ=some (f,σ')/\Inv K ρ σ s/\Ext ρ₀ s₀ ρ s) ?_ fu ⟨σ,ρ,h,I,X⟩;clear h I X;rintro fu s ⟨σ,ρ,h,I,X⟩;cases fu with
 | zero=>cases h
 | succ fu=>
  have EX:EnvR ρ ae env:=X₀.ext X;have ha:ρ[i]? =some a:=X.preP _ _ ha₀;have key:∀{o:Option V} {σ₁:Sto} (Qn:Shared->Prop) (Qs:Value->Shared->Prop) (E:Value->Shared->Prop),zZ kf r t i σ=some (o,σ₁)->(∀ρ' s' x,Inv K ρ' σ₁ s'->Ext ρ s ρ' s'->OR ρ' s'.heap o x->(match x with | none=>Qn s' | some y=>Qs y s'))->
    wpAny (model prog w) A (pyNext (.ref a)) (fun y s₁=>match y with | none=>Qn s₁ | some x=>wpAny (model prog w) A (letOwnedTupleGo t (.ref a) x) (fun _ s₂=>Qs x s₂) E s₁) E s:=by
   intro o σ₁ Qn Qs E hx q;refine wpAny_mono (zHq (prog:=prog) (w:=w) KO hr hA hx I ha (Q:=fun o s=>match o with | none=>Qn s | some y=>Qs y s) (E:=E) q) (fun y s₁ h₁=>?_) fun _ _ h=>h;cases y <;>exact h₁
  let E1:Value->Shared->Prop:=notedBy (model prog w) A env fun e s'=>R (.error e) s'
  let Qs:Value->Shared->Prop:=fun v s₁=>wpAny (model prog w) A (assign t env v) (fun _ s₂=>wpAny (model prog w) A (execs body env) (fun f' s₃=>match f' with
      | .next | .cont=>∃m,m < fu + 1/\∃σ ρ,yL kf r t body ae i m σ=some (f,σ')/\Inv K ρ σ s₃/\Ext ρ₀ s₀ ρ s₃
      | .brk=>R (.ok .next) s₃
      | .ret v=>R (.ok (.ret v)) s₃) E1 s₂) E1 s₁
  have go:∀{o:Option V} {σ₁:Sto},zZ kf r t i σ=some (o,σ₁)->(∀ρ' s' x,Inv K ρ' σ₁ s'->Ext ρ s ρ' s'->OR ρ' s'.heap o x->(match x with | none=>wpAny (model prog w) A (execs [] env) (fun f s₃=>R (.ok f) s₃) E1 s' | some y=>Qs y s'))->_:=fun hx q=>wpAny_mono (key (fun s'=>wpAny (model prog w) A (execs [] env) (fun f s₃=>R (.ok f) s₃) E1 s') Qs E1 hx q) (Q':=fun r s₁=>match r with
   | none=>wpAny (model prog w) A (execs [] env) (fun f s₃=>R (.ok f) s₃) E1 s₁
   | some v=>wpAny (model prog w) A (letOwnedTupleGo t (.ref a) v) (fun _ s₁'=>Qs v s₁') E1 s₁) (fun y s₁ h₁=>by cases y <;>exact h₁) fun _ _ h=>h
  unfold yL at h;split at h
  ·rename_i σ₁ hx
   cases h;refine go hx fun ρ₁ s₁ x I₁ X₁ rx=>?_;cases x with
   | none=>exact wpAny_execs_nil (q _ _ _ I₁ (X.then I X₁) .next)
   | some x=>exact rx.elim
  ·rename_i v σ₁ hx
   split at h
   ·rename_i σ₂ h1
    refine go hx fun ρ₁ s₁ x I₁ X₁ rx=>?_;cases x with
    | none=>exact rx.elim
    | some x=>?_
    have XX:=X.then I X₁;refine uR hA.1 h1 (EX.ext X₁) I₁ rx _ _ fun ρ₂ s₂ I₂ X₂=>?_;have EX₂:=(EX.ext X₁).ext X₂;have hA':Rm A n:=hA.down;split at h
    ·rename_i σ₃ h2
     refine zT hr hA' h2 EX₂ I₂ _ _ fun ρ₃ s₃ y I₃ X₃ ry=>?_;cases ry;exact ⟨fu,Nat.lt_succ_self _,σ₃,ρ₃,h,I₃,(XX.then I₁ X₂).then I₂ X₃⟩
    ·rename_i σ₃ h2
     refine zT hr hA' h2 EX₂ I₂ _ _ fun ρ₃ s₃ y I₃ X₃ ry=>?_;cases ry;exact ⟨fu,Nat.lt_succ_self _,σ₃,ρ₃,h,I₃,(XX.then I₁ X₂).then I₂ X₃⟩
    ·rename_i σ₃ h2
     cases h;refine zT hr hA' h2 EX₂ I₂ _ _ fun ρ₃ s₃ y I₃ X₃ ry=>?_;cases ry;exact q _ _ _ I₃ ((XX.then I₁ X₂).then I₂ X₃) .next
    ·rename_i u σ₃ h2
     cases h;refine zT hr hA' h2 EX₂ I₂ _ _ fun ρ₃ s₃ y I₃ X₃ ry=>?_;cases ry;exact q _ _ _ I₃ ((XX.then I₁ X₂).then I₂ X₃) (.ret (by assumption))
    ·cases h
   ·cases h
  ·cases h
theorem zHJ {kf kp:Addr->Bool}(hsm:(K.lookup sysModules).isSome=true)(KO:KeepOK K kp kf)(hr:Snd (model prog w) K n r)(hA:Rm A (n + 1)){t it:Expr}{body orelse:List Stmt}{pos:Pos}{f:Fl}(h:zAI kf r t it body orelse ae σ=some (f,σ'))(X:EnvR ρ ae env)(I:Inv K ρ σ s):
  SX (model prog w) A K ρ s (exec (.For t it body orelse pos) env) f σ':=by
 have hA':Rm A n:=hA.down;have h0:=h;unfold zAI at h;split at h
 ·cases h
 ·rename_i hc0
  have hc:=hc0;simp only [Bool.or_eq_true,not_or,Bool.not_eq_true,Bool.not_eq_false',List.isEmpty_iff] at hc;obtain ⟨hc,he⟩:=hc;have he:orelse=[]:=by simpa using he
  subst he;split at h
  ·rename_i v σ₁ h1
   split at h
   ·rename_i hs
    intro Q E q;refine wpAny_For (hr.e _ _ _ _ _ h1 A env ρ s hA' X I _ _ fun ρ₁ s₁ x I₁ X₁ rx=>?_) (xZ hc);unfold zEU at hs;split at hs
    ·rename_i i
     obtain ⟨a,ha,rfl⟩:=vrT rx;have fin:codeAny (model prog w) A (.forLoop t (.ref a) body [] env) (fun r s'=>match r with | .ok f=>Q f s' | .error e=>cameBackBy (model prog w) A env E e s') s₁:=by
      refine zCm KO hr hA (X.ext X₁) ha h I₁ (.refl _ _) fun ρ' s' y I' X' ry=>?_;exact q _ _ _ I' (X₁.then I₁ X') ry
     split at hs
     ·rename_i hi
      obtain ⟨_,_,ho,_⟩:=I₁.obs _ a _ ha hi;exact zKB ho fin
     ·rename_i hi
      obtain ⟨_,_,_,ho⟩:=I₁.obs _ a _ ha hi;exact wpAny_pyIter_enum ho fin
     ·split at hs <;>cases hs
     ·cases hs
    ·cases hs
   ·rename_i hs
    cases h;intro Q E q;refine wpAny_For (hr.e _ _ _ _ _ h1 A env ρ s hA' X I _ _ fun ρ₁ s₁ x I₁ X₁ rx=>?_) (xZ hc);unfold zEU at hs;split at hs
    ·rename_i i
     obtain ⟨a,ha,rfl⟩:=vrT rx;split at hs <;>try (cases hs; done)
     rename_i j hi;split at hs
     ·rename_i hj
      obtain ⟨d,hd,ho⟩:=I₁.obs _ a _ ha hi;obtain ⟨es,m,hdo,re⟩:=I₁.obs _ d _ hd hj;have re:es=[]:=re;subst re;have hda:s₁.heap.DictAt (strKind prog w) d [] m:=⟨_,#[],hdo,⟨rfl,rfl,rfl⟩,rfl,(by unfold PySem.KeysOf; intro e he; simp at he),.nil,List.nodup_nil⟩;refine wpAny_pyIter_items (knd:=strKind prog w) ⟨_,ho,rfl,rfl⟩ hda ?_;have ex:=I₁.extra (o:={cls:= .type "dict_itemiterator",data:= .fields #[.none,.bool false,.ref d,.int 0 0,.int 0 0,.int m 0,.none,.none]}) (tk:=s₁.toks);refine codeAny_forLoop_any (fun _ s=>s={s₁ with heap:=s₁.heap.push {cls:= .type "dict_itemiterator",data:= .fields #[.none,.bool false,.ref d,.int 0 0,.int 0 0,.int m 0,.none,.none]}}) ?_ 0 rfl;rintro _ s rfl;have hit:IsItemIter (s₁.heap.push {cls:= .type "dict_itemiterator",data:= .fields #[.none,.bool false,.ref d,.int 0 0,.int 0 0,.int m 0,.none,.none]}) s₁.heap.objs.size d 0 0 m .none .none:=Heap.get?_push_size _ rfl;refine wpAny_pyNext_items_end (knd:=strKind prog w) (kvs:=[]) (i:=0) hA.1 hit ⟨_,#[],Heap.get?_push_of_some _ hdo,⟨rfl,rfl,rfl⟩,rfl,(by unfold PySem.KeysOf; intro e he; simp at he),.nil,List.nodup_nil⟩ rfl fun h' hb=>?_;have I₂:=ex.1.but (tk:=s₁.toks) (h':=h') I₁.fresh (zJ3 I₁ (yX _)) (Heap.get?_push_size _ rfl) (by
       rintro (⟨_,_,z⟩ | ⟨z,_⟩)
       ·cases z
       ·injection z with z; exact absurd z (by decide)) hb
      exact wpAny_execs_nil (q _ _ _ I₂ (X₁.then I₁ ((Ext.refl ρ₁ s₁).itr (yX _) (tk:=s₁.toks) (h':=h') (fun b o nb e=>hb b o nb (Heap.get?_push_of_some _ e)))) .next)
     ·cases hs
    ·cases hs
   ·refine zKQ hr hA' ?_ X I
    unfold zIl;rw [if_neg hc0,h1];exact h
  ·cases h
end
end Mine
end
section
namespace Mine
def zPu (v:V)(σ:Sto):Option String:=match v with
 | .str _=>some "str"
 | .int _=>some "int"
 | .tup _=>some "tuple"
 | v=>(zS v σ).map fun _=>"list"
def zBc (T:String)(args:List V)(σ:Sto):Option (V×Sto):=
 if T=="type" then (match args with | [x]=>(zPu x σ).map fun t=>(.val (.type t),σ) | _=>none)
 else if T=="range" then (match args with
  | [.int n]=>some (.rng 0 n 1,σ)
  | [.int a,.int b]=>some (.rng a b 1,σ)
  | [.int a,.int b,.int c]=>if c==0 || Builtin.divisionGoesByPylong (b - a) c then none else some (.rng a b c,σ)
  | _=>none)
 else if T=="enumerate" then zLW args σ
 else if T=="list" then (match args with
  | [.str x]=>if x.cps.size<=1000 then some (.trk σ.length,σ ++ [.stk 1000 x.cps.toList.reverse]) else none
  | _=>none)
 else none
section
variable {prog:Program} {w:World} {A:Around} {K:Frag} {ρ:List Addr} {σ σ':Sto} {s:Shared}
theorem zRs {v:V}{t:String}(h:zPu v σ=some t)(I:Inv K ρ σ s){x:Value}(rx:VR ρ s.heap v x):s.TypeIs x t/\(Value.type t==Value.type "builtin_function_or_method")=false:=by
 unfold zPu at h;split at h
 ·cases h; obtain ⟨u,rfl⟩:=vrS rx; exact ⟨typeIs_str _ _ _,by decide⟩
 ·cases h; obtain ⟨u,rfl⟩:=vrI rx; exact ⟨typeIs_int _ _ _,by decide⟩
 ·cases h; obtain ⟨a,_,_,rfl,_,ho,_⟩:=vE rx; exact ⟨⟨_,ho,rfl⟩,by decide⟩
 ·obtain ⟨l,hl,e⟩:=Option.map_eq_some_iff.mp h
  subst e;obtain ⟨a,items,n,rfl,ho,rs⟩:=yI I hl rx;exact ⟨⟨_,ho,rfl⟩,by decide⟩
theorem zDZ {a b c:Int}{t u v:Tok}{tk:Tok}(I:Inv K ρ σ s){Q:Value->Shared->Prop}(q:zAu K ρ s (.rng a b c) σ Q):
  Q (.ref s.heap.objs.size) {s with heap:=s.heap.push {cls:= .type "range",data:= .fields #[.int a t,.int b u,.int c v]},toks:=tk}:=by
 have x:=I.extra (o:={cls:= .type "range",data:= .fields #[.int a t,.int b u,.int c v]}) (tk:=tk);refine q _ _ _ x.1 x.2 ?_;unfold VR;exact ⟨_,t,u,v,rfl,I.fresh,Heap.get?_push_size _ rfl⟩
theorem zFb {h:Heap}{x:Str}:∀{cs:List Nat} {vs:List Value},cs.length=vs.length->(∀(j:Nat) (v:Value),vs[j]? =some v->∃c u,cs[j]? =some c/\v= .str ⟨#[c]⟩ u)->VRs ρ h (cs.map fun c=> .str ⟨#[c]⟩) vs
 | [],[],_,_=>by simp [VRs]
 | [],_::_,e,_=>by cases e
 | _::_,[],e,_=>by cases e
 | c::cs,v::vs,e,h=>by
  rw [List.map_cons];unfold VRs;refine ⟨v,vs,rfl,?_,zFb (x:=x) (by simpa using e) fun j y hy=>h (j + 1) y hy⟩;obtain ⟨c',u,h1,rfl⟩:=h 0 v rfl;simp at h1; subst h1;exact qJ
theorem zGZ (hh:A.handled=none){T:String}{args:List V}{v:V}(h:zBc T args σ=some (v,σ'))(I:Inv K ρ σ s){xs:List Value}(rs:VRs ρ s.heap args xs):SE (model prog w) A K ρ s (call (.type T) xs) v σ':=by
 intro Q E q;unfold zBc at h;split at h
 ·rename_i hT
  rw [beq_iff_eq] at hT; subst hT;split at h
  ·obtain ⟨t,ht,e⟩:=Option.map_eq_some_iff.mp h
   cases e;obtain ⟨y,rfl,ry⟩:=zF rs;obtain ⟨h1,h2⟩:=zRs ht I ry;exact call_type_of h1 h2 (q _ _ _ I (.refl _ _) wS)
  ·cases h
 ·split at h
  ·rename_i hT
   rw [beq_iff_eq] at hT; subst hT;split at h
   ·cases h
    obtain ⟨y,rfl,ry⟩:=zF rs;obtain ⟨t,rfl⟩:=vrI ry;exact call_range_1 (zDZ I q)
   ·cases h
    unfold VRs at rs;obtain ⟨y,ys,rfl,ry,rys⟩:=rs;obtain ⟨z,rfl,rz⟩:=zF rys;obtain ⟨t,rfl⟩:=vrI ry;obtain ⟨t,rfl⟩:=vrI rz;exact call_range_2 (zDZ I q)
   ·rename_i a b c
    split at h
    ·cases h
    ·rename_i hc
     cases h;simp only [Bool.or_eq_true,beq_iff_eq,not_or,Bool.not_eq_true] at hc;unfold VRs at rs;obtain ⟨y,ys,rfl,ry,rys⟩:=rs;unfold VRs at rys;obtain ⟨z,ys,rfl,rz,rys⟩:=rys;obtain ⟨u,rfl,ru⟩:=zF rys;obtain ⟨t1,rfl⟩:=vrI ry;obtain ⟨t2,rfl⟩:=vrI rz;obtain ⟨t3,rfl⟩:=vrI ru;exact call_range_3 hc.1 (zDZ I q) (.inl hc.2)
   ·cases h
  ·split at h
   ·rename_i hT
    rw [beq_iff_eq] at hT; subst hT;exact zIU h I rs Q E q
   ·split at h
    ·rename_i hT
     rw [beq_iff_eq] at hT; subst hT;split at h
     ·rename_i x
      split at h
      ·rename_i hz
       cases h;obtain ⟨y,rfl,ry⟩:=zF rs;obtain ⟨t,rfl⟩:=vrS ry;refine call_list_str hh x t (fun h' tk acc c hk ho hi=>?_) (Nat.le_trans hz (by decide));obtain ⟨e1,e2⟩:=hi;have hlen:=I.len;have z:=I.gen (l:=[s.heap.objs.size]) (σ':=σ ++ [.stk 1000 x.cps.toList.reverse]) (s':={s with heap:=h',toks:=tk}) (by simp [I.len]) (List.pairwise_singleton _ _) (fun b hb=>by
        rw [List.mem_singleton] at hb; subst hb; exact yX _) (fun b o _ e=>hk b o e) ?_ rfl rfl
       ·refine q _ _ _ z.1 z.2 ?_
        unfold VR;exact ⟨_,by rw [<-I.len,List.getElem?_append_right (Nat.le_refl _),Nat.sub_self]; rfl,rfl⟩
       ·intro i b ob g1 g2
        by_cases hi:i < σ.length
        ·rw [List.getElem?_append_left hi] at g2
         exact .inl ⟨g2,fun o e=>hk b o e⟩
        ·rw [List.getElem?_append_right (by omega)] at g2
         rw [List.getElem?_append_right (by omega)] at g1;rw [hlen] at g1;have hj:i - σ.length=0:=by
          have:=(List.getElem?_eq_some_iff.mp g2).1;simp at this; omega
         rw [hj] at g1 g2;cases g1; cases g2;refine .inr ⟨by simpa using hz,acc,c,ho,?_⟩;rw [show qH x.cps.toList.reverse=x.cps.toList.map fun c=>V.str ⟨#[c]⟩ by simp [qH]];refine zFb (x:=x) (by simp [e1]) fun j v hv=>?_;obtain ⟨c',u,h1,h2⟩:=e2 j v (by simpa using hv);exact ⟨c',u,by simpa using h1,h2⟩
      ·cases h
     ·cases h
    ·cases h
end
end Mine
end
section
namespace Mine
def ltL:List V->List V->Option Bool
 | [],[]=>some false
 | .int a::r,.int b::r'=>if a==b then ltL r r' else some (decide (a < b))
 | .str a::r,.str b::r'=>if decide (a=b) then ltL r r' else some (decide (a.cps.toList < b.cps.toList))
 | _,_=>none
def zKJ {α:Type}(lt:Nat->Nat->Option Bool):KasT α->Option α
 | .ret a=>some a
 | .ask i j k=>match lt i j with
  | some b=>zKJ lt (k b)
  | none=>none
def vA:V->Option String
 | .tup (.int _::_)=>some "int"
 | .tup (.str _::_)=>some "str"
 | _=>none
def zEM (l:List V)(i j:Nat):Option Bool:=match l[i]?,l[j]? with
 | some (.tup a),some (.tup b)=>ltL a b
 | _,_=>none
def zCL (l:List V):Option String:=match l with
 | []=>none
 | v::r=>(match vA v with
  | some T=>if r.all (fun u=>vA u==some T) then some T else none
  | none=>none)
def zA6 (l:List V):Option (List V):=if l.length < 2 then some l else if decide (l.length < 64) && (zCL l).isSome then (zKJ (zEM l) (kas_sort l.length)).map fun p=>p.toList.map fun i=>l.getD i .none else none
section
variable {prog:Program} {w:World} {A:Around} {K:Frag} {ρ:List Addr} {σ σ':Sto} {s:Shared}
theorem zJC {α:Type}{lt:Nat->Nat->Option Bool}{cmp:Nat->Nat->(Bool->Shared->Prop)->Shared->Prop}(hc:∀i j b C,lt i j=some b->C b s->cmp i j C s):∀{t:KasT α} {a:α} {Q:α->Shared->Prop},zKJ lt t=some a->Q a s->t.kasWp cmp Q s
 | .ret a,_,Q,h,q=>by cases h; exact q
 | .ask i j k,a,Q,h,q=>by
  unfold zKJ at h;split at h
  ·rename_i b hb
   exact hc _ _ _ _ hb (zJC hc (t:=k b) h q)
  ·cases h
theorem zBP {E:Value->Shared->Prop}{fin:Bool}{Q:Bool->Shared->Prop}:∀{a b:List V} {xs ys:List Value} {c:Bool} (i:Nat),ltL a b=some c->VRs ρ s.heap a xs->VRs ρ s.heap b ys->(xs.length < ys.length->fin=true)->(¬xs.length < ys.length->fin=false)->Q c s->KatLex prog w A true fin Q (xs.zip ys) i s
 | [],[],xs,ys,c,i,h,ra,rb,f1,f2,q=>by
  cases h;unfold VRs at ra rb;subst ra rb;rw [f2 (by simp)];exact kat_nil q
 | .int a::r,.int b::r',xs,ys,c,i,h,ra,rb,f1,f2,q=>by
  unfold ltL at h;unfold VRs at ra rb;obtain ⟨x,xs,rfl,rx,ra⟩:=ra;obtain ⟨y,ys,rfl,ry,rb⟩:=rb;obtain ⟨t,rfl⟩:=vrI rx;obtain ⟨u,rfl⟩:=vrI ry;rw [List.zip_cons_cons];refine kat_cons (wpAny_eqBool_int (kat_go (fun e=>?_) (fun e=>?_)))
  ·rw [e] at h
   exact kat_yes (zBP (E:=E) (i + 1) h ra rb (fun z=>f1 (by simpa using z)) (fun z=>f2 (by simpa using z)) q)
  ·rw [e] at h
   cases h;refine kat_no ?_
   by_cases hi:i=0
   ·subst hi
    exact oneLt_int q
   ·rw [show (true && i==0)=false by simpa using hi]
    exact kat_one _ _ (P.lt_int q)
 | .str a::r,.str b::r',xs,ys,c,i,h,ra,rb,f1,f2,q=>by
  unfold ltL at h;unfold VRs at ra rb;obtain ⟨x,xs,rfl,rx,ra⟩:=ra;obtain ⟨y,ys,rfl,ry,rb⟩:=rb;obtain ⟨t,rfl⟩:=vrS rx;obtain ⟨u,rfl⟩:=vrS ry;rw [List.zip_cons_cons];refine kat_cons (wpAny_eqBool_str (kat_go (fun e=>?_) (fun e=>?_)))
  ·rw [e] at h
   exact kat_yes (zBP (E:=E) (i + 1) h ra rb (fun z=>f1 (by simpa using z)) (fun z=>f2 (by simpa using z)) q)
  ·rw [e] at h
   cases h;refine kat_no ?_
   by_cases hi:i=0
   ·subst hi
    exact oneLt_str q
   ·rw [show (true && i==0)=false by simpa using hi]
    exact kat_one _ _ (P.lt_str q)
theorem zKx {l:List V}{vs:List Value}(rs:VRs ρ s.heap l vs){i j:Nat}{c:Bool}(h:zEM l i j=some c){C:Bool->Shared->Prop}(q:C c s):kas_ask prog w A (tuples' true) vs i j C s:=by
 unfold zEM at h;split at h
 ·rename_i a b h1 h2
  obtain ⟨x,hx,rx⟩:=rs.get h1;obtain ⟨y,hy,ry⟩:=rs.get h2;obtain ⟨p,items,n,rfl,_,ho,r1⟩:=vE rx;obtain ⟨p',items',n',rfl,_,ho',r2⟩:=vE ry;unfold kas_ask;rw [List.getD_eq_getElem?_getD,hx,List.getD_eq_getElem?_getD,hy];refine kat_lt (s:=s) ho rfl ho' rfl ?_;exact zBP (E:=fun _ _=>False) 0 h r1 r2 (by simp) (by simp) q
 ·cases h
theorem zIM {E:Value->Shared->Prop}{l:List V}{vs:List Value}(rs:VRs ρ s.heap l vs){T:String}(h:zCL l=some T){Q:SortKind->Shared->Prop}(q:Q (tuples' true) s):wpAny (model prog w) A (keyKind' vs.toArray) Q E s:=by
 have gen:∀(l:List V) (vs:List Value),VRs ρ s.heap l vs->(∀u∈l,vA u=some T)->∃fs,KatTups s.heap vs fs/\fs.length=l.length/\∀v∈fs,Looks (model prog w) s.heap (typeOf v) (.type T):=by
  intro l
  induction l with
  | nil=>intro vs r _; unfold VRs at r; subst r; exact ⟨[],KatTups.nil,rfl,by simp⟩
  | cons u l ih=>
   intro vs r hu;unfold VRs at r;obtain ⟨y,ys,rfl,ry,r⟩:=r;obtain ⟨fs,t,e,hT⟩:=ih ys r fun u hu'=>hu u (List.mem_cons_of_mem _ hu');have h0:=hu u (List.mem_cons_self ..);unfold vA at h0;split at h0
   ·cases h0
    obtain ⟨a,items,n,rfl,_,ho,r2⟩:=vE ry;unfold VRs at r2;obtain ⟨z,zs,hz,rz,_⟩:=r2;obtain ⟨tk,rfl⟩:=vrI rz;refine ⟨.int _ tk::fs,KatTups.cons ho rfl rfl (by rw [<-Array.getElem?_toList,hz]; rfl) t,by simp [e],fun v hv=>?_⟩;rcases List.mem_cons.mp hv with rfl | hv
    ·exact Looks.of_pure rfl
    ·exact hT v hv
   ·cases h0
    obtain ⟨a,items,n,rfl,_,ho,r2⟩:=vE ry;unfold VRs at r2;obtain ⟨z,zs,hz,rz,_⟩:=r2;obtain ⟨tk,rfl⟩:=vrS rz;refine ⟨.str _ tk::fs,KatTups.cons ho rfl rfl (by rw [<-Array.getElem?_toList,hz]; rfl) t,by simp [e],fun v hv=>?_⟩;rcases List.mem_cons.mp hv with rfl | hv
    ·exact Looks.of_pure rfl
    ·exact hT v hv
   ·cases h0
 unfold zCL at h;split at h
 ·cases h
 ·rename_i v r
  split at h
  ·rename_i T' hT'
   split at h
   ·rename_i hall
    cases h;have hall':∀u∈v::r,vA u=some T:=by
     intro u hu;rcases List.mem_cons.mp hu with rfl | hu
     ·exact hT'
     ·have:=List.all_eq_true.mp hall u hu
      simpa using this
    obtain ⟨fs,t,e,hT⟩:=gen _ _ rs hall';have hTT:(Value.type T !=Value.type "tuple")=true:=by
     unfold vA at hT';split at hT' <;>cases hT' <;>decide
    refine kat_kind t (by rw [e]; simp) hT (by simp) ?_;rw [hTT]; exact q
   ·cases h
  ·cases h
end
end Mine
end
section
namespace Mine
def zJb (args:List V)(σ:Sto):Option (V×Sto):=match args with
 | [.trk i]=>(match (σ[i]? :Option Ob) with
  | some (.list l)=>if l.length<=1000 then (zA6 l).map fun l'=>(.none,σ.set i (.list l')) else none
  | _=>none)
 | _=>none
section
variable {prog:Program} {w:World} {A:Around} {K:Frag} {ρ:List Addr} {σ σ':Sto} {s:Shared}
theorem zMk {h:Heap}{l:List V}{vs:List Value}(rs:VRs ρ h l vs)(i:Nat):VR ρ h (l.getD i .none) (vs.getD i .none):=by
 rw [List.getD_eq_getElem?_getD,List.getD_eq_getElem?_getD];cases hl:l[i]? with
 | none=>
  have:vs[i]? =none:=by rw [List.getElem?_eq_none_iff] at hl ⊢; rw [<-rs.length]; exact hl
  rw [this]; exact qY
 | some v=>
  obtain ⟨x,hx,rx⟩:=rs.get hl;rw [hx]; exact rx
theorem zI9 {h:Heap}{l:List V}{vs:List Value}(rs:VRs ρ h l vs):∀p:List Nat,VRs ρ h (p.map fun i=>l.getD i .none) (p.map fun i=>vs.getD i .none)
 | []=>by simp [VRs]
 | i::p=>by
  simp only [List.map_cons];unfold VRs;exact ⟨_,_,rfl,zMk rs i,zI9 rs p⟩
theorem zCp {i:Nat}{l l':List V}(hs:zA6 l=some l')(hz:l.length<=1000)(hl:σ[i]? =some (.list l))(I:Inv K ρ σ s){a:Addr}(ha:ρ[i]? =some a){P:PySem.Fin->Shared->Prop}{E:Value->Shared->Prop}
  (q:∀s',Inv K ρ (σ.set i (.list l')) s'->Ext ρ s ρ s'->P (.done (.ret .none)) s'):wpAny (model prog w) A (Builtin.«list.sort» ⟨[.ref a],[]⟩) P E s:=by
 obtain ⟨items,n,ho,rs⟩:=I.obs _ a _ ha hl;have elen:=rs.length;simp only [Array.length_toList] at elen;have z1:=I.updList (f:=fun _=>#[]) (l':=[]) (tk:=s.toks) ha ho (by unfold VRs; rfl);obtain ⟨e1,ho1⟩:∃e1,(s.heap.update a (Obj.mapSeq fun _=>(#[]:Array Value))).get? a=some (seqObj "list" #[] e1):=⟨_,get?_update_seq ho fun _=>#[]⟩;have z2:=z1.1.extra (o:={cls:= .type "tuple",data:= .seq items.toList.toArray 0}) (tk:=s.toks);have z3:=z2.1.extra (o:={cls:= .type "list",data:= .seq #[] 0}) (tk:=s.toks);have X3:=z1.2.then z1.1 (z2.2.then z2.1 z3.2);have hl3:(σ.set i (.list []))[i]? =some (.list []):=List.getElem?_set_self (List.getElem?_eq_some_iff.mp hl).1;obtain ⟨items3,n3,ho3,rs3⟩:=z3.1.obs _ a _ ha hl3;have ho6:(((s.heap.update a (Obj.mapSeq fun _=>(#[]:Array Value))).push (seqObj "tuple" items.toList.toArray 0)).push (seqObj "list" #[] 0)).get? a=some (seqObj "list" #[] e1):=Heap.get?_push_of_some _ (Heap.get?_push_of_some _ ho1);have rs6:VRs ρ (((s.heap.update a (Obj.mapSeq fun _=>(#[]:Array Value))).push (seqObj "tuple" items.toList.toArray 0)).push (seqObj "list" #[] 0)) l items.toList:=rs.ext X3;have fin:∀out:Array Value,VRs ρ (((s.heap.update a (Obj.mapSeq fun _=>(#[]:Array Value))).push (seqObj "tuple" items.toList.toArray 0)).push (seqObj "list" #[] 0)) l' out.toList->
   P (.done (.ret .none)) {s with heap:=(((s.heap.update a (Obj.mapSeq fun _=>(#[]:Array Value))).push (seqObj "tuple" items.toList.toArray 0)).push (seqObj "list" #[] 0)).update a (Obj.mapSeq fun _=>out)}:=by
  intro out ro;have z4:=z3.1.updList (f:=fun _=>out) (l':=l') (tk:=s.toks) ha ho6 ro;rw [List.set_set] at z4;exact q _ z4.1 (X3.then z3.1 z4.2)
 rw [list_sort_plain];refine wpAny_bind (listItems_at ho rfl ?_);refine wpAny_bind (listUpdate_at ho rfl ?_ (zQ (by omega)) (Nat.zero_le _));refine wpAny_bind (seqEpoch_at ho1 rfl ?_);refine wpAny_bind (wpAny_newTuple ?_ (zQ (by rw [Array.length_toList]; omega)));refine wpAny_bind (wpAny_newList ?_ (Nat.zero_le _));refine wpAny_holding ?_;show wpAny (model prog w) A _ P E {s with heap:=((s.heap.update a (Obj.mapSeq fun _=>(#[]:Array Value))).push (seqObj "tuple" items.toList.toArray 0)).push (seqObj "list" #[] 0)};dsimp only;unfold zA6 at hs
 by_cases h2:items.size < 2
 ·rw [if_pos (by omega)] at hs
  cases hs;rw [if_pos h2,if_pos h2];refine wpAny_bind (wpAny_pure ?_);rw [StateT.run_pure];refine wpAny_bind (wpAny_pure ?_);dsimp only;refine wpAny_bind (seqEpoch_at ho6 rfl ?_);refine wpAny_bind (listUpdate_at ho6 rfl ?_ (Nat.zero_le _) (hsz2:=by
   refine Nat.le_succ_of_le (zQ ?_);rw [Array.size_map];show (items.zip items).size<=_;simp; omega))
  simp only [bne_self_eq_false,Bool.false_eq_true,if_false];refine wpAny_pure (fin _ ?_);have e:((arrOf (SortSt.mk' general' (items.zip items) #[] 7 none)).map (·.2)).toList=items.toList:=by
   show ((items.zip items).map (·.2)).toList=items.toList;rw [Array.toList_map,Array.toList_zip];exact List.map_snd_zip (Nat.le_refl _)
  rw [e]; exact rs6
 ·rw [if_neg (by omega)] at hs
  split at hs
  ·rename_i hc
   simp only [Bool.and_eq_true,decide_eq_true_eq] at hc;obtain ⟨h64,hty⟩:=hc;obtain ⟨T,hT⟩:=Option.isSome_iff_exists.mp hty;obtain ⟨p,hp,e⟩:=Option.map_eq_some_iff.mp hs;subst e;rw [if_neg h2,if_neg h2];refine wpAny_bind ?_;have hk:=zIM (prog:=prog) (w:=w) (A:=A) (E:=E) (s:={s with heap:=(((s.heap.update a (Obj.mapSeq fun _=>(#[]:Array Value))).push (seqObj "tuple" items.toList.toArray 0)).push (seqObj "list" #[] 0))}) rs6 hT
    (Q:=fun κ s'=>wpAny (model prog w) A (do
     let ((),st) <-sortRuns'.run (SortSt.mk' κ (items.zip items) #[] 7 none)
     let sorted:=(arrOf st).map (·.2)
     let touched:=(<-seqEpoch a) !=e1
     Builtin.List.listUpdate (.ref a) fun _=>sorted
     if let some e:=failedOf st then rule "list.sort.comparison-raised"; throw e
     if touched then rule "list.sort.modified"; raiseError "ValueError" "list modified during sort"
     ret .none) P E s')
   rw [show items.toList.toArray=items from by simp] at hk;refine hk ?_;refine wpAny_bind ?_;have hr:=kat_run (prog:=prog) (w:=w) (A:=A) (E:=E) (κ:=tuples' true) (ks:=items.toList) (vs:=items.toList) (s:={s with heap:=(((s.heap.update a (Obj.mapSeq fun _=>(#[]:Array Value))).push (seqObj "tuple" items.toList.toArray 0)).push (seqObj "list" #[] 0))}) rfl
    (Q:=fun st s'=>s'={s with heap:=(((s.heap.update a (Obj.mapSeq fun _=>(#[]:Array Value))).push (seqObj "tuple" items.toList.toArray 0)).push (seqObj "list" #[] 0))}/\p.size=items.size/\arrOf st=p.map (kas_item (items.toList.toArray.zip items.toList.toArray))/\failedOf st=none)
    (G:=fun p' s'=>p'=p/\s'={s with heap:=(((s.heap.update a (Obj.mapSeq fun _=>(#[]:Array Value))).push (seqObj "tuple" items.toList.toArray 0)).push (seqObj "list" #[] 0))})
    (by rw [Array.length_toList]; omega) (by rw [Array.length_toList]; omega) (fun p' st' s' a1 a2 a3 a4=>by obtain ⟨rfl,rfl⟩:=a4; exact ⟨rfl,by simpa using a1,a2,a3⟩)
    (zJC (lt:=zEM l) (fun i j b C h q=>zKx (s:={s with heap:=(((s.heap.update a (Obj.mapSeq fun _=>(#[]:Array Value))).push (seqObj "tuple" items.toList.toArray 0)).push (seqObj "list" #[] 0))}) rs6 h q) (by rw [Array.length_toList,<-elen]; exact hp) ⟨rfl,rfl⟩)
   rw [show items.toList.toArray=items from by simp] at hr;refine wpAny_mono hr ?_ fun _ _ e=>e;rintro ⟨⟨⟩,st⟩ s' ⟨rfl,hps,har,hf⟩;dsimp only;have har':arrOf st=p.map (kas_item (items.toList.toArray.zip items.toList.toArray)):=by rw [har]
   have hout:=kat_snds (ks:=items.toList) (vs:=items.toList) rfl har';refine wpAny_bind (seqEpoch_at ho6 rfl ?_);have rp:VRs ρ (((s.heap.update a (Obj.mapSeq fun _=>(#[]:Array Value))).push (seqObj "tuple" items.toList.toArray 0)).push (seqObj "list" #[] 0)) (p.toList.map fun i=>l.getD i .none) ((arrOf st).map (·.2)).toList:=by
    rw [hout];exact zI9 rs6 p.toList
   have hpz:((arrOf st).map (·.2)).size=p.size:=by rw [hout]; simp
   refine wpAny_bind (listUpdate_at ho6 rfl ?_ (Nat.zero_le _) (hsz2:=by
    refine Nat.le_succ_of_le (zQ ?_);rw [hpz,hps]; omega))
   rw [hf];simp only [bne_self_eq_false,Bool.false_eq_true,if_false];exact wpAny_pure (fin _ rp)
  ·cases hs
theorem zHB {args:List V}{v:V}(h:zJb args σ=some (v,σ'))(I:Inv K ρ σ s){xs:List Value}(rs:VRs ρ s.heap args xs):SE (model prog w) A K ρ s (call (.builtin "list.sort") xs) v σ':=by
 intro Q E q;unfold zJb at h;split at h
 ·rename_i i
  split at h
  ·rename_i l hl
   split at h
   ·rename_i hz
    obtain ⟨l',hs,e⟩:=Option.map_eq_some_iff.mp h;cases e;obtain ⟨y,rfl,ry⟩:=zF rs;obtain ⟨a,ha,rfl⟩:=vrT ry;obtain ⟨items,n,ho,_⟩:=I.obs _ a _ ha hl;refine wpAny_call_entry slot_list_sort ⟨_,ho,rfl⟩ entry_list_sort ?_ (args_list_sort _);exact zCp hs hz hl I ha fun s' I' X'=>⟨_,rfl,q _ _ _ I' X' qY⟩
   ·cases h
  ·cases h
 ·cases h
end
end Mine
end
section
open Builtin Builtin.Str
namespace Mine
def zBO:List V->Option (List Str)
 | []=>some []
 | .str x::r=>(zBO r).map (x::·)
 | _=>none
def zFI:List V->Option (List Int)
 | []=>some []
 | .int x::r=>(zFI r).map (x::·)
 | _=>none
def zCc (sep:Str):List Str->Str
 | [x]=>x
 | l=>glued sep l
def zBe (id:String)(args:List V)(σ:Sto):Option (V×Sto):=match args with
 | [.str sep,u]=>
  if id=="str.join" then (match zS u σ with
   | some l=>(match zBO l with
    | some xs=>if !tooLong (xs.toArray.foldl (· + ·.length + sep.length) 0) && decide ((zCc sep xs).length<=sizeLine) then some (.str (zCc sep xs),σ) else none
    | none=>none)
   | none=>none)
  else if id=="str.split" then (match u with
   | .str y=>if (!(y.length==0)) && decide (sep.length<=900) then some (.trk σ.length,σ ++ [.list ((Txt.split sep y).map .str)]) else none
   | _=>none)
  else none
 | _=>none
def zAd (lt:Int->Int->Bool):List Int->Int
 | []=>0
 | a::r=>r.foldl (fun b x=>if lt x b then x else b) a
def zBZ (id:String)(args:List V)(σ:Sto):Option (V×Sto):=match args with
 | [.int a,.int b]=>
  if id=="min" then some (.int (if b < a then b else a),σ)
  else if id=="max" then some (.int (if b >a then b else a),σ)
  else none
 | [u]=>(match zS u σ with
  | some l=>(match zFI l with
   | some (n::ns)=>
    if id=="min" then some (.int (zAd (fun x b=>decide (x < b)) (n::ns)),σ)
    else if id=="max" then some (.int (zAd (fun x b=>decide (x >b)) (n::ns)),σ)
    else none
   | _=>none)
  | none=>none)
 | _=>none
section
variable {prog:Program} {w:World} {A:Around} {K:Frag} {ρ:List Addr} {σ σ':Sto} {s:Shared}
theorem zB9 {h:Heap}:∀{l:List V} {vs:List Value} {xs:List Str},zBO l=some xs->VRs ρ h l vs->∃ps:List (Str×Tok),vs=strValues ps/\ps.map (·.1)=xs
 | [],vs,xs,e,r=>by cases e; unfold VRs at r; subst r; exact ⟨[],rfl,rfl⟩
 | v::l,vs,xs,e,r=>by
  unfold VRs at r;obtain ⟨y,ys,rfl,ry,r⟩:=r;unfold zBO at e;split at e
  ·rename_i hq; cases hq
  ·rename_i x r' hq
   injection hq with h1 h2
   subst h1 h2;obtain ⟨zs,hz,e⟩:=Option.map_eq_some_iff.mp e;subst e;unfold VR at ry;obtain ⟨t,rfl⟩:=ry;obtain ⟨ps,rfl,e2⟩:=zB9 hz r;exact ⟨(x,t)::ps,rfl,by simp [e2]⟩
  ·cases e
theorem zB7 {h:Heap}:∀{l:List V} {vs:List Value} {xs:List Int},zFI l=some xs->VRs ρ h l vs->∃ps:List (Int×Tok),vs=ps.map (fun p=> .int p.1 p.2)/\ps.map (·.1)=xs
 | [],vs,xs,e,r=>by cases e; unfold VRs at r; subst r; exact ⟨[],rfl,rfl⟩
 | v::l,vs,xs,e,r=>by
  unfold VRs at r;obtain ⟨y,ys,rfl,ry,r⟩:=r;unfold zFI at e;split at e
  ·rename_i hq; cases hq
  ·rename_i x r' hq
   injection hq with h1 h2
   subst h1 h2;obtain ⟨zs,hz,e⟩:=Option.map_eq_some_iff.mp e;subst e;unfold VR at ry;obtain ⟨t,rfl⟩:=ry;obtain ⟨ps,rfl,e2⟩:=zB7 hz r;exact ⟨(x,t)::ps,rfl,by simp [e2]⟩
  ·cases e
theorem zAY {h:Heap}:∀(ps:List (Str×Tok)),VRs ρ h ((ps.map (·.1)).map .str) (strValues ps)
 | []=>by simp [VRs,strValues]
 | p::ps=>by
  simp only [List.map_cons];unfold VRs;exact ⟨_,_,rfl,qJ,zAY ps⟩
theorem zGJ {id:String}{args:List V}{v:V}(h:zBe id args σ=some (v,σ'))(I:Inv K ρ σ s){xs:List Value}(rs:VRs ρ s.heap args xs):SE (model prog w) A K ρ s (call (.builtin id) xs) v σ':=by
 intro Q E q;unfold zBe at h;split at h
 ·rename_i sep u
  unfold VRs at rs;obtain ⟨x',ys,rfl,rx,rys⟩:=rs;obtain ⟨y',rfl,ry⟩:=zF rys;obtain ⟨t,rfl⟩:=vrS rx;split at h
  ·rename_i hid
   rw [beq_iff_eq] at hid; subst hid;split at h
   ·rename_i l hl
    split at h
    ·rename_i zs hz
     split at h
     ·rename_i hc
      cases h;simp only [Bool.and_eq_true,Bool.not_eq_true',decide_eq_true_eq] at hc;obtain ⟨a,items,n,rfl,ho,r2⟩:=yI I hl ry;obtain ⟨ps,hp,e⟩:=zB9 hz r2;subst e;refine call_meets F.slot_str_join (typeIs_str s sep t) F.entry_str_join (F.args_str_join_2 _ _) (meets_str_join_list sep t a ps hc.1) ⟨⟨_,ho,rfl,n,by rw [<-hp]⟩,?_⟩;have hc2:=hc.2;cases ps with
      | nil=>exact kQ I hc2 q
      | cons p ps=>cases ps with
       | nil=>exact SE.here I qJ q
       | cons p' ps=>exact kQ I hc2 q
     ·cases h
    ·cases h
   ·cases h
  ·split at h
   ·rename_i hid
    rw [beq_iff_eq] at hid; subst hid;split at h
    ·rename_i y
     split at h
     ·rename_i hc
      cases h;simp only [Bool.and_eq_true,Bool.not_eq_true',decide_eq_true_eq] at hc;obtain ⟨hy,hx⟩:=hc;have hx':sep.length<=sizeLine:=zQ (by omega);obtain ⟨u',rfl⟩:=vrS ry;have hn:(partsBetween sep (occurrences sep y 0 sep.length (sep.length + 1)) y.length).length<=sizeLine:=by
       have e1:=StrLaws.occ_length_le sep y 0 sep.length (sep.length + 1);rw [length_partsBetween];exact zQ (by omega)
      cases h1:(decide (sep.length < y.length) || decide (strKind sep < strKind y))
      ·cases hf:(occurrences sep y 0 sep.length (sep.length + 1)).isEmpty
       ·refine call_meets F.slot_str_split (typeIs_str _ _ _) F.entry_str_split (F.args_str_split_2 _ _) (meets_str_split_sep sep y t u' h1 hy hf hx' hn) ?_
        refine kM (l:=(Txt.split sep y).map .str) I ?_ q;have e:Txt.split sep y=(numbered s.toks (partsBetween sep (occurrences sep y 0 sep.length (sep.length + 1)) y.length)).map (·.1):=(((numbered_texts _ _).trans ((if_neg (ne_true_of_eq_false h1)).trans (if_neg (ne_true_of_eq_false hf))).symm)).symm;rw [e,strsFrom_eq];exact zAY _
       ·refine call_meets F.slot_str_split (typeIs_str _ _ _) F.entry_str_split (F.args_str_split_2 _ _) (meets_str_split_not_found sep y t u' h1 hy hf) ?_
        refine kM (l:=(Txt.split sep y).map .str) (tk:=s.toks) I ?_ q;rw [show Txt.split sep y=[sep] from (if_neg (ne_true_of_eq_false h1)).trans (if_pos hf)];exact zAY [(sep,t)]
      ·refine call_meets F.slot_str_split (typeIs_str _ _ _) F.entry_str_split (F.args_str_split_2 _ _) (meets_str_split_cannot_occur sep y t u' h1) ?_
       refine kM (l:=(Txt.split sep y).map .str) (tk:=s.toks) I ?_ q;rw [show Txt.split sep y=[sep] from if_pos h1];exact zAY [(sep,t)]
     ·cases h
    ·cases h
   ·cases h
 ·cases h
theorem zJF {lt:Int->Int->Bool}(xs:Array (Int×Tok)):∀(k:Nat),k < xs.size->∀n ns,xs.toList.map (·.1)=n::ns->numAt xs (argBest (fun i j=>lt (numAt xs i) (numAt xs j)) k)=(ns.take k).foldl (fun b x=>if lt x b then x else b) n
 | 0,h,n,ns,e=>by
  unfold argBest numAt;rw [<-Array.getElem?_toList];have:(xs.toList[0]?).map (·.1)=some n:=by rw [<-List.getElem?_map,e]; rfl
  rw [this]; rfl
 | k + 1,h,n,ns,e=>by
  have ih:=zJF (lt:=lt) xs k (by omega) n ns e;have hk:numAt xs (k + 1)=ns.getD k 0:=by
   unfold numAt;rw [<-Array.getElem?_toList,<-List.getElem?_map,e,List.getElem?_cons_succ,List.getD_eq_getElem?_getD]
  have hlen:k < ns.length:=by
   have:=congrArg List.length e;simp at this; omega
  rw [List.take_succ,List.foldl_append,<-ih,List.getElem?_eq_getElem hlen];have hk2:numAt xs (k + 1)=ns[k]:=by rw [hk,List.getD_eq_getElem?_getD,List.getElem?_eq_getElem hlen]; rfl
  show numAt xs (if lt (numAt xs (k + 1)) (numAt xs (argBest (fun i j=>lt (numAt xs i) (numAt xs j)) k))=true then k + 1 else argBest (fun i j=>lt (numAt xs i) (numAt xs j)) k)=_;simp only [Option.toList_some,List.foldl_cons,List.foldl_nil];rw [<-hk2];split <;>rfl
theorem zG4 (hh:A.handled=none){id:String}{args:List V}{v:V}(h:zBZ id args σ=some (v,σ'))(I:Inv K ρ σ s){xs:List Value}(rs:VRs ρ s.heap args xs):SE (model prog w) A K ρ s (call (.builtin id) xs) v σ':=by
 intro Q E q;have kp:∀{h':Heap} {tk:Tok} {y:Value},(∀c o,s.heap.get? c=some o->h'.get? c=some o)->∀{u:V},VR ρ h' u y->(∀{P:Value->Shared->Prop},zAu K ρ s u σ P->P y {s with heap:=h',toks:=tk}):=fun hk _ r _ q=>q _ _ _ (I.keeps hk) (uP hk) r;unfold zBZ at h;split at h
 ·rename_i a b
  unfold VRs at rs;obtain ⟨x',ys,rfl,rx,rys⟩:=rs;obtain ⟨y',rfl,ry⟩:=zF rys;obtain ⟨t,rfl⟩:=vrI rx;obtain ⟨t',rfl⟩:=vrI ry;split at h
  ·rename_i hid
   rw [beq_iff_eq] at hid; subst hid;cases h;refine min_two_ints hh fun h' tk hk=>kp hk ?_ q;split <;>exact qK
  ·split at h
   ·rename_i hid
    rw [beq_iff_eq] at hid; subst hid;cases h;refine max_two_ints hh fun h' tk hk=>kp hk ?_ q;split <;>exact qK
   ·cases h
 ·rename_i u _
  split at h
  ·rename_i l hl
   split at h
   ·rename_i n ns hn
    obtain ⟨y',rfl,ry⟩:=zF rs;obtain ⟨a,items,m,rfl,ho,r2⟩:=yI I hl ry;obtain ⟨ps,hp,e⟩:=zB7 hn r2;have hi:items=intItems ps.toArray:=by
     apply Array.toList_inj.mp;rw [hp]; unfold intItems; simp
    subst hi;have hne:0 < ps.toArray.size:=by
     have:=congrArg List.length e;simp at this ⊢; omega
    have hL:s.heap.IsList a (intItems ps.toArray):=⟨_,ho,rfl,m,rfl⟩;have hb:∀lt:Int->Int->Bool,numAt ps.toArray (argBest (fun i j=>lt (numAt ps.toArray i) (numAt ps.toArray j)) (ps.toArray.size - 1))=zAd lt (n::ns):=by
     intro lt;rw [zJF ps.toArray (ps.toArray.size - 1) (by omega) n ns (by simpa using e)];have:ns.length<=ps.toArray.size - 1:=by
      have:=congrArg List.length e;simp at this ⊢; omega
     rw [List.take_of_length_le this]; rfl
    split at h
    ·rename_i hid
     rw [beq_iff_eq] at hid; subst hid;cases h;refine min_intList hh hL hne fun v h' tk hv hk=>?_;obtain ⟨t,rfl⟩:=intItems_at hv;refine kp hk ?_ q;rw [hb fun x b=>decide (x < b)];exact qK
    ·split at h
     ·rename_i hid
      rw [beq_iff_eq] at hid; subst hid;cases h;refine max_intList hh hL hne fun v h' tk hv hk=>?_;obtain ⟨t,rfl⟩:=intItems_at hv;refine kp hk ?_ q;rw [hb fun x b=>decide (x >b)];exact qK
     ·cases h
   ·cases h
  ·cases h
 ·cases h
end
end Mine
end
section
open Builtin Builtin.Re
namespace Mine
def zL8 (r:Except String (Bool×Sre.Seen)):Option Bool:=match r with
 | .ok (b,_)=>some b
 | .error _=>none
theorem yJ (code:Array Nat)(c:Nat):∀(fuel i:Nat) (yes:Bool) (s1 s2:Sre.Seen),zL8 (Sre.inSet code c fuel i yes s1)=zL8 (Sre.inSet code c fuel i yes s2)
 | 0,i,yes,s1,s2=>rfl
 | fuel + 1,i,yes,s1,s2=>by
  unfold Sre.inSet;dsimp only;split
  ·rfl
  ·exact yJ code c fuel _ _ _ _
  ·split
   ·rfl
   ·exact yJ code c fuel _ _ _ _
  ·split
   ·rfl
   ·exact yJ code c fuel _ _ _ _
  ·split
   ·rfl
   ·exact yJ code c fuel _ _ _ _
  ·cases Sre.category (code.getD (i + 1) 0) c with
   | error e=>rfl
   | ok b=>
    cases b with
    | true=>rfl
    | false=>exact yJ code c fuel _ _ _ _
  ·split
   ·rfl
   ·exact yJ code c fuel _ _ _ _
  ·split
   ·rfl
   ·exact yJ code c fuel _ _ _ _
  ·rfl
def zGg (code:Array Nat)(cps:List Nat):Bool:=cps.all fun c=>zL8 (Sre.inSet code c code.size 5 true {})==some false
def zAO (code:Array Nat):Bool:=(match Sre.ops[code.getD 0 0]? with | some .INFO=>true | _=>false) && code.getD 2 0==4
theorem uZ {m:Sre.M}(h:zGg m.code m.text.toList=true)(hl:m.lim<=m.text.size):∀(fuel s:Nat) (seen:Sre.Seen),∃seen',m.admitted fuel s seen= .ok (none,seen')
 | 0,s,seen=>⟨seen,rfl⟩
 | fuel + 1,s,seen=>by
  unfold Sre.M.admitted;split
  ·exact ⟨_,rfl⟩
  ·rename_i hs
   have hs':s < m.text.size:=by omega
   have e:m.text.getD s 0=m.text[s]:=by simp [Array.getD,hs']
   have hm:m.text.getD s 0∈m.text.toList:=by rw [e]; simp
   have z:=List.all_eq_true.mp h _ hm;rw [beq_iff_eq,yJ _ _ _ _ _ _ seen] at z;cases q:Sre.inSet m.code (m.text.getD s 0) m.code.size 5 true seen with
   | error e=>rw [q] at z; cases z
   | ok r=>
    obtain ⟨b,seen'⟩:=r;rw [q] at z;cases z;exact uZ h hl fuel (s + 1) seen'
theorem zIx {m:Sre.M}(h1:m.hasFirstSet=true)(h:zGg m.code m.text.toList=true)(hl:m.lim<=m.text.size):∃seen',m.attemptFrom 0 true=Sre.M.say {m with seen:=seen'} false:=by
 obtain ⟨seen',e⟩:=uZ h hl (m.lim + 1 - 0) 0 m.seen;refine ⟨seen',?_⟩;unfold Sre.M.attemptFrom;rw [h1,e];rfl
theorem zG0 {code text:Array Nat}{groups:Nat}(hh:zAO code=true)(h:zGg code text.toList=true):∃m:Sre.M,Sre.forSearch code text groups 0 text.size false=m.say false/\m.frames=[]/\m.outcome=none:=by
 unfold Sre.forSearch;dsimp only;split
 ·exact ⟨_,rfl,rfl,rfl⟩
 ·refine ⟨_,Exists.choose_spec (zIx ?h1 ?h2 ?h3),?_,?_⟩
  case h1=>exact hh
  case h2=>exact h
  case h3=>exact Nat.le_refl _
  all_goals rfl
section
variable {prog:Program} {w:World} {A:Around} {K:Frag} {ρ:List Addr} {σ σ':Sto} {s:Shared}
theorem zHH {m:Sre.M}(h1:m.frames=[])(h2:m.outcome=none){n:Nat}{Q:Sre.M->Shared->Prop}{E:Value->Shared->Prop}(q:Q {m.say false with outcome:=some .failed} s):wpAny (model prog w) A (reDrive (n + 1) (m.say false)) Q E s:=by
 have e:(m.say false).runFor reTurnSteps={m.say false with outcome:=some .failed}:=by
  have s1:(m.say false).step={m.say false with outcome:=some .failed}:=by
   obtain ⟨f1,f2,f3,f4,f5,f6,f7,f8,f9,f10,f11,f12,f13,f14,f15,f16,f17,f18,f19,f20,f21⟩:=m;dsimp only at h1 h2;subst h1 h2;rfl
  unfold reTurnSteps;unfold Sre.M.runFor;rw [show (m.say false).outcome.isSome=false by show m.outcome.isSome=false; rw [h2]; rfl,s1];rfl
 unfold reDrive;dsimp only;rw [e];exact wpAny_pure q
theorem zBS {Q:PUnit->Shared->Prop}{E:Value->Shared->Prop}{b:Nat->Bool}{nm:Nat->String}(q:Q ⟨⟩ s):∀l:List Nat,wpAny (model prog w) A (forIn l PUnit.unit fun i _=>(do
  if b i then rule (nm i)
  pure (.yield ⟨⟩):Sem (ForInStep PUnit))) Q E s
 | []=>by rw [List.forIn_nil]; exact wpAny_pure q
 | i::l=>by
  rw [List.forIn_cons];refine wpAny_bind ?_;cases b i with
  | true=>exact wpAny_bind (wpAny_rule (wpAny_pure (zBS q l)))
  | false=>exact wpAny_pure (zBS q l)
theorem zK7 {code text:Array Nat}{groups:Nat}(hh:zAO code=true)(h:zGg code text.toList=true){Q:Option Sre.M->Shared->Prop}{E:Value->Shared->Prop}(q:Q none s):
  wpAny (model prog w) A (reRunToEnd (Sre.forSearch code text groups 0 text.size false)) Q E s:=by
 obtain ⟨m,e,h1,h2⟩:=zG0 (groups:=groups) hh h;rw [e];unfold reRunToEnd;refine wpAny_bind (zHH h1 h2 ?_);refine wpAny_bind ?_;refine wpAny_mono (zBS (b:=fun i=>Sre.Seen.has _ i) (nm:=fun i=>Sre.names.getD i "") (Q:=fun _ s'=>s'=s) rfl _) (fun _ s' e=>?_) fun _ _ h=>h;subst e;exact wpAny_pure q
end
end Mine
end
section
open Builtin Builtin.Re
namespace Mine
theorem zCa:Slot "re.Pattern" "search" "re.Pattern.search":=
 .of (owner:="re.Pattern") (n:="search") (by rw [typeLookup_type,builtinLookup_eq_fast]; kernel_rfl) (by decide +kernel) (by decide +kernel) (by decide +kernel)
  (by first | exact .inl (by decide +kernel) | exact .inr (by decide +kernel)) (by rw [isSubtype_type]; kernel_rfl)
theorem zFv:entryFor table "re.Pattern.search"=some Builtin.«re.Pattern.search» :=entryFor_of_tree (by kernel_rfl)
theorem zGD (a b:Value):argsOk "re.Pattern.search" ⟨[a,b],[]⟩:=by unfold argsOk; kernel_rfl
theorem zHe:typeOf (.builtin "re.Pattern.search")=pure (.type "method_descriptor"):=by show builtinType _=_; rw [builtinType_eq_fast]; kernel_rfl
theorem zAL:PlainAttrs "re.Pattern":=
 ⟨⟨"object.__getattribute__",by rw [typeLookup_type,builtinLookup_eq_fast]; kernel_rfl,by decide +kernel⟩,by rw [typeLookup_type,builtinLookup_eq_fast]; kernel_rfl⟩
def patIn (K:Frag)(a:Addr):Option (Array Nat):=match K.lookup a with
 | some ⟨.type c,none,.fields fs,sl⟩=>if c=="re.Pattern" && sl.size==0 && reRawNat (fs.getD 6 .none)==0 then (match fs.getD 5 .none with
  | .ref T=>(match K.lookup T with
   | some ⟨.type c2,none,.seq ws _,sl2⟩=>if c2=="tuple" && sl2.size==0 then some ((ws.map reRawOf).map (·.toNat)) else none
   | _=>none)
  | _=>none) else none
 | _=>none
def zGk (pat:Addr->Option (Array Nat))(args:List V)(σ:Sto):Option (V×Sto):=match args with
 | [.val (.ref a),.str x]=>(match pat a with
  | some code=>if zAO code && zGg code x.cps.toList && decide (x.cps.size < 2 ^ 62) then some (.none,σ) else none
  | none=>none)
 | _=>none
section
variable {prog:Program} {w:World} {A:Around} {K:Frag} {ρ:List Addr} {σ σ':Sto} {s:Shared}
theorem zB6 {a:Addr}{code:Array Nat}(h:patIn K a=some code):∃fs T ws n,K.lookup a=some ⟨.type "re.Pattern",none,.fields fs,#[]⟩/\reRawNat (fs.getD 6 .none)=0/\fs.getD 5 .none= .ref T/\
  K.lookup T=some ⟨.type "tuple",none,.seq ws n,#[]⟩/\code=(ws.map reRawOf).map (·.toNat):=by
 unfold patIn at h;split at h
 ·rename_i c fs sl ho
  split at h
  ·rename_i hc
   simp only [Bool.and_eq_true,beq_iff_eq] at hc;obtain ⟨⟨rfl,hs⟩,h6⟩:=hc;have hs:sl=#[]:=Array.eq_empty_of_size_eq_zero hs;subst hs;split at h
   ·rename_i T h5
    split at h
    ·rename_i c2 ws n sl2 hT
     split at h
     ·rename_i hc2
      simp only [Bool.and_eq_true,beq_iff_eq] at hc2;obtain ⟨rfl,hs2⟩:=hc2;have hs2:sl2=#[]:=Array.eq_empty_of_size_eq_zero hs2;subst hs2;cases h;exact ⟨fs,T,ws,n,ho,h6,h5,hT,rfl⟩
     ·cases h
    ·cases h
   ·cases h
  ·cases h
 ·cases h
theorem zJ8 (v:Value):reNamed "re.Pattern.search" "search" ["string","pos","endpos"] 1 [v] []=pure [some v,none,none]:=by rfl
theorem zFW {pat:Addr->Option (Array Nat)}(PO:∀a c,pat a=some c->patIn K a=some c){args:List V}{v:V}(h:zGk pat args σ=some (v,σ'))(I:Inv K ρ σ s){xs:List Value}(rs:VRs ρ s.heap args xs):SE (model prog w) A K ρ s (call (.builtin "re.Pattern.search") xs) v σ':=by
 intro Q E q;unfold zGk at h;split at h
 ·rename_i a x
  split at h
  ·rename_i code hp
   split at h
   ·rename_i hc
    simp only [Bool.and_eq_true,decide_eq_true_eq] at hc;obtain ⟨⟨c1,c2⟩,c3⟩:=hc;cases h;unfold VRs at rs;obtain ⟨y,ys,rfl,ry,rys⟩:=rs;obtain ⟨z,rfl,rz⟩:=zF rys;cases vrV ry;obtain ⟨t,rfl⟩:=vrS rz;obtain ⟨fs,T,ws,n,h1,h2,h3,h4,rfl⟩:=zB6 (PO _ _ hp);have o1:=I.stat _ _ h1;have o2:=I.stat _ _ h4;refine wpAny_call_entry zCa ⟨_,o1,rfl⟩ zFv ?_ (zGD _ _);unfold Builtin.«re.Pattern.search» reTarget;dsimp only;refine wpAny_bind (wpAny_bind (wpAny_of_eq (zJ8 _) ?_));dsimp only;refine wpAny_bind (wpAny_pure (wpAny_bind (wpAny_pure ?_)));unfold fieldsOf;refine wpAny_bind (wpAny_bind (wpAny_load o1 (wpAny_pure ?_)));refine wpAny_bind (wpAny_of_eq (show reTextOf (.str x t)=pure (x.cps,0) from rfl) ?_);dsimp only;rw [h2,h3];rw [if_neg (by decide),if_neg (by decide)];refine wpAny_bind (wpAny_of_eq (show reNoCollectionInside (.str x t) 0=pure () from rfl) ?_);refine wpAny_bind ?_;unfold reRawItems;refine wpAny_bind (wpAny_seqItems o2 rfl (wpAny_pure (wpAny_pure ?_)));dsimp only;unfold reAnswer;refine wpAny_bind ?_;rw [show min (Int.toNat 0) x.cps.size=0 by simp,show min (2 ^ 63 - 1:Int).toNat x.cps.size=x.cps.size by
     rw [Nat.min_eq_right]; have:(2 ^ 63 - 1:Int).toNat=2 ^ 63 - 1:=by decide
     omega]
    exact zK7 c1 c2 (wpAny_pure ⟨_,rfl,q _ _ _ I (.refl _ _) qY⟩)
   ·cases h
  ·cases h
 ·cases h
end
end Mine
end
section
namespace Mine
structure Tabs where
 sget:Addr->Str->Option (Option V)
 iget:Addr->Int->Option (Option V)
 sset:Addr->Int->Option Bool
 isD:Addr->Bool
 pat:Addr->Option (Array Nat)
structure TabsOK (prog:Program) (w:World) (K:Frag) (D:Tabs):Prop where
 sg:∀a k r,D.sget a k=some r->(a==sysModules)=false/\∀h,K.In h->∃f,h.MapOf (strKind prog w) a f/\∀ρ h',OR ρ h' r (f k)
 ig:∀a k r,D.iget a k=some r->(a==sysModules)=false/\∀h,K.In h->∃f,h.MapOf (intKind prog w) a f/\∀ρ h',OR ρ h' r (f k)
 ss:∀a k b,D.sset a k=some b->∀h,K.In h->∃S n,h.SetOf (intKind prog w) a S n/\S k=b
 dd:∀a,D.isD a=true->∃es n,K.lookup a=some ⟨.type "dict",none,.dict es n,#[]⟩
 pp:∀a c,D.pat a=some c->patIn K a=some c
def zJK (D:Tabs)(args:List V)(σ:Sto):Option (V×Sto):=match args with
 | [.val (.ref a),.str k]=>(D.sget a k).map fun r=>(r.getD .none,σ)
 | [.val (.ref a),.int k]=>(D.iget a k).map fun r=>(r.getD .none,σ)
 | [.val (.ref a),.str k,d]=>(D.sget a k).map fun r=>(r.getD d,σ)
 | _=>none
def zPl (D:Tabs)(a b:V):Option Bool:=match a,b with
 | .str k,.val (.ref d)=>(D.sget d k).map (·.isSome)
 | .int k,.val (.ref d)=>D.sset d k
 | _,_=>none
def zPa (D:Tabs):Mth:=fun o name σ=>match o with
 | .val (.ref a)=>if D.isD a && eqS name ("get":Str) then some (.val (.builtin "dict.get"),[o]) else if (D.pat a).isSome && eqS name ("search":Str) then some (.val (.builtin "re.Pattern.search"),[o]) else none
 | .trk i=>(match (σ[i]? :Option Ob) with
  | some (.dict [])=>if eqS name ("items":Str) then some (.val (.builtin "dict.items"),[o]) else none
  | _=>none)
 | _=>none
section
variable {prog:Program} {w:World} {A:Around} {K:Frag} {D:Tabs} {ρ:List Addr} {σ σ':Sto} {s:Shared}
theorem zGb (k:Str)(t:Tok):(strKind prog w).is k (.str k t)=true:=by
 show Value.isStrOf k (.str k t)=true;unfold Value.isStrOf;simp
theorem zF9 {h:Heap}{r:Option V}{o:Option Value}(z:OR ρ h r o){d:V}{y:Value}(rd:VR ρ h d y):VR ρ h (r.getD d) (o.getD y):=by
 cases r <;>cases o <;>first | exact rd | exact z | exact z.elim
theorem zMN {h:Heap}{r:Option V}{o:Option Value}(z:OR ρ h r o):r.isSome=o.isSome:=by
 cases r <;>cases o <;>first | rfl | exact z.elim
theorem zHN (DO:TabsOK prog w K D){args:List V}{v:V}(h:zJK D args σ=some (v,σ'))(I:Inv K ρ σ s){xs:List Value}(rs:VRs ρ s.heap args xs):SE (model prog w) A K ρ s (call (.builtin "dict.get") xs) v σ':=by
 intro Q E q;unfold zJK at h;split at h
 ·rename_i a k
  obtain ⟨r,hr,e⟩:=Option.map_eq_some_iff.mp h;cases e;unfold VRs at rs;obtain ⟨y,ys,rfl,ry,rys⟩:=rs;obtain ⟨z,rfl,rz⟩:=zF rys;cases vrV ry;obtain ⟨t,rfl⟩:=vrS rz;obtain ⟨h1,h2⟩:=DO.sg _ _ _ hr;obtain ⟨f,hm,ho⟩:=h2 _ I.kin;refine call_meetsIn F.slot_dict_get hm.typeIs F.entry_dict_get (F.args_dict_get_2 _ _) (meets_dict_get (strKind prog w) a (zGb k t) h1) ⟨f,hm,?_⟩;exact SE.tok I (zF9 (ho ρ s.heap) qY) q
 ·rename_i a k
  obtain ⟨r,hr,e⟩:=Option.map_eq_some_iff.mp h;cases e;unfold VRs at rs;obtain ⟨y,ys,rfl,ry,rys⟩:=rs;obtain ⟨z,rfl,rz⟩:=zF rys;cases vrV ry;obtain ⟨t,rfl⟩:=vrI rz;obtain ⟨h1,h2⟩:=DO.ig _ _ _ hr;obtain ⟨f,hm,ho⟩:=h2 _ I.kin;refine call_meetsIn F.slot_dict_get hm.typeIs F.entry_dict_get (F.args_dict_get_2 _ _) (meets_dict_get (intKind prog w) a (intKind_is prog w k t) h1) ⟨f,hm,?_⟩;exact SE.tok I (zF9 (ho ρ s.heap) qY) q
 ·rename_i a k d
  obtain ⟨r,hr,e⟩:=Option.map_eq_some_iff.mp h;cases e;unfold VRs at rs;obtain ⟨y,ys,rfl,ry,rys⟩:=rs;unfold VRs at rys;obtain ⟨z,zs,rfl,rz,rzs⟩:=rys;obtain ⟨u,rfl,ru⟩:=zF rzs;cases vrV ry;obtain ⟨t,rfl⟩:=vrS rz;obtain ⟨h1,h2⟩:=DO.sg _ _ _ hr;obtain ⟨f,hm,ho⟩:=h2 _ I.kin;refine call_meetsIn F.slot_dict_get hm.typeIs F.entry_dict_get (F.args_dict_get_3 _ _ _) (meets_dict_get_default (strKind prog w) a (zGb k t) h1 u) ⟨f,hm,?_⟩;exact SE.tok I (zF9 (ho ρ s.heap) ru) q
 ·cases h
theorem zTW (DO:TabsOK prog w K D):OpsOK prog w K ⟨zPl D,fun _ _=>none⟩ where
 inn:=by
  intro a b c h A ρ σ s x y hu I ra rb;unfold zPl at h;dsimp only at h;split at h
  ·rename_i k d
   obtain ⟨r,hr,e⟩:=Option.map_eq_some_iff.mp h;obtain ⟨t,rfl⟩:=vrS ra;cases vrV rb;obtain ⟨h1,h2⟩:=DO.sg _ _ _ hr;obtain ⟨f,hm,ho⟩:=h2 _ I.kin;have e':(f k).isSome=c:=by rw [<-zMN (ho ρ s.heap)]; exact e
   refine ⟨fun Q E q=>wpAny_in_of (zGb k t) h1 hm ?_,fun Q E q=>wpAny_notIn_of (zGb k t) h1 hm ?_⟩
   ·rw [e']; exact SE.tok I kI q
   ·rw [e']; exact SE.tok I kI q
  ·rename_i k d
   obtain ⟨t,rfl⟩:=vrI ra;cases vrV rb;obtain ⟨S,n,hS,e⟩:=DO.ss _ _ _ h _ I.kin;subst e;refine ⟨fun Q E q=>wpAny_inSet_of (intKind_is prog w k t) rfl hS (SE.tok I kI q),fun Q E q=>wpAny_notInSet_of (intKind_is prog w k t) rfl hS (SE.tok I kI q)⟩
  ·cases h
 lt:=fun a b c h=>by cases h
theorem zNC (DO:TabsOK prog w K D):MthOK prog w K (zPa D):=⟨by
 intro o name σ f first h A ρ s x pl hu I rx Q E q
 unfold zPa at h;simp only [qT] at h;split at h
 ·rename_i a
  cases vrV rx;split at h
  ·rename_i hc
   cases h;simp only [Bool.and_eq_true,beq_iff_eq] at hc;obtain ⟨hd,rfl⟩:=hc;obtain ⟨es,n,ho⟩:=DO.dd _ hd;have ho:=I.stat _ _ ho;exact getMethod_builtin ⟨_,ho,rfl⟩ F.plainAttrs_dict F.slot_dict_get F.type_dict_get (fun b e=>by cases e; exact ⟨_,ho,rfl⟩) (q s _ _ I (.refl _ _) wS (VRs.one wS))
  ·split at h
   ·rename_i hc
    cases h;simp only [Bool.and_eq_true,beq_iff_eq] at hc;obtain ⟨hd,rfl⟩:=hc;obtain ⟨c,hc⟩:=Option.isSome_iff_exists.mp hd;obtain ⟨fs,T,ws,n,h1,_⟩:=zB6 (DO.pp _ _ hc);have ho:=I.stat _ _ h1;exact getMethod_builtin ⟨_,ho,rfl⟩ zAL zCa zHe (fun b e=>by cases e; exact ⟨_,ho,rfl⟩) (q s _ _ I (.refl _ _) wS (VRs.one wS))
   ·cases h
 ·rename_i i
  split at h
  ·rename_i hi
   split at h
   ·rename_i hc
    rw [beq_iff_eq] at hc; subst hc;cases h;obtain ⟨a,ha,rfl⟩:=vrT rx;obtain ⟨es,n,ho,_⟩:=I.obs _ a _ ha hi;exact getMethod_builtin ⟨_,ho,rfl⟩ F.plainAttrs_dict F.slot_dict_items F.type_dict_items (fun b e=>by cases e; exact ⟨_,ho,rfl⟩) (q s _ _ I (.refl _ _) wS (VRs.one rx))
   ·cases h
  ·cases h
 ·cases h⟩
def zJq (a b:Mth):Mth:=fun u n σ=>match a u n σ with
 | some r=>some r
 | none=>b u n σ
theorem zGT {a b:Mth}(ha:MthOK prog w K a)(hb:MthOK prog w K b):MthOK prog w K (zJq a b):=⟨by
 intro u name σ f first h
 unfold zJq at h;split at h
 ·rename_i r hr
  cases h;exact ha.get _ _ _ _ _ hr
 ·exact hb.get _ _ _ _ _ h⟩
end
end Mine
end
section
namespace Mine
section
variable {K:Frag} {ρ:List Addr} {σ:Sto} {s s':Shared}
theorem Inv.whole {ρ₀ ρ₁:List Addr}{σ₁:Sto}(I:Inv K ρ σ s){sub:List Nat}(nd:sub.Nodup)(hs:∀i∈sub,i < σ.length)(hρ:∀a∈ρ₀,a∈ρ)(hat:∀(j i:Nat),sub[j]? =some i->ρ₀[j]? =ρ[i]?)(hl:ρ₀.length=sub.length)
  (J:Inv K ρ₁ σ₁ s') (X:Ext ρ₀ s ρ₁ s') (hsol:∀(i:Nat) (ob:Ob),σ[i]? =some ob->i ∉ sub->zJy ob=true) (hok:∀ob∈σ₁,okO (fun _=>true) false ob=true):
  Inv K (ρ ++ ρ₁.drop sub.length) (zLx sub σ σ₁) s'/\Ext ρ s (ρ ++ ρ₁.drop sub.length) s'/\Ren (fun _=>true) (zDO sub σ.length) ρ₁ (ρ ++ ρ₁.drop sub.length)/\zFf false s'.heap ρ₁ (ρ ++ ρ₁.drop sub.length):=by
 have hl1:sub.length<=ρ₁.length:=by
  obtain ⟨l,rfl⟩:=X.pre;rw [List.length_append]; omega
 have hpre:∀(j:Nat),j < sub.length->ρ₁[j]? =ρ₀[j]? :=by
  intro j hj;obtain ⟨l,rfl⟩:=X.pre;rw [List.getElem?_append_left (by omega)]
 have hnew:∀a∈ρ₁.drop sub.length,s.heap.get? a=none:=by
  intro a m;obtain ⟨j,hj⟩:=List.mem_iff_getElem?.mp m;rw [List.getElem?_drop] at hj;exact X.new _ a (by omega) hj
 have hren:Ren (fun _=>true) (zDO sub σ.length) ρ₁ (ρ ++ ρ₁.drop sub.length):=by
  intro j a _ ha;unfold zDO;split
  ·rename_i hj
   have hj':sub[j]? =some sub[j]:=List.getElem?_eq_getElem hj;rw [List.getD_eq_getElem?_getD,hj',Option.getD_some];have hm:sub[j] < ρ.length:=by rw [I.len]; exact hs _ (List.getElem_mem ..)
   rw [List.getElem?_append_left hm,<-hat j _ hj',<-hpre j hj,ha]
  ·rename_i hj
   rw [List.getElem?_append_right (by rw [I.len]; omega),List.getElem?_drop];rw [show sub.length + (σ.length + (j - sub.length) - ρ.length)=j by rw [I.len]; omega,ha]
 have hmem:∀a∈ρ₁,a ∉ ρ->s.heap.get? a=none:=by
  intro a m n;obtain ⟨j,hj⟩:=List.mem_iff_getElem?.mp m;rcases Nat.lt_or_ge j sub.length with q | q
  ·rw [hpre j q] at hj
   exact absurd (hρ a (List.mem_of_getElem? hj)) n
  ·exact X.new _ a (by omega) hj
 have hsub:∀(i:Nat) (a:Addr),ρ[i]? =some a->a∈ρ₀->i∈sub:=by
  intro i a hi m;obtain ⟨j,hj⟩:=List.mem_iff_getElem?.mp m;have hjl:j < sub.length:=by rw [<-hl]; exact (List.getElem?_eq_some_iff.mp hj).1
  have hj':sub[j]? =some sub[j]:=List.getElem?_eq_getElem hjl;rw [hat j _ hj'] at hj;rw [yQ I.nd hi hj];exact List.getElem_mem ..
 have havoid:zFf false s'.heap ρ₁ (ρ ++ ρ₁.drop sub.length):=by
  intro a o n e kp m;rcases List.mem_append.mp m with m | m
  ·obtain ⟨i,hi⟩:=List.mem_iff_getElem?.mp m
   have hil:i < σ.length:=by rw [<-I.len]; exact (List.getElem?_eq_some_iff.mp hi).1
   have hi':σ[i]? =some σ[i]:=List.getElem?_eq_getElem hil;have n0:a ∉ ρ₀:=fun z=>n (by obtain ⟨l,rfl⟩:=X.pre; exact List.mem_append_left _ z);have hns:i ∉ sub:=fun z=>by
    obtain ⟨j,hj⟩:=List.mem_iff_getElem?.mp z;rw [<-hat j i hj] at hi;exact n0 (List.mem_of_getElem? hi)
   obtain ⟨o',e'⟩:=I.has a m;have z:=X.keep a o' n0 e';rw [z] at e;cases e;exact zKV e' kp (hsol i _ hi' hns) (I.obs i a _ hi hi')
  ·exact n (List.mem_of_mem_drop m)
 have hX:Ext ρ s (ρ ++ ρ₁.drop sub.length) s':=by
  refine ⟨⟨_,rfl⟩,fun i a h e=>?_,fun a o n e=>X.keep a o (fun z=>n (hρ a z)) e,X.os⟩;rw [List.getElem?_append_right h] at e;exact hnew a (List.mem_of_getElem? e)
 refine ⟨⟨?_,?_,?_,J.stat,?_,J.gens⟩,hX,hren,havoid⟩
 ·unfold zLx
  rw [List.length_append,List.length_append,yV,I.len,List.length_map,List.length_drop,List.length_drop,J.len]
 ·refine List.nodup_append.mpr ⟨I.nd,J.nd.sublist (List.drop_sublist _ _),fun a ha b hb e=>?_⟩
  subst e;obtain ⟨o,e⟩:=I.has a ha;rw [hnew a hb] at e; cases e
 ·intro i a ob h1 h2
  unfold zLx at h2;rcases Nat.lt_or_ge i ρ.length with q | q
  ·have q':i < σ.length:=by rw [<-I.len]; exact q
   rw [List.getElem?_append_left q] at h1;rw [List.getElem?_append_left (by rw [yV]; exact q')] at h2
   by_cases hi:i∈sub
   ·obtain ⟨j,hj⟩:=List.mem_iff_getElem?.mp hi
    have hjl:j < sub.length:=(List.getElem?_eq_some_iff.mp hj).1;rw [zEO sub _ σ j i nd hj q' (by rw [List.length_map,<-J.len]; omega),List.getElem?_map] at h2;obtain ⟨ob',h3,rfl⟩:=Option.map_eq_some_iff.mp h2;rw [<-hat j i hj,<-hpre j hjl] at h1;exact (J.obs j a ob' h1 h3).ren hren havoid (hok ob' (List.mem_of_getElem? h3))
   ·rw [zBz sub _ σ i hi] at h2
    have n0:a ∉ ρ₀:=fun z=>hi (hsub i a h1 z);exact (I.obs i a ob h1 h2).mono hX.preP hX.kp fun o e=>X.keep a o n0 e
  ·rw [List.getElem?_append_right q,List.getElem?_drop] at h1
   rw [List.getElem?_append_right (by rw [yV,<-I.len]; exact q),yV,List.getElem?_map,List.getElem?_drop] at h2;obtain ⟨ob',h3,rfl⟩:=Option.map_eq_some_iff.mp h2;rw [I.len] at h1;exact (J.obs _ a ob' h1 h3).ren hren havoid (hok ob' (List.mem_of_getElem? h3))
 ·intro a m
  rcases List.mem_append.mp m with m | m
  ·exact I.sep a m
  ·exact J.sep a (List.mem_of_mem_drop m)
end
end Mine
end
section
namespace Mine
def zF8 (args:List V)(σ:Sto):Option (List Nat):=
 let sub:=zEE σ 200 (0::zEQ args) []
 if zAk sub && zIu σ.length sub && zHx σ (yE · sub) sub && zHz (yE · sub) true args && vZ sub 0 σ then some sub else none
def tt (_:Nat):Bool:=true
def zHQ (sub:List Nat)(σ:Sto)(v:V)(σ₁:Sto):Option (V×Sto):=if okV tt false v && okS tt false σ₁ then some (zCk (zDO sub σ.length) v,zLx sub σ σ₁) else none
def zEB (F:List V->Sto->Option (V×Sto))(args:List V)(σ:Sto):Option (V×Sto):=match zF8 args σ with
 | some sub=>(match F (zDd (zAS · sub) args) (zM (fun i=>(σ[i]?).map (zAZ (zAS · sub))) sub) with
  | some (v,σ₁)=>zHQ sub σ v σ₁
  | none=>none)
 | none=>none
section
variable {prog:Program} {w:World} {A:Around} {K:Frag} {n:Nat} {ρ:List Addr} {σ σ':Sto} {s:Shared}
def ConOK (prog:Program)(w:World)(K:Frag)(n:Nat)(a:Addr)(F:List V->Sto->Option (V×Sto)):Prop:=
 ∀args σ v σ',F args σ=some (v,σ')->∀A ρ s xs,Rm A n->Inv K ρ σ s->VRs ρ s.heap args xs->SE (model prog w) A K ρ s (call (.ref a) xs) v σ'
theorem zGm {a:Addr}{F:List V->Sto->Option (V×Sto)}(CO:ConOK prog w K n a F)(hA:Rm A n){args:List V}{v:V}(h:zEB F args σ=some (v,σ'))(I:Inv K ρ σ s){xs:List Value}(rs:VRs ρ s.heap args xs):SE (model prog w) A K ρ s (call (.ref a) xs) v σ':=by
 unfold zEB at h;split at h
 ·rename_i sub hsub
  split at h
  ·rename_i v₁ σ₁ hF
   unfold zF8 at hsub;dsimp only at hsub;split at hsub
   ·rename_i hc
    cases hsub;generalize zEE σ 200 (0::zEQ args) []=sub at *;simp only [Bool.and_eq_true] at hc;obtain ⟨⟨⟨⟨c1,c2⟩,c3⟩,c4⟩,c5⟩:=hc;have nd:=zCQ _ c1;have hs:=zDz _ _ c2;obtain ⟨J,hren,hmem,hat,hl⟩:=I.part (g:=(zAS · sub)) (q:=(yE · sub)) nd hs (fun j i e=>zBd sub j i nd e) (fun i h=>(yN i sub).mp h) (zD1 c3);have rs':=VRs.ren hren (fun b o nb e kp m=>nb (hmem b m)) c4 rs;unfold zHQ at h;split at h
    ·rename_i hok
     rw [Bool.and_eq_true] at hok;cases h;intro Q E q;refine CO _ _ _ _ hF A _ s xs hA J rs' Q E fun ρ₁ s₁ x J₁ X₁ rx=>?_;obtain ⟨W,X,hr,hav⟩:=I.whole nd hs hmem hat hl J₁ X₁ (fun i ob e n=>zBY c5 i ob e (by rw [Nat.zero_add]; exact n)) (zI7 hok.2);exact q _ _ _ W X (VR.ren hr hav hok.1 rx)
    ·cases h
   ·cases hsub
  ·cases h
 ·cases h
end
end Mine
end
section
namespace Mine
structure Cf where
 G:Gl
 B:Bnd
 T:ClsT
 D:Tabs
 kp:Addr->Bool
 kf:Addr->Bool
 ini:Addr->Option Addr
 lt:Value->Option Addr
 isF:Addr->Bool
 F:Addr->List V->Sto->Option (V×Sto)
 orcN:Nat
structure CfOK (prog:Program) (w:World) (K:Frag) (C:Cf):Prop where
 G:GlOK K C.G
 F:FnOK prog w K C.G C.B
 T:ClsOK K C.T
 D:TabsOK prog w K C.D
 keep:KeepOK K C.kp C.kf
 ini:MakeOK K C.ini
 lam:LamOK K C.lt
 sm:(K.lookup sysModules).isSome=true
 con:∀a,C.isF a=true->ConOK prog w K C.orcN a (C.F a)
def orE {α:Type}(a b:Option α):Option α:=match a with
 | some x=>some x
 | none=>b
def zLG (args:List V)(σ:Sto):Option (V×Sto):=match args with
 | [u]=>(match zS u σ with
  | some l=>if l.length < 2 ^ 63 then some (.int l.length,σ) else none
  | none=>none)
 | _=>none
def zNi (args:List V)(σ:Sto):Option (V×Sto):=match args with
 | [.trk i]=>zLw i σ
 | [.trk i,.int 0]=>zHc i σ
 | _=>none
def zA (C:Cf)(id:String)(args:List V)(σ:Sto):Option (V×Sto):=
 if id=="list.pop" then zNi args σ
 else if id=="len" then orE (vM id args σ) (zLG args σ)
 else if id=="list.sort" then zJb args σ
 else if id=="iter" then zIq C.kf args σ
 else if id=="dict.items" then zHV args σ
 else if id=="dict.get" then zJK C.D args σ
 else if id=="re.Pattern.search" then zGk C.D.pat args σ
 else orE (vM id args σ) (orE (zCb id args σ) (orE (zB2 id args σ) (orE (zBe id args σ) (zBZ id args σ))))
def zBI (C:Cf):Mth:=zJq zPj (zJq (zQL C.T) (zPa C.D))
def zBQ (C:Cf)(n:Nat)(r:Rec)(f:V)(args:List V)(kw:List (Str×V))(σ:Sto):Option (V×Sto):=match f with
 | .val (.ref a)=>if C.isF a then (if Nat.ble C.orcN n && kw.isEmpty then zEB (C.F a) args σ else none) else (match C.ini a with
  | some _=>zE0 C.G C.B C.ini r a args kw σ
  | none=>yW C.G C.B r a args kw σ)
 | .val (.builtin id)=>if kw.isEmpty then zA C id args σ else none
 | .val (.type T)=>if kw.isEmpty then zBc T args σ else none
 | .trk i=>(match (σ[i]? :Option Ob) with
  | some (.lam _ _ _)=>xW r i args kw σ
  | some (.meth g u)=>if C.kf g then yW C.G C.B r g (u::args) kw σ else none
  | _=>none)
 | _=>none
def zMc (r:Rec)(op:UnaryOp)(x:Expr)(ae:AE)(σ:Sto):Option (V×Sto):=match r.e x ae σ with
 | some (v,σ₁)=>(match op,v with
  | .Not,v=>(kU v σ₁).map fun b=>(.bool (!b),σ₁)
  | .USub,.int i=>some (.int (-i),σ₁)
  | _,_=>none)
 | none=>none
def zLD (C:Cf):Ops:=⟨zPl C.D,fun _ _=>none⟩
def evE (C:Cf)(r:Rec)(e:Expr)(ae:AE)(σ:Sto):Option (V×Sto):=match e with
 | .Constant c _ _=>(wJ c).map (·,σ)
 | .Name x _=>if eqS x ("__debug__":Str) then some (.bool true,σ) else (kP C.G x ae σ).map (·,σ)
 | .Tuple es _ _=>zA1 r es ae σ
 | .List es _=>zBh r es ae σ
 | .IfExp t a b _=>zBq r t a b ae σ
 | .BinOp a op b _=>uE r (zLj op) a b ae σ
 | .BoolOp op xs _=>zBH r op xs ae σ
 | .UnaryOp op x _=>zMc r op x ae σ
 | .Compare l ops rs _=>wG (zLD C) r l ops rs ae σ
 | .Subscript v i _=>zET r v i ae σ
 | .Attribute o name _=>zCW C.T r o name ae σ
 | .ListComp elt gens scope _=>xP r elt gens scope ae σ
 | .Lambda ps b scope _=>zBj C.lt ps b scope ae σ
 | .Call (.Attribute o name apos) args kws pos=>zCC C.kp C.kf (zBI C) r o name apos pos args kws ae σ
 | .Call f args kws _=>zA3 C.kp C.kf r f args kws ae σ
 | _=>none
def zDi:Expr->Bool
 | .Constant .. =>true
 | .Name .. =>true
 | .Call .. =>true
 | .Attribute .. =>true
 | .Subscript .. =>true
 | .BinOp .. =>true
 | _=>false
def evT (C:Cf)(r:Rec)(e:Expr)(ae:AE)(σ:Sto):Option (Bool×Sto):=match e with
 | .UnaryOp .Not x _=>(match r.t x ae σ with | some (b,σ₁)=>some (!b,σ₁) | none=>none)
 | .BoolOp op xs _=>zEd r op xs ae σ
 | .Compare l [op] [x] _=>zBa (zLD C) r l op x ae σ
 | e=>if zDi e then (match evE C r e ae σ with
  | some (v,σ₁)=>(kU v σ₁).map (·,σ₁)
  | none=>none) else none
def vQ (r:Rec)(t:Expr)(e:Expr)(ae:AE)(σ:Sto):Option (Fl×Sto):=if xL e || zGd e then none else match r.e e ae σ with
 | some (v,σ₁)=>(match qD t v ae σ₁ with | some σ₂=>some (.next,σ₂) | none=>none)
 | none=>none
def evX (C:Cf)(r:Rec)(st:Stmt)(ae:AE)(σ:Sto):Option (Fl×Sto):=match st with
 | .Return e _=>zGp r e ae σ
 | .If t a b _=>zHF r t a b ae σ
 | .For t it body orelse _=>zAI C.kf r t it body orelse ae σ
 | .While t body [] _=>yF r t body ae σ.length 1000 σ
 | .Expr e _=>zBu r e ae σ
 | .Assign [.Name x _] e _=>qS r x e ae σ
 | .Assign [.Attribute o name _] e _=>xY C.T r o name e ae σ
 | .Assign [.Tuple es k p] e _=>vQ r (.Tuple es k p) e ae σ
 | .AugAssign (.Name x _) op e _=>xT C.G r x op e ae σ
 | .AugAssign (.Attribute o name _) op e _=>xV C.T r o name op e ae σ
 | .AugAssign (.Subscript o i _) op e _=>uD r o i op e ae σ
 | .Pass _=>some (.next,σ)
 | .Break _=>some (.brk,σ)
 | .Continue _=>some (.cont,σ)
 | _=>none
def zOm (C:Cf)(n:Nat)(r:Rec):Rec:=⟨evE C r,evT C r,evX C r,zBQ C n r⟩
def ev (C:Cf):Nat->Rec
 | 0=>⟨fun _ _ _=>none,fun _ _ _=>none,fun _ _ _=>none,fun _ _ _ _=>none⟩
 | n + 1=>zOm C (2 * n + 5) (ev C n)
section
variable {prog:Program} {w:World} {A:Around} {K:Frag} {C:Cf} {n:Nat} {r:Rec} {ρ:List Addr} {σ σ':Sto} {s:Shared} {ae:AE} {env:Env}
theorem xU {α:Type}{a b:Option α}{x:α}(h:orE a b=some x):a=some x\/b=some x:=by
 unfold orE at h;split at h
 ·cases h; exact .inl rfl
 ·exact .inr h
theorem Rm.le {m:Nat}(h:Rm A n)(hm:m<=n):Rm A m:=⟨h.1,by have:=h.2.1; omega,by have:=h.2.2; omega⟩
theorem zGM {h:Heap}:∀{kw:List (Str×V)} {xk:List (Str×Value)},xk.map (·.1)=kw.map (·.1)->VRs ρ h (kw.map (·.2)) (xk.map (·.2))->BindsR ρ h kw xk
 | [],[],_,_=>rfl
 | [],_::_,e,_=>by cases e
 | _::_,[],e,_=>by cases e
 | (x,v)::kw,(y,u)::xk,e,r=>by
  simp only [List.map_cons,List.cons.injEq] at e;simp only [List.map_cons] at r;unfold VRs at r;obtain ⟨z,zs,hz,rz,r⟩:=r;injection hz with h1 h2
  subst h1 h2;obtain ⟨e1,e2⟩:=e;subst e1;exact ⟨_,_,rfl,rz,zGM e2 r⟩
theorem zFn (CO:CfOK prog w K C):MthOK prog w K (zBI C):=zGT zNb (zGT (zNq CO.T) (zNC CO.D))
theorem zMA (CO:CfOK prog w K C):OpsOK prog w K (zLD C):=zTW CO.D
theorem zEs (CO:CfOK prog w K C)(hh:A.handled=none){id:String}{args:List V}{v:V}(h:zA C id args σ=some (v,σ'))(I:Inv K ρ σ s){xs:List Value}(rs:VRs ρ s.heap args xs):SE (model prog w) A K ρ s (call (.builtin id) xs) v σ':=by
 unfold zA at h;split at h
 ·rename_i hid
  rw [beq_iff_eq] at hid; subst hid;unfold zNi at h;split at h
  ·obtain ⟨y,rfl,ry⟩:=zF rs
   obtain ⟨a,ha,rfl⟩:=vrT ry;exact zKu h I ha
  ·unfold VRs at rs
   obtain ⟨y,ys,rfl,ry,rys⟩:=rs;obtain ⟨z,rfl,rz⟩:=zF rys;obtain ⟨a,ha,rfl⟩:=vrT ry;obtain ⟨t,rfl⟩:=vrI rz;exact zIB h I ha
  ·cases h
 ·split at h
  ·rename_i hid
   rw [beq_iff_eq] at hid; subst hid;rcases xU h with h | h
   ·exact zDN h I rs
   ·unfold zLG at h
    split at h
    ·split at h
     ·rename_i l hl
      split at h
      ·rename_i hz
       cases h;obtain ⟨y,rfl,ry⟩:=zF rs;exact zHt hl hz I ry
      ·cases h
     ·cases h
    ·cases h
  ·split at h
   ·rename_i hid
    rw [beq_iff_eq] at hid; subst hid;exact zHB h I rs
   ·split at h
    ·rename_i hid
     rw [beq_iff_eq] at hid; subst hid;exact zHa h I rs
    ·split at h
     ·rename_i hid
      rw [beq_iff_eq] at hid; subst hid;exact zHf CO.sm h I rs
     ·split at h
      ·rename_i hid
       rw [beq_iff_eq] at hid; subst hid;exact zHN CO.D h I rs
      ·split at h
       ·rename_i hid
        rw [beq_iff_eq] at hid; subst hid;exact zFW CO.D.pp h I rs
       ·rcases xU h with h | h
        ·exact zDN h I rs
        ·rcases xU h with h | h
         ·exact zHp h I rs
         ·rcases xU h with h | h
          ·exact zHs h I rs
          ·rcases xU h with h | h
           ·exact zGJ h I rs
           ·exact zG4 hh h I rs
theorem zGf (CO:CfOK prog w K C)(hr:Snd (model prog w) K n r)(hA:Rm A (n + 1)){a:Addr}{args:List V}{kw:List (Str×V)}{v:V}(h:yW C.G C.B r a args kw σ=some (v,σ'))(I:Inv K ρ σ s){xs:List Value}{xk:List (Str×Value)}
  (rs:VRs ρ s.heap args xs) (rk:BindsR ρ s.heap kw xk):SE (model prog w) A K ρ s (call (.ref a) xs xk) v σ':=fun Q E q=>
 wpAny_call (wR CO.F hr hA h I rs rk fun ρ' s' x I' X' rx=>q _ _ _ I' X' rx)
theorem zHO (CO:CfOK prog w K C)(hr:Snd (model prog w) K n r)(hA:Rm A (n + 2)){f:V}{args:List V}{kw:List (Str×V)}{v:V}(h:zBQ C n r f args kw σ=some (v,σ'))(I:Inv K ρ σ s){x:Value}{xs:List Value}{xk:List (Str×Value)}
  (rf:VR ρ s.heap f x) (rs:VRs ρ s.heap args xs) (rk:BindsR ρ s.heap kw xk):SE (model prog w) A K ρ s (call x xs xk) v σ':=by
 unfold zBQ at h;split at h
 ·rename_i a
  cases vrV rf;split at h
  ·rename_i hf
   split at h
   ·rename_i hn
    rw [Bool.and_eq_true,Nat.ble_eq] at hn;obtain ⟨hn,hk⟩:=hn;have hk:kw=[]:=by simpa using hk
    subst hk;have rk:xk=[]:=rk;subst rk;exact zGm (CO.con a hf) (hA.le (Nat.le_trans hn (Nat.le_add_right _ _))) h I rs
   ·cases h
  ·split at h
   ·exact zJ1 CO.F CO.ini hr hA h I rs rk
   ·exact zGf CO hr hA.down h I rs rk
 ·rename_i id
  cases vrV rf;split at h
  ·rename_i hk
   have hk:kw=[]:=by simpa using hk
   subst hk;have rk:xk=[]:=rk;subst rk;exact zEs CO hA.1 h I rs
  ·cases h
 ·rename_i T
  cases vrV rf;split at h
  ·rename_i hk
   have hk:kw=[]:=by simpa using hk
   subst hk;have rk:xk=[]:=rk;subst rk;exact zGZ hA.1 h I rs
  ·cases h
 ·rename_i i
  obtain ⟨a,ha,rfl⟩:=vrT rf;split at h
  ·exact zEr CO.F.lim hr hA.down h I ha rs rk
  ·rename_i g u hi
   split at h
   ·rename_i hg
    obtain ⟨y,ry,ho⟩:=I.obs _ a _ ha hi;intro Q E q;refine wpAny_call (ks_codeAny_call_bound ho ?_);refine wR CO.F hr hA.down h I (xs:=y::xs) ?_ rk fun ρ' s' x I' X' rx=>q _ _ _ I' X' rx;unfold VRs;exact ⟨_,_,rfl,ry,rs⟩
   ·cases h
  ·cases h
 ·cases h
theorem zK5 (hr:Snd (model prog w) K n r)(hA:Rm A n){op:UnaryOp}{x:Expr}{pos:Pos}{v:V}(h:zMc r op x ae σ=some (v,σ'))(X:EnvR ρ ae env)(I:Inv K ρ σ s):SE (model prog w) A K ρ s (eval (.UnaryOp op x pos) env) v σ':=by
 intro Q E q;unfold zMc at h;split at h
 ·rename_i u σ₁ h1
  refine wpAny_UnaryOp (hr.e _ _ _ _ _ h1 A env ρ s hA X I _ _ fun ρ₁ s₁ y I₁ X₁ ry=>?_);split at h
  ·obtain ⟨b,hb,e⟩:=Option.map_eq_some_iff.mp h
   cases e;exact not_of (kB hb I₁ ry fun ρ₂ s₂ I₂ X₂=>q _ _ _ I₂ (X₁.then I₁ X₂) kI)
  ·cases h
   obtain ⟨t,rfl⟩:=vrI ry;exact P.neg_int (q _ _ _ (I₁.toks _) (X₁.toks _) qK)
  ·cases h
 ·cases h
theorem zIg (CO:CfOK prog w K C){x:Str}{pos:Pos}{v:V}(h:(if eqS x ("__debug__":Str) then some (V.bool true,σ) else (kP C.G x ae σ).map (·,σ))=some (v,σ'))(X:EnvR ρ ae env)(I:Inv K ρ σ s):SE (model prog w) A K ρ s (eval (.Name x pos) env) v σ':=by
 intro Q E q;rw [arm_eval_Name];rw [qT] at h;refine wpAny_bind (wpAny_standAt ?_);split at h
 ·rename_i hd
  cases h;rw [if_pos hd];unfold debugConstant;exact wpAny_bind (wpAny_rule (wpAny_pure (q _ _ _ I (.refl _ _) kI)))
 ·rename_i hd
  rw [if_neg hd];obtain ⟨u,hu,e⟩:=Option.map_eq_some_iff.mp h;cases e;exact (zCy CO.G hu X I fun y ry=>q _ _ _ I (.refl _ _) ry).2
theorem zEK (CO:CfOK prog w K C)(hr:Snd (model prog w) K n r)(hA:Rm A (n + 2))(hu:A.units + 65 < cLine){e:Expr}{v:V}(h:evE C r e ae σ=some (v,σ'))(X:EnvR ρ ae env)(I:Inv K ρ σ s):SE (model prog w) A K ρ s (eval e env) v σ':=by
 have hA0:Rm A n:=hA.down.down;unfold evE at h;split at h
 ·obtain ⟨u,hc,e⟩:=Option.map_eq_some_iff.mp h
  cases e;exact zGC hc I
 ·exact zIg CO h X I
 ·exact zHi hr hA0 h X I
 ·exact zIa hr hA0 h X I
 ·exact zGo hr hA0 h X I
 ·exact fun Q E q=>wpAny_BinOp (zAF hr hA0 (fun a b σ v σ' h ρ s x y I ra rb=>zKF h I ra rb) h X I Q E q)
 ·exact fun Q E q=>by rw [arm_eval_BoolOp]; exact zCB hr hA0 h X I Q E q
 ·exact zK5 hr hA0 h X I
 ·exact zEt (zMA CO) hu hr hA0 h X I
 ·exact zKt hr hA0 h X I
 ·exact zFG CO.T hr hA0 h X I
 ·exact vY hr hA0 h X I
 ·exact zFE CO.F.lim CO.lam h X I
 ·exact zHu hr hA0 hu CO.keep (zFn CO) h X I
 ·rename_i f args kws pos hne
  exact zG1 hr hA0 CO.keep h (fun o x p e=>hne o x p (by rw [e])) X I
 ·cases h
end
end Mine
end
section
namespace Mine
section
variable {prog:Program} {w:World} {A:Around} {K:Frag} {C:Cf} {n:Nat} {r:Rec} {ρ:List Addr} {σ σ':Sto} {s:Shared} {ae:AE} {env:Env}
theorem zCq {e:Expr}(h:zDi e=true)(env:Env)(whole:Sem Value):isTrue e env whole=(do let v <-whole; standAt e.pos; holding [v] (truthy v)):=by
 cases e <;>first | rfl | cases h
theorem zKL (CO:CfOK prog w K C)(hr:Snd (model prog w) K n r)(hA:Rm A (n + 2))(hu:A.units + 65 < cLine){e:Expr}{b:Bool}(h:evT C r e ae σ=some (b,σ'))(X:EnvR ρ ae env)(I:Inv K ρ σ s):SB (model prog w) A K ρ s (PySem.isTrue e env (eval e env)) b σ':=by
 have hA0:Rm A n:=hA.down.down;unfold evT at h;split at h
 ·rename_i x pos
  split at h
  ·rename_i c σ₁ h1
   cases h;intro Q E q;exact wpAny_isTrue_Not (hr.t _ _ _ _ _ h1 A env ρ s hA0 X I _ _ fun ρ₁ s₁ I₁ X₁=>q _ _ I₁ X₁)
  ·cases h
 ·exact fun Q E q=>wpAny_isTrue_BoolOp (zEF hr hA0 h X I Q E q)
 ·exact zGB (zMA CO) hu hr hA0 h X I
 ·split at h
  ·rename_i hp
   split at h
   ·rename_i v σ₁ h1
    obtain ⟨c,hc,e⟩:=Option.map_eq_some_iff.mp h;cases e;intro Q E q;refine isTrue_plain (zEK CO hr hA hu h1 X I _ _ fun ρ₁ s₁ x I₁ X₁ rx=>?_) (zCq hp env _);exact kB hc I₁ rx fun ρ₂ s₂ I₂ X₂=>q _ _ I₂ (X₁.then I₁ X₂)
   ·cases h
  ·cases h
theorem zFF (hr:Snd (model prog w) K n r)(hA:Rm A n){es:List Expr}{k:Nat}{p pos:Pos}{e:Expr}{f:Fl}(h:vQ r (.Tuple es k p) e ae σ=some (f,σ'))(X:EnvR ρ ae env)(I:Inv K ρ σ s):SX (model prog w) A K ρ s (exec (.Assign [.Tuple es k p] e pos) env) f σ':=by
 intro Q E q;unfold vQ at h;split at h
 ·cases h
 ·rename_i hc
  simp only [Bool.or_eq_true,not_or,Bool.not_eq_true] at hc;split at h
  ·rename_i v σ₁ h1
   split at h
   ·rename_i σ₂ h2
    cases h;obtain ⟨hc1,hc2⟩:=hc;refine Assign_Tuple (hr.e _ _ _ _ _ h1 A env ρ s hA X I _ _ fun ρ₁ s₁ x I₁ X₁ rx=>?_) (by cases e <;>first | rfl | (cases hc1; done) | (cases hc2; done)) (by cases e <;>first | rfl | (cases hc1; done) | (cases hc2; done));exact uR hA.1 h2 (X.ext X₁) I₁ rx _ _ fun ρ₂ s₂ I₂ X₂=>q _ _ _ I₂ (X₁.then I₁ X₂) .next
   ·cases h
  ·cases h
theorem zKC (CO:CfOK prog w K C)(hr:Snd (model prog w) K n r)(hA:Rm A (n + 2)){st:Stmt}{f:Fl}(h:evX C r st ae σ=some (f,σ'))(X:EnvR ρ ae env)(I:Inv K ρ σ s):SX (model prog w) A K ρ s (exec st env) f σ':=by
 have hA0:Rm A n:=hA.down.down;unfold evX at h;split at h
 ·exact zKY hr hA0 h X I
 ·exact zL9 hr hA0 h X I
 ·exact zHJ CO.sm CO.keep hr hA.down h X I
 ·exact zGj hr hA0 rfl h X I
 ·exact zGL hr hA0 h X I
 ·exact zCA hr hA0 h X I
 ·exact zEy CO.T hr hA0 h X I
 ·exact zFF hr hA0 h X I
 ·exact zEq CO.G hr hA0 h X I
 ·exact zEx CO.T hr hA0 h X I
 ·exact zFK hr hA0 h X I
 ·cases h
  exact fun Q E q=>wpAny_Pass (q _ _ _ I (.refl _ _) .next)
 ·cases h
  exact fun Q E q=>wpAny_Break (q _ _ _ I (.refl _ _) .brk)
 ·cases h
  exact fun Q E q=>wpAny_Continue (q _ _ _ I (.refl _ _) .cont)
 ·cases h
theorem zIk (CO:CfOK prog w K C):∀n,Snd (model prog w) K (2 * n + 5) (ev C n)
 | 0=>⟨(fun _ _ _ _ _ h=>by cases h),(fun _ _ _ _ _ h=>by cases h),(fun _ _ _ _ _ h=>by cases h),(fun _ _ _ _ _ _ h=>by cases h)⟩
 | n + 1=>by
  have hr:=zIk CO n;have e:2 * (n + 1) + 5=(2 * n + 5) + 2:=by omega
  have hu:∀{A:Around},Rm A (2 * (n + 1) + 5)->A.units + 65 < cLine:=fun h=>by have:=h.2.2; omega
  refine ⟨?_,?_,?_,?_⟩
  ·intro e ae σ v σ' h A env ρ s hA X I
   exact zEK CO hr hA (hu hA) h X I
  ·intro e ae σ b σ' h A env ρ s hA X I
   exact zKL CO hr hA (hu hA) h X I
  ·intro e ae σ f σ' h A env ρ s hA X I
   exact zKC CO hr hA h X I
  ·intro f args kw σ v σ' h A ρ s x xs xk hA I rf rs rk
   exact zHO CO hr hA h I rf rs (zGM rk.1 rk.2)
end
end Mine
end
section
namespace Mine
inductive Sy where
 | fail
 | done (v:V) (σ:Sto)
 | ask (b:Bool) (k:Bool->Sy)
 | pick (o:Option (V×Sto)) (k:V->Sto->Sy)
def run:Sy->Option (V×Sto)
 | .fail=>none
 | .done v σ=>some (v,σ)
 | .ask b k=>run (k b)
 | .pick o k=>match o with
  | some p=>run (k p.1 p.2)
  | none=>none
inductive Dec where
 | ans (n:Nat) (b:Bool)
 | val (n:Nat) (v:V) (σ:Sto)
inductive Nxt where
 | self (ds:List Dec)
 | ans (b:Bool) (ds:List Dec)
 | val (v:V) (σ:Sto) (ds:List Dec)
def nxt:List Dec->Nxt
 | []=> .self []
 | .ans 0 b::ds=> .ans b ds
 | .ans (n + 1) b::ds=> .self (.ans n b::ds)
 | .val 0 v σ::ds=> .val v σ ds
 | .val (n + 1) v σ::ds=> .self (.val n v σ::ds)
def zP:Sy->List Dec->Option (List Prop×V×Sto)
 | .fail,_=>none
 | .done v σ,_=>some ([],v,σ)
 | .ask b k,ds=>match nxt ds with
  | .self ds=>(match b with
   | true=>zP (k true) ds
   | false=>zP (k false) ds)
  | .ans d ds=>(match zP (k d) ds with
   | some (l,r)=>some ((b=d)::l,r)
   | none=>none)
  | .val _ _ _=>none
 | .pick o k,ds=>match nxt ds with
  | .self ds=>(match o with
   | some (v,σ)=>zP (k v σ) ds
   | none=>none)
  | .ans _ _=>none
  | .val v σ ds=>(match zP (k v σ) ds with
   | some (l,r)=>some ((o=some (v,σ))::l,r)
   | none=>none)
def zAJ:List Prop->Prop
 | []=>True
 | p::l=>p/\zAJ l
theorem zN:∀(t:Sy) (ds:List Dec) (l:List Prop) (v:V) (σ:Sto),zP t ds=some (l,v,σ)->zAJ l->run t=some (v,σ)
 | .fail,_,_,_,_,h,_=>by cases h
 | .done v σ,_,_,_,_,h,_=>by cases h; rfl
 | .ask b k,ds,l,v,σ,h,hl=>by
  unfold zP at h;unfold run;split at h
  ·rename_i ds' _
   cases b with
   | true=>exact zN (k true) ds' l v σ h hl
   | false=>exact zN (k false) ds' l v σ h hl
  ·rename_i d ds' _
   split at h
   ·rename_i l' r hf
    cases h;rw [hl.1];exact zN (k d) ds' l' v σ hf hl.2
   ·cases h
  ·cases h
 | .pick o k,ds,l,v,σ,h,hl=>by
  unfold zP at h;unfold run;split at h
  ·rename_i ds' _
   rcases o with _ | ⟨u,τ⟩
   ·cases h
   ·exact zN (k u τ) ds' l v σ h hl
  ·cases h
  ·rename_i u τ ds' _
   split at h
   ·rename_i l' r hf
    cases h;rw [hl.1];exact zN (k u τ) ds' l' v σ hf hl.2
   ·cases h
theorem kA (o:Option (V×Sto))(k:V->Sto->Sy):run (.pick o k)=o.bind fun p=>run (k p.1 p.2):=by cases o <;>rfl
def liO {α:Type}(o:Option α)(k:α->Sy):Sy:=match o with
 | some a=>k a
 | none=> .fail
theorem zE {α:Type}(o:Option α)(k:α->Sy):run (liO o k)=o.bind fun a=>run (k a):=by cases o <;>rfl
def xC (b:Bool)(k:Sy):Sy:= .ask b fun d=>match d with
 | true=>k
 | false=> .fail
theorem zI (b:Bool)(k:Sy):run (xC b k)=if b=true then run k else none:=by cases b <;>rfl
theorem yZ (b:Bool)(k:Bool->Sy):run (.ask b k)=run (k b):=rfl
structure RecK where
 e:Expr->AE->Sto->(V->Sto->Sy)->Sy
 t:Expr->AE->Sto->(Bool->Sto->Sy)->Sy
 x:Stmt->AE->Sto->(Fl->Sto->Sy)->Sy
 c:V->List V->List (Str×V)->Sto->(V->Sto->Sy)->Sy
structure Runs (r:Rec) (q:RecK):Prop where
 e:∀e ae σ k,run (q.e e ae σ k)=(r.e e ae σ).bind fun p=>run (k p.1 p.2)
 t:∀e ae σ k,run (q.t e ae σ k)=(r.t e ae σ).bind fun p=>run (k p.1 p.2)
 x:∀e ae σ k,run (q.x e ae σ k)=(r.x e ae σ).bind fun p=>run (k p.1 p.2)
 c:∀f args kw σ k,run (q.c f args kw σ k)=(r.c f args kw σ).bind fun p=>run (k p.1 p.2)
variable {r:Rec} {q:RecK} {ae:AE}
def kL (q:RecK):List Expr->AE->Sto->(List V->Sto->Sy)->Sy
 | [],_,σ,k=>k [] σ
 | .Starred .. ::_,_,_,_=> .fail
 | e::es,ae,σ,k=>q.e e ae σ fun v σ₁=>kL q es ae σ₁ fun vs σ₂=>k (v::vs) σ₂
theorem zGh (R:Runs r q):∀(es:List Expr) (σ:Sto) (k:List V->Sto->Sy),run (kL q es ae σ k)=(evL r es ae σ).bind fun p=>run (k p.1 p.2)
 | [],σ,k=>rfl
 | e::es,σ,k=>by
  have ih:=zGh R es;have gen:run (q.e e ae σ fun v σ₁=>kL q es ae σ₁ fun vs σ₂=>k (v::vs) σ₂)=(match r.e e ae σ with
   | some (v,σ₁)=>(match evL r es ae σ₁ with | some (vs,σ₂)=>some (v::vs,σ₂) | none=>none)
   | none=>none:Option (List V×Sto)).bind fun p=>run (k p.1 p.2):=by
   rw [R.e];cases r.e e ae σ with
   | none=>rfl
   | some p=>
    obtain ⟨v,σ₁⟩:=p;simp only [Option.bind_some,ih];cases evL r es ae σ₁ with
    | none=>rfl
    | some p=>rfl
  cases e <;>first | exact gen | rfl
def zHZ (q:RecK)(es:List Expr)(ae:AE)(σ:Sto)(k:V->Sto->Sy):Sy:=kL q es ae σ fun vs σ'=>xC (decide (vs.length<=1000)) (k (.tup vs) σ')
theorem zHC (R:Runs r q)(es:List Expr)(σ:Sto)(k:V->Sto->Sy):run (zHZ q es ae σ k)=(zA1 r es ae σ).bind fun p=>run (k p.1 p.2):=by
 unfold zHZ zA1;rw [zGh R];cases evL r es ae σ with
 | none=>rfl
 | some p=>
  simp only [Option.bind_some,zI,decide_eq_true_eq];split <;>rfl
def zIm (q:RecK)(es:List Expr)(ae:AE)(σ:Sto)(k:V->Sto->Sy):Sy:=kL q es ae σ fun vs σ'=>xC (decide (vs.length<=1000)) (k (.trk σ'.length) (σ' ++ [.list vs]))
theorem zIV (R:Runs r q)(es:List Expr)(σ:Sto)(k:V->Sto->Sy):run (zIm q es ae σ k)=(zBh r es ae σ).bind fun p=>run (k p.1 p.2):=by
 unfold zIm zBh;rw [zGh R];cases evL r es ae σ with
 | none=>rfl
 | some p=>
  simp only [Option.bind_some,zI,decide_eq_true_eq];split <;>rfl
def zH6 (q:RecK)(t a b:Expr)(ae:AE)(σ:Sto)(k:V->Sto->Sy):Sy:=q.t t ae σ fun c σ'=> .ask c fun d=>match d with
 | true=>q.e a ae σ' k
 | false=>q.e b ae σ' k
theorem zHY (R:Runs r q)(t a b:Expr)(σ:Sto)(k:V->Sto->Sy):run (zH6 q t a b ae σ k)=(zBq r t a b ae σ).bind fun p=>run (k p.1 p.2):=by
 unfold zH6 zBq;rw [R.t];rcases r.t t ae σ with _ | ⟨_ | _,σ₁⟩
 ·rfl
 ·exact R.e _ _ _ _
 ·exact R.e _ _ _ _
def zJh (q:RecK)(f:V->V->Sto->(V->Sto->Sy)->Sy)(a b:Expr)(ae:AE)(σ:Sto)(k:V->Sto->Sy):Sy:=q.e a ae σ fun x σ₁=>q.e b ae σ₁ fun y σ₂=>f x y σ₂ k
theorem zE1 (R:Runs r q){f:V->V->Sto->Option (V×Sto)}{g:V->V->Sto->(V->Sto->Sy)->Sy}(hg:∀x y σ k,run (g x y σ k)=(f x y σ).bind fun p=>run (k p.1 p.2))(a b:Expr)(σ:Sto)(k:V->Sto->Sy):
  run (zJh q g a b ae σ k)=(uE r f a b ae σ).bind fun p=>run (k p.1 p.2):=by
 unfold zJh uE;rw [R.e];rcases r.e a ae σ with _ | ⟨x,σ₁⟩
 ·rfl
 ·simp only [Option.bind_some,R.e]
  rcases r.e b ae σ₁ with _ | ⟨y,σ₂⟩
  ·rfl
  ·simp only [Option.bind_some,hg]
def kS (q:RecK):List Stmt->AE->Sto->(Fl->Sto->Sy)->Sy
 | [],_,σ,k=>k .next σ
 | st::rest,ae,σ,k=>q.x st ae σ fun f σ₁=>match f with
  | .next=>kS q rest ae σ₁ k
  | f=>k f σ₁
theorem xN (R:Runs r q):∀(l:List Stmt) (σ:Sto) (k:Fl->Sto->Sy),run (kS q l ae σ k)=(evs r l ae σ).bind fun p=>run (k p.1 p.2)
 | [],σ,k=>rfl
 | st::rest,σ,k=>by
  have ih:=xN R rest;unfold kS evs;rw [R.x];rcases r.x st ae σ with _ | ⟨f,σ₁⟩
  ·rfl
  ·cases f <;>first | rfl | exact ih _ _
def kIf (q:RecK)(t:Expr)(a b:List Stmt)(ae:AE)(σ:Sto)(k:Fl->Sto->Sy):Sy:=q.t t ae σ fun c σ'=> .ask c fun d=>match d with
 | true=>kS q a ae σ' k
 | false=>kS q b ae σ' k
theorem zNp (R:Runs r q)(t:Expr)(a b:List Stmt)(σ:Sto)(k:Fl->Sto->Sy):run (kIf q t a b ae σ k)=(zHF r t a b ae σ).bind fun p=>run (k p.1 p.2):=by
 unfold kIf zHF;rw [R.t];rcases r.t t ae σ with _ | ⟨_ | _,σ₁⟩
 ·rfl
 ·exact xN R _ _ _
 ·exact xN R _ _ _
def zOP (q:RecK)(e:Option Expr)(ae:AE)(σ:Sto)(k:Fl->Sto->Sy):Sy:=match e with
 | none=>k (.ret .none) σ
 | some e=>q.e e ae σ fun v σ'=>k (.ret v) σ'
theorem zLF (R:Runs r q)(e:Option Expr)(σ:Sto)(k:Fl->Sto->Sy):run (zOP q e ae σ k)=(zGp r e ae σ).bind fun p=>run (k p.1 p.2):=by
 unfold zOP zGp;cases e with
 | none=>rfl
 | some e=>
  dsimp only;rw [R.e];rcases r.e e ae σ with _ | ⟨v,σ₁⟩ <;>rfl
end Mine
end
section
namespace Mine
variable {r:Rec} {q:RecK} {ae:AE} {σ:Sto}
def pyK (σ:Sto)(a b:V)(k:Bool->Sy):Sy:=liO (py σ 9 a) fun x=>liO (py σ 9 b) fun y=>xC (SeqAt.shaped x && SeqAt.shaped y) (k (x.eqv y))
def eqK (a b:V)(σ:Sto)(k:Bool->Sy):Sy:=match a,b with
 | .int i,.int j=>k (i==j)
 | .str x,.str y=>k (x.cps.toList==y.cps.toList)
 | .bool x,.bool y=>k (x==y)
 | a,b=>pyK σ a b k
theorem zM3 (a b:V)(k:Bool->Sy):run (pyK σ a b k)=(match py σ 9 a,py σ 9 b with
  | some x,some y=>if SeqAt.shaped x && SeqAt.shaped y then some (x.eqv y) else none
  | _,_=>none:Option Bool).bind fun c=>run (k c):=by
 unfold pyK;rw [zE];cases py σ 9 a with
 | none=>rfl
 | some x=>
  simp only [Option.bind_some,zE];cases py σ 9 b with
  | none=>rfl
  | some y=>
   simp only [Option.bind_some,zI];split <;>rfl
theorem zJE (a b:V)(k:Bool->Sy):run (eqK a b σ k)=(eqA a b σ).bind fun c=>run (k c):=by
 cases a <;>cases b <;>first | rfl | exact zM3 _ _ k
def inK (a b:V)(σ:Sto)(k:Option Bool->Sy):Sy:=match a,b with
 | .str y,.str x=>k (inA (.str y) (.str x) σ)
 | a,b=>(match py σ 9 a,py σ 9 b with
  | some d,some (.list xs)=> .ask (SeqAt.shaped d && SeqAt.shaped (.list xs)) fun c=>match c with
   | true=>k (some (xs.any fun y=>PyData.eqv y d))
   | false=>k none
  | some d,some (.tuple xs)=> .ask (SeqAt.shaped d && SeqAt.shaped (.tuple xs)) fun c=>match c with
   | true=>k (some (xs.any fun y=>PyData.eqv y d))
   | false=>k none
  | _,_=>k none)
theorem zI6 (a b:V)(k:Option Bool->Sy):run (inK a b σ k)=run (k (inA a b σ)):=by
 have gen:∀{a b:V},run (match py σ 9 a,py σ 9 b with
  | some d,some (.list xs)=> .ask (SeqAt.shaped d && SeqAt.shaped (.list xs)) fun c=>match c with
   | true=>k (some (xs.any fun y=>PyData.eqv y d))
   | false=>k none
  | some d,some (.tuple xs)=> .ask (SeqAt.shaped d && SeqAt.shaped (.tuple xs)) fun c=>match c with
   | true=>k (some (xs.any fun y=>PyData.eqv y d))
   | false=>k none
  | _,_=>k none)=run (k (match py σ 9 a,py σ 9 b with
  | some d,some (.list xs)=>if SeqAt.shaped d && SeqAt.shaped (.list xs) then some (xs.any fun y=>PyData.eqv y d) else none
  | some d,some (.tuple xs)=>if SeqAt.shaped d && SeqAt.shaped (.tuple xs) then some (xs.any fun y=>PyData.eqv y d) else none
  | _,_=>none)):=by
  intro a b;split
  ·rw [yZ]
   cases hs:SeqAt.shaped _ && SeqAt.shaped _ <;>rfl
  ·rw [yZ]
   cases hs:SeqAt.shaped _ && SeqAt.shaped _ <;>rfl
  ·rfl
 cases a <;>cases b <;>first | rfl | exact gen
def zKz (O:Ops)(op:CmpOp)(a b:V)(σ:Sto)(k:Bool->Sy):Sy:=match op with
 | .Eq=>eqK a b σ k
 | .NotEq=>eqK a b σ fun c=>k (!c)
 | .In=>inK a b σ fun o=>match o with | some c=>k c | none=>liO (O.inn a b) k
 | .NotIn=>inK a b σ fun o=>match o with | some c=>k (!c) | none=>liO (O.inn a b) fun c=>k (!c)
 | op=>liO (zCS O op a b σ) k
theorem zD5 (O:Ops)(op:CmpOp)(a b:V)(k:Bool->Sy):run (zKz O op a b σ k)=(zCS O op a b σ).bind fun c=>run (k c):=by
 cases op <;>first | exact zE _ _ | skip
 ·exact zJE a b k
 ·show run (eqK a b σ fun c=>k (!c))=((eqA a b σ).map (!·)).bind fun c=>run (k c)
  rw [zJE];cases eqA a b σ <;>rfl
 ·unfold zKz zCS
  dsimp only;rw [zI6];cases inA a b σ with
  | some c=>rfl
  | none=>exact zE _ _
 ·unfold zKz zCS
  dsimp only;rw [zI6];cases inA a b σ with
  | some c=>rfl
  | none=>
   dsimp only;rw [zE];cases O.inn a b <;>rfl
def zBF (v:V)(σ:Sto)(k:Bool->Sy):Sy:=match v with
 | .none=>k false
 | .bool b=>k b
 | .int i=>k (i !=0)
 | .str s=>xC (decide (s.length < 2 ^ 63)) (k (s.length !=0))
 | .lst l=>xC (decide (l.length < 2 ^ 63)) (k (!l.isEmpty))
 | .trk i=>(match σ[i]? with | some (.list l)=>xC (decide (l.length < 2 ^ 63)) (k (!l.isEmpty)) | some (.stk b l)=>xC (decide (b<=1000)) (k (zNj l)) | _=> .fail)
 | _=> .fail
theorem zAK (v:V)(k:Bool->Sy):run (zBF v σ k)=(kU v σ).bind fun c=>run (k c):=by
 unfold zBF kU;cases v <;>try rfl
 ·simp only [zI,decide_eq_true_eq]; split <;>rfl
 ·simp only [zI,decide_eq_true_eq]; split <;>rfl
 ·rename_i i
  dsimp only;rcases (σ[i]? :Option Ob) with _ | ob
  ·rfl
  ·cases ob <;>try rfl
   ·simp only [zI,decide_eq_true_eq]; split <;>rfl
   ·simp only [zI,decide_eq_true_eq]; split <;>rfl
def zML (x y:Str)(σ:Sto)(k:V->Sto->Sy):Sy:= .ask (x.length==0) fun c=>match c with
 | true=>k (.str y) σ
 | false=> .ask (y.length==0) fun c=>match c with
  | true=>k (.str x) σ
  | false=>xC (decide ((x ++ y).length<=sizeLine)) (k (.str (x ++ y)) σ)
theorem zGl (x y:Str)(k:V->Sto->Sy):run (zML x y σ k)=(if x.length==0 then some (V.str y,σ) else if y.length==0 then some (V.str x,σ) else if (x ++ y).length<=sizeLine then some (V.str (x ++ y),σ) else none).bind fun p=>run (k p.1 p.2):=by
 unfold zML;rw [yZ];cases x.length==0 with
 | true=>rfl
 | false=>
  dsimp only;rw [yZ];cases y.length==0 with
  | true=>rfl
  | false=>
   simp only [zI,decide_eq_true_eq,Bool.false_eq_true,if_false];split <;>rfl
def zNI (i j:Int)(σ:Sto)(k:V->Sto->Sy):Sy:=xC (!(j==0 || Builtin.divisionGoesByPylong i j)) (k (.int (i.fdiv j)) σ)
theorem zGy (i j:Int)(k:V->Sto->Sy):run (zNI i j σ k)=(if j==0 || Builtin.divisionGoesByPylong i j then none else some (V.int (i.fdiv j),σ)).bind fun p=>run (k p.1 p.2):=by
 unfold zNI;rw [zI];cases (j==0 || Builtin.divisionGoesByPylong i j) <;>rfl
def zPx (op:Operator)(a b:V)(σ:Sto)(k:V->Sto->Sy):Sy:=match op,a,b with
 | .Mult,.int i,.int j=> .ask (decide (Builtin.Int.intBits j<=64)) fun c=>match c with
  | true=>k (.int (i * j)) σ
  | false=>xC (decide (Builtin.Int.intBits i<=64)) (k (.int (i * j)) σ)
 | .Mod,.int i,.int j=>xC (!(j==0)) (k (.int (i.fmod j)) σ)
 | .FloorDiv,.int i,.int j=>zNI i j σ k
 | .Add,.str x,.str y=>zML x y σ k
 | op,a,b=> .pick (zLj op a b σ) k
theorem zLe (op:Operator)(a b:V)(k:V->Sto->Sy):run (zPx op a b σ k)=(zLj op a b σ).bind fun p=>run (k p.1 p.2):=by
 unfold zPx;split
 ·rename_i i j
  rw [yZ];show _=(if Builtin.Int.intBits j<=64 then some (V.int (i * j),σ) else if Builtin.Int.intBits i<=64 then some (V.int (i * j),σ) else none).bind fun p=>run (k p.1 p.2)
  by_cases h:Builtin.Int.intBits j<=64
  ·rw [decide_eq_true h,if_pos h]; rfl
  ·rw [decide_eq_false h,if_neg h]
   dsimp only;rw [zI];simp only [decide_eq_true_eq];split <;>rfl
 ·rename_i i j
  rw [zI];show _=(if j==0 then none else some (V.int (i.fmod j),σ)).bind fun p=>run (k p.1 p.2);cases j==0 <;>rfl
 ·exact zGy _ _ _
 ·exact zGl _ _ _
 ·exact kA _ _
def zMC (op:Operator)(a b:V)(σ:Sto)(k:V->Sto->Sy):Sy:=match op,a,b with
 | .FloorDiv,.int i,.int j=>zNI i j σ k
 | .Add,.str x,.str y=>zML x y σ k
 | op,a,b=> .pick (zEA op a b σ) k
theorem zC5 (op:Operator)(a b:V)(k:V->Sto->Sy):run (zMC op a b σ k)=(zEA op a b σ).bind fun p=>run (k p.1 p.2):=by
 unfold zMC;split
 ·exact zGy _ _ _
 ·exact zGl _ _ _
 ·exact kA _ _
end Mine
end
section
namespace Mine
variable {r:Rec} {q:RecK} {ae:AE} {σ:Sto}
def zLt (q:RecK)(t:Expr)(body:List Stmt)(ae:AE)(m:Nat)(nx:Sto->Nat->Option (Option V))(k:Fl->Sto->Sy):Nat->Nat->Sto->Sy
 | 0,_,_=> .fail
 | f + 1,i,σ=>match nx σ i with
  | some none=>k .next σ
  | some (some v)=>liO (qD t v ae σ) fun σ₁=>kS q body ae σ₁ fun fl σ₂=>match fl with
   | .next=>zLt q t body ae m nx k f (i + 1) (gc m σ₂)
   | .cont=>zLt q t body ae m nx k f (i + 1) (gc m σ₂)
   | .brk=>k .next σ₂
   | .ret v=>k (.ret v) σ₂
  | none=> .fail
theorem zGi (R:Runs r q)(t:Expr)(body:List Stmt)(m:Nat)(nx:Sto->Nat->Option (Option V))(k:Fl->Sto->Sy):∀(f i:Nat) (σ:Sto),run (zLt q t body ae m nx k f i σ)=(yD r t body ae m nx f i σ).bind fun p=>run (k p.1 p.2)
 | 0,_,_=>rfl
 | f + 1,i,σ=>by
  have ih:=zGi R t body m nx k f;unfold zLt yD;rcases nx σ i with _ | _ | v
  ·rfl
  ·rfl
  ·dsimp only
   rw [zE];rcases qD t v ae σ with _ | σ₁
   ·rfl
   ·simp only [Option.bind_some]
    rw [xN R];rcases evs r body ae σ₁ with _ | ⟨fl,σ₂⟩
    ·rfl
    ·cases fl <;>first | rfl | exact ih _ _
def zGE (kf:Addr->Bool)(st:Expr->Nat->Sto->(Option V->Sto->Sy)->Sy)(q:RecK)(t:Expr)(body:List Stmt)(ae:AE)(i:Nat)(k:Fl->Sto->Sy):Nat->Sto->Sy
 | 0,_=> .fail
 | f + 1,σ=>st t i σ fun o σ₁=>match o with
  | none=>k .next σ₁
  | some v=>liO (qD t v ae σ₁) fun σ₂=>kS q body ae σ₂ fun fl σ₃=>match fl with
   | .next=>zGE kf st q t body ae i k f σ₃
   | .cont=>zGE kf st q t body ae i k f σ₃
   | .brk=>k .next σ₃
   | .ret v=>k (.ret v) σ₃
theorem zEW (R:Runs r q){kf:Addr->Bool}{st:Expr->Nat->Sto->(Option V->Sto->Sy)->Sy}(hst:∀t i σ k,run (st t i σ k)=(zZ kf r t i σ).bind fun p=>run (k p.1 p.2))(t:Expr)(body:List Stmt)(i:Nat)(k:Fl->Sto->Sy):
  ∀(f:Nat) (σ:Sto),run (zGE kf st q t body ae i k f σ)=(yL kf r t body ae i f σ).bind fun p=>run (k p.1 p.2)
 | 0,_=>rfl
 | f + 1,σ=>by
  have ih:=zEW R hst t body i k f;unfold zGE yL;rw [hst];rcases zZ kf r t i σ with _ | ⟨_ | v,σ₁⟩
  ·rfl
  ·rfl
  ·simp only [Option.bind_some]
   rw [zE];rcases qD t v ae σ₁ with _ | σ₂
   ·rfl
   ·simp only [Option.bind_some]
    rw [xN R];rcases evs r body ae σ₂ with _ | ⟨fl,σ₃⟩
    ·rfl
    ·cases fl <;>first | rfl | exact ih _
def zIS (kf:Addr->Bool)(q:RecK)(i:Nat)(σ:Sto)(k:Option V->Sto->Sy):Sy:=match (σ[i]? :Option Ob) with
 | some (.citer (.trk j) (.str qs) true)=>(match (σ[j]? :Option Ob) with
  | some (.meth g _)=>if !kf g then .fail else q.c (.trk j) [] [] σ fun v σ₁=>(match v with
   | .str x=>(match (σ₁[i]? :Option Ob),(σ₁[j]? :Option Ob) with
    | some (.citer (.trk j') (.str q') true),some (.meth g' _)=>
     if !(j'==j) || !kf g' then .fail
     else .ask (eqS q' x) fun d=>match d with
      | true=>k none (σ₁.set i (.citer .none .none false))
      | false=>k (some (.str x)) σ₁
    | _,_=> .fail)
   | _=> .fail)
  | _=> .fail)
 | some (.citer _ _ false)=>k none σ
 | _=> .fail
theorem zHA (R:Runs r q)(kf:Addr->Bool)(i:Nat)(σ:Sto)(k:Option V->Sto->Sy):run (zIS kf q i σ k)=(zEX kf r i σ).bind fun p=>run (k p.1 p.2):=by
 unfold zIS zEX;rcases (σ[i]? :Option Ob) with _ | ob
 ·rfl
 cases ob <;>try rfl
 rename_i f s l;cases f <;>try (cases l <;>rfl)
 rename_i j;cases s <;>try (cases l <;>rfl)
 cases l <;>try rfl
 dsimp only;rcases (σ[j]? :Option Ob) with _ | ob
 ·rfl
 cases ob <;>try rfl
 rename_i g u;dsimp only
 by_cases hg:(!kf g)=true
 ·rw [if_pos hg,if_pos hg]; rfl
 rw [if_neg hg,if_neg hg,R.c];rcases r.c (.trk j) [] [] σ with _ | ⟨v,σ₁⟩
 ·rfl
 simp only [Option.bind_some];cases v <;>try rfl
 dsimp only;rcases (σ₁[i]? :Option Ob) with _ | ob
 ·rfl
 cases ob <;>try rfl
 rename_i f s l;cases f <;>try rfl
 cases s <;>try rfl
 cases l <;>try rfl
 try dsimp only
 rcases (σ₁[j]? :Option Ob) with _ | ob
 ·rfl
 cases ob <;>try rfl
 try dsimp only
 split
 ·rfl
 ·rw [yZ]
  generalize eqS _ _=e;cases e <;>rfl
def zBG (kf:Addr->Bool)(q:RecK)(t:Expr)(i:Nat)(σ:Sto)(k:Option V->Sto->Sy):Sy:=match (σ[i]? :Option Ob) with
 | some (.citer _ _ _)=>zIS kf q i σ fun o σ₁=>match o with
  | none=>k none σ₁
  | some v=>(match (σ₁[i]? :Option Ob) with | some (.citer _ _ _)=>k (some v) σ₁ | _=> .fail)
 | some (.enum _ _)=>liO (zZ kf ⟨fun _ _ _=>none,fun _ _ _=>none,fun _ _ _=>none,fun _ _ _ _=>none⟩ t i σ) fun p=>k p.1 p.2
 | _=> .fail
theorem wX (R:Runs r q)(kf:Addr->Bool)(t:Expr)(i:Nat)(σ:Sto)(k:Option V->Sto->Sy):run (zBG kf q t i σ k)=(zZ kf r t i σ).bind fun p=>run (k p.1 p.2):=by
 unfold zBG;cases hi:(σ[i]? :Option Ob) with
 | none=>
  unfold zZ zCK;rw [hi]; rfl
 | some ob=>
  cases ob with
  | citer f s l=>
   dsimp only;rw [zHA R];unfold zZ zCK;rw [hi];dsimp only;rcases zEX kf r i σ with _ | ⟨_ | v,σ₁⟩
   ·rfl
   ·rfl
   ·simp only [Option.bind_some]
    rcases (σ₁[i]? :Option Ob) with _ | ob
    ·rfl
    ·cases ob <;>rfl
  | enum j n=>
   dsimp only;rw [zE];have e:zZ kf ⟨fun _ _ _=>none,fun _ _ _=>none,fun _ _ _=>none,fun _ _ _ _=>none⟩ t i σ=zZ kf r t i σ:=by
    unfold zZ zCK;rw [hi]
   rw [e]
  | _=>
   unfold zZ zCK;rw [hi]; rfl
def zLa (kf:Addr->Bool)(q:RecK)(t it:Expr)(body orelse:List Stmt)(ae:AE)(σ:Sto)(k:Fl->Sto->Sy):Sy:=
 if yB it || !orelse.isEmpty then .fail else
 q.e it ae σ fun v σ₁=>match zEU v σ₁ with
  | .ito=>zGE kf (zBG kf q) q t body ae (zNR v) k 1000 σ₁
  | .items=>k .next σ₁
  | .other=>liO (xF v σ₁) fun nx=>zLt q t body ae σ₁.length nx k 1000 0 σ₁
theorem zJZ (R:Runs r q)(kf:Addr->Bool)(t it:Expr)(body orelse:List Stmt)(σ:Sto)(k:Fl->Sto->Sy):run (zLa kf q t it body orelse ae σ k)=(zAI kf r t it body orelse ae σ).bind fun p=>run (k p.1 p.2):=by
 unfold zLa zAI;split
 ·rfl
 ·rw [R.e]
  rcases r.e it ae σ with _ | ⟨v,σ₁⟩
  ·rfl
  ·simp only [Option.bind_some]
   cases zEU v σ₁ with
   | ito=>exact zEW R (fun t i σ k=>wX R kf t i σ k) _ _ _ _ _ _
   | items=>rfl
   | other=>
    dsimp only;rw [zE];rcases xF v σ₁ with _ | nx
    ·rfl
    ·exact zGi R _ _ _ _ _ _ _ _
def zDs (q:RecK)(t:Expr)(body:List Stmt)(ae:AE)(m:Nat)(k:Fl->Sto->Sy):Nat->Sto->Sy
 | 0,_=> .fail
 | f + 1,σ=>q.t t ae σ fun b σ₁=> .ask b fun d=>match d with
  | false=>k .next σ₁
  | true=>kS q body ae σ₁ fun fl σ₂=>match fl with
   | .next=>zDs q t body ae m k f (gc m σ₂)
   | .cont=>zDs q t body ae m k f (gc m σ₂)
   | .brk=>k .next σ₂
   | .ret v=>k (.ret v) σ₂
theorem zCR (R:Runs r q)(t:Expr)(body:List Stmt)(m:Nat)(k:Fl->Sto->Sy):∀(f:Nat) (σ:Sto),run (zDs q t body ae m k f σ)=(yF r t body ae m f σ).bind fun p=>run (k p.1 p.2)
 | 0,_=>rfl
 | f + 1,σ=>by
  have ih:=zCR R t body m k f;unfold zDs yF;rw [R.t];rcases r.t t ae σ with _ | ⟨_ | _,σ₁⟩
  ·rfl
  ·rfl
  ·simp only [Option.bind_some]
   rw [yZ];dsimp only;rw [xN R];rcases evs r body ae σ₁ with _ | ⟨fl,σ₂⟩
   ·rfl
   ·cases fl <;>first | rfl | exact ih _
def zIO (q:RecK)(e:Expr)(ae:AE)(σ:Sto)(k:Fl->Sto->Sy):Sy:=if xL e then .fail else q.e e ae σ fun _ σ₁=>k .next σ₁
theorem zHv (R:Runs r q)(e:Expr)(σ:Sto)(k:Fl->Sto->Sy):run (zIO q e ae σ k)=(zBu r e ae σ).bind fun p=>run (k p.1 p.2):=by
 unfold zIO zBu;split
 ·rfl
 ·rw [R.e]
  rcases r.e e ae σ with _ | ⟨v,σ₁⟩ <;>rfl
def zEf (G:Gl)(q:RecK)(x:Str)(op:Operator)(e:Expr)(ae:AE)(σ:Sto)(k:Fl->Sto->Sy):Sy:=liO (kP G x ae σ) fun a=>q.e e ae σ fun b σ₁=>zMC op a b σ₁ fun v σ₂=>liO (qA x v ae σ₂) fun σ₃=>k .next σ₃
theorem zFX (R:Runs r q)(G:Gl)(x:Str)(op:Operator)(e:Expr)(σ:Sto)(k:Fl->Sto->Sy):run (zEf G q x op e ae σ k)=(xT G r x op e ae σ).bind fun p=>run (k p.1 p.2):=by
 unfold zEf xT;rw [zE];rcases kP G x ae σ with _ | a
 ·rfl
 ·simp only [Option.bind_some,R.e]
  rcases r.e e ae σ with _ | ⟨b,σ₁⟩
  ·rfl
  ·simp only [Option.bind_some,zC5]
   rcases zEA op a b σ₁ with _ | ⟨v,σ₂⟩
   ·rfl
   ·simp only [Option.bind_some,zE]
    rcases qA x v ae σ₂ with _ | σ₃ <;>rfl
def zI0 (q:RecK)(op:BoolOp):List Expr->AE->Sto->(V->Sto->Sy)->Sy
 | [],_,_,_=> .fail
 | [x],ae,σ,k=>q.e x ae σ k
 | x::y::rest,ae,σ,k=>q.e x ae σ fun v σ₁=>zBF v σ₁ fun b=> .ask b fun d=>match op,d with
  | .And,false=>k v σ₁
  | .Or,true=>k v σ₁
  | _,_=>zI0 q op (y::rest) ae σ₁ k
theorem zER (R:Runs r q)(op:BoolOp)(k:V->Sto->Sy):∀(xs:List Expr) (σ:Sto),run (zI0 q op xs ae σ k)=(zBH r op xs ae σ).bind fun p=>run (k p.1 p.2)
 | [],_=>rfl
 | [x],σ=>R.e _ _ _ _
 | x::y::rest,σ=>by
  have ih:=zER R op k (y::rest);unfold zI0 zBH;rw [R.e];rcases r.e x ae σ with _ | ⟨v,σ₁⟩
  ·rfl
  ·simp only [Option.bind_some]
   rw [zAK];rcases kU v σ₁ with _ | b
   ·cases op <;>rfl
   ·simp only [Option.bind_some]
    rw [yZ];cases op <;>cases b <;>first | rfl | exact ih _
def zNt (q:RecK)(op:BoolOp):List Expr->AE->Sto->(Bool->Sto->Sy)->Sy
 | [],_,σ,k=>k (op== .And) σ
 | x::rest,ae,σ,k=>q.t x ae σ fun b σ₁=> .ask b fun d=>match op,d with
  | .And,false=>k false σ₁
  | .Or,true=>k true σ₁
  | _,_=>zNt q op rest ae σ₁ k
theorem zGn (R:Runs r q)(op:BoolOp)(k:Bool->Sto->Sy):∀(xs:List Expr) (σ:Sto),run (zNt q op xs ae σ k)=(zEd r op xs ae σ).bind fun p=>run (k p.1 p.2)
 | [],_=>rfl
 | x::rest,σ=>by
  have ih:=zGn R op k rest;unfold zNt zEd;rw [R.t];rcases r.t x ae σ with _ | ⟨b,σ₁⟩
  ·rfl
  ·simp only [Option.bind_some]
   rw [yZ];cases op <;>cases b <;>first | rfl | exact ih _
end Mine
end
section
namespace Mine
variable {r:Rec} {q:RecK} {ae:AE} {σ:Sto}
def zLZ (q:RecK)(m:Nat)(body:List Stmt)(ae:AE)(σ:Sto)(k:V->Sto->Sy):Sy:=kS q body ae σ fun f σ₂=>match f with
 | .ret v=>(match gcv m v σ₂ with | (u,σ₃)=>k u σ₃)
 | .next=>(match gcv m .none σ₂ with | (u,σ₃)=>k u σ₃)
 | _=> .fail
theorem zKO (R:Runs r q)(m:Nat)(body:List Stmt)(σ:Sto)(k:V->Sto->Sy):run (zLZ q m body ae σ k)=(yR r m body ae σ).bind fun p=>run (k p.1 p.2):=by
 unfold zLZ yR;rw [xN R];rcases evs r body ae σ with _ | ⟨f,σ₂⟩
 ·rfl
 ·cases f <;>rfl
def zBf (G:Gl)(B:Bnd)(q:RecK)(a:Addr)(args:List V)(kw:List (Str×V))(σ:Sto)(k:V->Sto->Sy):Sy:=match G.fn a with
 | some fd=>(match wU fd.body,B a args kw σ with
  | some body,some (b,σ₀)=>(match xG fd.scope [] b (fd.qualname ++ ".<locals>.") fd.code σ₀ with
   | some (ae,σ₁)=>zLZ q σ.length body ae σ₁ k
   | none=> .fail)
  | _,_=> .fail)
 | none=> .fail
theorem vL (R:Runs r q)(G:Gl)(B:Bnd)(a:Addr)(args:List V)(kw:List (Str×V))(σ:Sto)(k:V->Sto->Sy):run (zBf G B q a args kw σ k)=(yW G B r a args kw σ).bind fun p=>run (k p.1 p.2):=by
 unfold zBf yW;rcases G.fn a with _ | fd
 ·rfl
 dsimp only;rcases wU fd.body with _ | body
 ·rfl
 rcases B a args kw σ with _ | ⟨b,σ₀⟩
 ·rfl
 dsimp only;rcases xG fd.scope [] b (fd.qualname ++ ".<locals>.") fd.code σ₀ with _ | ⟨ae,σ₁⟩
 ·rfl
 exact zKO R _ _ _ _
def kKw (q:RecK):List Keyword->AE->Sto->(List (Str×V)->Sto->Sy)->Sy
 | [],_,σ,k=>k [] σ
 | ⟨some x,e,_⟩::rest,ae,σ,k=>q.e e ae σ fun v σ₁=>kKw q rest ae σ₁ fun l σ₂=>k ((x,v)::l) σ₂
 | ⟨none,_,_⟩::_,_,_,_=> .fail
theorem zIY (R:Runs r q):∀(l:List Keyword) (σ:Sto) (k:List (Str×V)->Sto->Sy),run (kKw q l ae σ k)=(zEv r l ae σ).bind fun p=>run (k p.1 p.2)
 | [],σ,k=>rfl
 | ⟨some x,e,p⟩::rest,σ,k=>by
  have ih:=zIY R rest;unfold kKw zEv;rw [R.e];rcases r.e e ae σ with _ | ⟨v,σ₁⟩
  ·rfl
  ·simp only [Option.bind_some,ih]
   rcases zEv r rest ae σ₁ with _ | ⟨l,σ₂⟩ <;>rfl
 | ⟨none,_,_⟩::_,_,_=>rfl
def zJx (q:RecK)(args:List Expr)(kws:List Keyword)(ae:AE)(σ:Sto)(k:List V->List (Str×V)->Sto->Sy):Sy:=kL q args ae σ fun vs σ₁=>kKw q kws ae σ₁ fun l σ₂=>k vs l σ₂
theorem zEY (R:Runs r q)(args:List Expr)(kws:List Keyword)(σ:Sto)(k:List V->List (Str×V)->Sto->Sy):run (zJx q args kws ae σ k)=(wI r args kws ae σ).bind fun p=>run (k p.1 p.2.1 p.2.2):=by
 unfold zJx wI;rw [zGh R];rcases evL r args ae σ with _ | ⟨vs,σ₁⟩
 ·rfl
 ·simp only [Option.bind_some,zIY R]
  rcases zEv r kws ae σ₁ with _ | ⟨l,σ₂⟩ <;>rfl
def zHR (kp kf:Addr->Bool)(q:RecK)(f:Expr)(args:List Expr)(kws:List Keyword)(ae:AE)(σ:Sto)(k:V->Sto->Sy):Sy:=q.e f ae σ fun fv σ₁=>zJx q args kws ae σ₁ fun vs l σ₂=>if zIN kp kf fv σ₂ then q.c fv vs l σ₂ k else .fail
theorem zH7 (R:Runs r q)(kp kf:Addr->Bool)(f:Expr)(args:List Expr)(kws:List Keyword)(σ:Sto)(k:V->Sto->Sy):run (zHR kp kf q f args kws ae σ k)=(zA3 kp kf r f args kws ae σ).bind fun p=>run (k p.1 p.2):=by
 unfold zHR zA3;rw [R.e];rcases r.e f ae σ with _ | ⟨fv,σ₁⟩
 ·rfl
 ·simp only [Option.bind_some,zEY R]
  rcases wI r args kws ae σ₁ with _ | ⟨vs,l,σ₂⟩
  ·rfl
  ·simp only [Option.bind_some]
   split
   ·exact R.c _ _ _ _ _
   ·rfl
def zFy (q:RecK):List Expr->AE->Sto->(Bool->Sto->Sy)->Sy
 | [],_,σ,k=>k true σ
 | c::cs,ae,σ,k=>q.t c ae σ fun b σ₁=> .ask b fun d=>match d with
  | true=>zFy q cs ae σ₁ k
  | false=>k false σ₁
theorem zCE (R:Runs r q):∀(l:List Expr) (σ:Sto) (k:Bool->Sto->Sy),run (zFy q l ae σ k)=(wP r l ae σ).bind fun p=>run (k p.1 p.2)
 | [],σ,k=>rfl
 | c::cs,σ,k=>by
  have ih:=zCE R cs;unfold zFy wP;rw [R.t];rcases r.t c ae σ with _ | ⟨_ | _,σ₁⟩
  ·rfl
  ·rfl
  ·exact ih _ _
def zBE (q:RecK)(t:Expr)(ifs:List Expr)(emit:Sto->(Sto->Sy)->Sy)(ae:AE)(nx:Sto->Nat->Option (Option V))(k:Sto->Sy):Nat->Nat->Sto->Sy
 | 0,_,_=> .fail
 | f + 1,i,σ=>match nx σ i with
  | some none=>k σ
  | some (some v)=>liO (qD t v ae σ) fun σ₁=>zFy q ifs ae σ₁ fun b σ₂=> .ask b fun d=>match d with
   | true=>emit σ₂ fun σ₃=>zBE q t ifs emit ae nx k f (i + 1) σ₃
   | false=>zBE q t ifs emit ae nx k f (i + 1) σ₂
  | none=> .fail
theorem zAp (R:Runs r q)(t:Expr)(ifs:List Expr){emit:Sto->Option Sto}{emitK:Sto->(Sto->Sy)->Sy}(he:∀σ k,run (emitK σ k)=(emit σ).bind fun p=>run (k p))(nx:Sto->Nat->Option (Option V))(k:Sto->Sy):
  ∀(f i:Nat) (σ:Sto),run (zBE q t ifs emitK ae nx k f i σ)=(qF r t ifs emit ae nx f i σ).bind fun p=>run (k p)
 | 0,_,_=>rfl
 | f + 1,i,σ=>by
  have ih:=zAp R t ifs he nx k f;unfold zBE qF;rcases nx σ i with _ | _ | v
  ·rfl
  ·rfl
  ·dsimp only
   rw [zE];rcases qD t v ae σ with _ | σ₁
   ·rfl
   ·simp only [Option.bind_some]
    rw [zCE R];rcases wP r ifs ae σ₁ with _ | ⟨_ | _,σ₂⟩
    ·rfl
    ·exact ih _ _
    ·simp only [Option.bind_some]
     rw [yZ];dsimp only;rw [he];rcases emit σ₂ with _ | σ₃
     ·rfl
     ·exact ih _ _
def zJU (i:Nat)(v:V)(σ:Sto)(k:Sto->Sy):Sy:=match σ[i]? with
 | some (.list l)=>xC (decide (l.length < 1000)) (k (σ.set i (.list (l ++ [v]))))
 | _=> .fail
theorem zEC (i:Nat)(v:V)(σ:Sto)(k:Sto->Sy):run (zJU i v σ k)=(zCd i v σ).bind fun p=>run (k p):=by
 unfold zJU zCd;rcases (σ[i]? :Option Ob) with _ | ob
 ·rfl
 ·cases ob <;>try rfl
  simp only [zI,decide_eq_true_eq];split <;>rfl
def zHh (q:RecK)(elt:Expr)(acc:Nat)(ae:AE):List Comprehension->Sto->(Sto->Sy)->Sy
 | [],σ,k=>q.e elt ae σ fun v σ₁=>zJU acc v σ₁ k
 | ⟨t,it,ifs,_⟩::rest,σ,k=>if yB it then .fail else q.e it ae σ fun v σ₁=>liO (xF v σ₁) fun nx=>zBE q t ifs (zHh q elt acc ae rest) ae nx k 1000 0 σ₁
theorem zFe (R:Runs r q)(elt:Expr)(acc:Nat):∀(l:List Comprehension) (σ:Sto) (k:Sto->Sy),run (zHh q elt acc ae l σ k)=(uX r elt acc ae l σ).bind fun p=>run (k p)
 | [],σ,k=>by
  unfold zHh uX;rw [R.e];rcases r.e elt ae σ with _ | ⟨v,σ₁⟩
  ·rfl
  ·exact zEC _ _ _ _
 | ⟨t,it,ifs,as⟩::rest,σ,k=>by
  have ih:=zFe R elt acc rest;unfold zHh uX;split
  ·rfl
  ·rw [R.e]
   rcases r.e it ae σ with _ | ⟨v,σ₁⟩
   ·rfl
   ·simp only [Option.bind_some,zE]
    rcases xF v σ₁ with _ | nx
    ·rfl
    ·exact zAp R t ifs ih nx k _ _ _
def zIv (q:RecK)(elt t:Expr)(ifs:List Expr)(rest:List Comprehension)(scope:Scope)(ae:AE)(nx:Sto->Nat->Option (Option V))(σ₁:Sto)(k:Sto->Sy):Sy:=
 match zA7 ae.cells scope.names [] with
 | some cl=>
  zBE q t ifs (zHh q elt σ₁.length {scope:=xD scope ae,loc:=σ₁.length + 1,cells:=(zAm scope.names cl (σ₁ ++ [.list []] ++ [.ns []])).1,qual:=ae.qual,code:=ae.code} rest)
   {scope:=xD scope ae,loc:=σ₁.length + 1,cells:=(zAm scope.names cl (σ₁ ++ [.list []] ++ [.ns []])).1,qual:=ae.qual,code:=ae.code} nx
   (fun σ₃=>if zIz (σ₁.length + 1) σ₃ && zFU (σ₁.length + 1) (σ₃.take (σ₁.length + 1)) then k (σ₃.take (σ₁.length + 1)) else .fail) 1000 0 (zAm scope.names cl (σ₁ ++ [.list []] ++ [.ns []])).2
 | none=> .fail
theorem zHI (R:Runs r q)(elt t:Expr)(ifs:List Expr)(rest:List Comprehension)(scope:Scope)(ae:AE)(nx:Sto->Nat->Option (Option V))(σ₁:Sto)(k:Sto->Sy):
  run (zIv q elt t ifs rest scope ae nx σ₁ k)=(zA4 r elt t ifs rest scope ae nx σ₁).bind fun p=>run (k p):=by
 unfold zIv zA4;rcases zA7 ae.cells scope.names [] with _ | cl
 ·rfl
 ·dsimp only
  rw [zAp R t ifs (fun σ k=>zFe R elt _ rest σ k)];generalize qF r t ifs _ _ nx 1000 0 _=o;cases o with
  | none=>rfl
  | some σ₃=>
   simp only [Option.bind_some];split <;>rfl
def zI8 (q:RecK)(elt:Expr)(gens:List Comprehension)(scope:Scope)(ae:AE)(σ:Sto)(k:V->Sto->Sy):Sy:=match gens with
 | ⟨t,it,ifs,as⟩::rest=>if yB it || as !=0 || rest.any (·.is_async !=0) || !zFZ scope then .fail else
  q.e it ae σ fun v σ₁=>liO (xF v σ₁) fun nx=>zIv q elt t ifs rest scope ae nx σ₁ fun σ₂=>k (.trk σ₁.length) σ₂
 | []=> .fail
theorem zFj (R:Runs r q)(elt:Expr)(gens:List Comprehension)(scope:Scope)(ae:AE)(σ:Sto)(k:V->Sto->Sy):run (zI8 q elt gens scope ae σ k)=(xP r elt gens scope ae σ).bind fun p=>run (k p.1 p.2):=by
 unfold zI8 xP;rcases gens with _ | ⟨⟨t,it,ifs,as⟩,rest⟩
 ·rfl
 ·dsimp only
  split
  ·rfl
  ·rw [R.e]
   rcases r.e it ae σ with _ | ⟨v,σ₁⟩
   ·rfl
   ·simp only [Option.bind_some,zE]
    rcases xF v σ₁ with _ | nx
    ·rfl
    ·simp only [Option.bind_some,zHI R]
     rcases zA4 r elt t ifs rest scope ae nx σ₁ with _ | σ₂ <;>rfl
def zCv (x:Str)(ae:AE)(v:V)(σ₁:Sto)(k:Fl->Sto->Sy):Sy:=liO (qA x v ae σ₁) fun σ₂=>k .next σ₂
def zBl (q:RecK)(x:Str)(e:Expr)(ae:AE)(σ:Sto)(k:Fl->Sto->Sy):Sy:=match e with
 | .ListComp elt gens scope _=>zI8 q elt gens scope ae σ fun v σ₁=>zCv x ae v σ₁ k
 | .SetComp .. => .fail
 | .DictComp .. => .fail
 | e=>q.e e ae σ fun v σ₁=>zCv x ae v σ₁ k
theorem zF6 (R:Runs r q)(x:Str)(e:Expr)(σ:Sto)(k:Fl->Sto->Sy):run (zBl q x e ae σ k)=(qS r x e ae σ).bind fun p=>run (k p.1 p.2):=by
 have gen:∀o:Option (V×Sto),(o.bind fun p=>run (zCv x ae p.1 p.2 k))=(yM x ae o).bind fun p=>run (k p.1 p.2):=by
  intro o;rcases o with _ | ⟨v,σ₁⟩
  ·rfl
  ·unfold zCv yM
   simp only [Option.bind_some,zE];rcases qA x v ae σ₁ with _ | σ₂ <;>rfl
 have comp:∀elt gens scope p,run (zBl q x (.ListComp elt gens scope p) ae σ k)=(qS r x (.ListComp elt gens scope p) ae σ).bind fun p=>run (k p.1 p.2):=by
  intro elt gens scope p;unfold zBl qS;dsimp only;rw [zFj R];exact gen _
 cases e <;>first | rfl | exact comp _ _ _ _ | exact (R.e _ _ _ _).trans (gen _)
end Mine
end
section
open Builtin Builtin.Str Builtin.Re
namespace Mine
variable {r:Rec} {q:RecK} {ae:AE} {σ:Sto}
abbrev zY {α:Type}(o:Option (α×Sto))(f:(α->Sto->Sy)->Sy):Prop:=∀k,run (f k)=o.bind fun p=>run (k p.1 p.2)
def zJs (O:Ops)(op:CmpOp)(a b:V)(σ:Sto)(k:V->Sto->Sy):Sy:=zKz O op a b σ fun c=>k (.bool c) σ
theorem zE3 (O:Ops)(op:CmpOp)(a b:V)(σ:Sto)(k:V->Sto->Sy):run (zJs O op a b σ k)=(zHg O op a b σ).bind fun p=>run (k p.1 p.2):=by
 unfold zJs zHg;rw [zD5];cases zCS O op a b σ <;>rfl
def zEa (O:Ops)(q:RecK):V->List CmpOp->List Expr->AE->Sto->(V->Sto->Sy)->Sy
 | qC,[op],[e],ae,σ,k=>q.e e ae σ fun y σ₁=>zJs O op qC y σ₁ k
 | qC,op::op'::ops,e::e'::es,ae,σ,k=>q.e e ae σ fun y σ₁=>zKz O op qC y σ₁ fun c=> .ask c fun d=>match d with
  | true=>zEa O q y (op'::ops) (e'::es) ae σ₁ k
  | false=>k (.bool false) σ₁
 | _,_,_,_,_,_=> .fail
theorem zD0 (R:Runs r q)(O:Ops)(k:V->Sto->Sy):∀(qC:V) (ops:List CmpOp) (es:List Expr) (σ:Sto),run (zEa O q qC ops es ae σ k)=(yP O r qC ops es ae σ).bind fun p=>run (k p.1 p.2)
 | qC,[op],[e],σ=>by
  unfold zEa yP;rw [R.e];rcases r.e e ae σ with _ | ⟨y,σ₁⟩
  ·rfl
  ·exact zE3 O op qC y σ₁ k
 | qC,op::op'::ops,e::e'::es,σ=>by
  unfold zEa yP;rw [R.e];rcases r.e e ae σ with _ | ⟨y,σ₁⟩
  ·rfl
  ·simp only [Option.bind_some]
   rw [zD5];rcases zCS O op qC y σ₁ with _ | _ | _
   ·rfl
   ·rfl
   ·exact zD0 R O k y (op'::ops) (e'::es) σ₁
 | _,[],es,σ=>by cases es <;>rfl
 | _,[_],[],_=>rfl
 | _,[_],_::_::_,_=>rfl
 | _,_::_::_,[],_=>rfl
 | _,_::_::_,[_],_=>rfl
def zCT (O:Ops)(q:RecK)(l:Expr)(ops:List CmpOp)(rs:List Expr)(ae:AE)(σ:Sto)(k:V->Sto->Sy):Sy:=match ops,rs with
 | [op],[x]=>if yB x then .fail else zJh q (zJs O op) l x ae σ k
 | op₁::op₂::ops,x::y::rs=>if (x::y::rs).any yB then .fail else q.e l ae σ fun v σ₁=>zEa O q v (op₁::op₂::ops) (x::y::rs) ae σ₁ k
 | _,_=> .fail
theorem zF2 (R:Runs r q)(O:Ops)(l:Expr)(ops:List CmpOp)(rs:List Expr)(σ:Sto):zY (wG O r l ops rs ae σ) (zCT O q l ops rs ae σ):=fun k=>by
 unfold zCT wG;rcases ops with _ | ⟨o1,_ | ⟨o2,os⟩⟩ <;>rcases rs with _ | ⟨x,_ | ⟨y,ys⟩⟩ <;>try rfl
 ·dsimp only
  split
  ·rfl
  ·exact zE1 R (fun x y σ k=>zE3 O o1 x y σ k) l x σ k
 ·dsimp only
  split
  ·rfl
  ·rw [R.e]
   rcases r.e l ae σ with _ | ⟨v,σ₁⟩
   ·rfl
   ·exact zD0 R O k v _ _ σ₁
def zIe (O:Ops)(q:RecK)(l:Expr)(op:CmpOp)(x:Expr)(ae:AE)(σ:Sto)(k:Bool->Sto->Sy):Sy:=if yB x then .fail else q.e l ae σ fun u σ₁=>q.e x ae σ₁ fun v σ₂=>zKz O op u v σ₂ fun c=>k c σ₂
theorem zII (R:Runs r q)(O:Ops)(l:Expr)(op:CmpOp)(x:Expr)(σ:Sto):zY (zBa O r l op x ae σ) (zIe O q l op x ae σ):=fun k=>by
 unfold zIe zBa uE;split
 ·rfl
 ·rw [R.e]
  rcases r.e l ae σ with _ | ⟨u,σ₁⟩
  ·rfl
  ·simp only [Option.bind_some,R.e]
   rcases r.e x ae σ₁ with _ | ⟨v,σ₂⟩
   ·rfl
   ·simp only [Option.bind_some,zD5]
    unfold zHg;rcases zCS O op u v σ₂ with _ | c <;>rfl
def zK4 (q:RecK):Option Expr->AE->Sto->(V->Sto->Sy)->Sy
 | none,_,σ,k=>k .none σ
 | some e,ae,σ,k=>q.e e ae σ k
theorem zEZ (R:Runs r q)(e:Option Expr)(σ:Sto):zY (zBN r e ae σ) (zK4 q e ae σ):=fun k=>by
 cases e with
 | none=>rfl
 | some e=>exact R.e _ _ _ _
def zNF (o x:V)(σ:Sto)(k:V->Sy):Sy:=match o with
 | .trk i=>(match zS (.trk i) σ with
  | some l=> .pick ((wH (.tup l) x []).map (·,[])) fun v _=>k v
  | none=> .fail)
 | o=> .pick ((wH o x σ).map (·,[])) fun v _=>k v
theorem zLX (o x:V)(σ:Sto)(k:V->Sy):run (zNF o x σ k)=(wH o x σ).bind fun v=>run (k v):=by
 have gen:∀q:Option V,run (.pick (q.map (·,([]:Sto))) fun v _=>k v)=q.bind fun v=>run (k v):=fun q=>by
  rw [kA]; cases q <;>rfl
 unfold zNF;split
 ·rename_i i
  rcases hl:zS (.trk i) σ with _ | l
  ·unfold wH
   cases x <;>simp [hl] <;>rfl
  ·rw [gen]
   unfold wH;cases x <;>simp [hl]
 ·exact gen _
def zQg (q:RecK)(value slice:Expr)(ae:AE)(σ:Sto)(k:V->Sto->Sy):Sy:=match slice with
 | .Slice lo up none _=>q.e value ae σ fun o σ₁=>zK4 q lo ae σ₁ fun a σ₂=>zK4 q up ae σ₂ fun b σ₃=>liO (zAf a) fun pl=>liO (zAf b) fun pu=> .pick (zGc o pl pu σ₃) k
 | .Slice _ _ (some _) _=> .fail
 | i=>q.e value ae σ fun o σ₁=>q.e i ae σ₁ fun x σ₂=>zNF o x σ₂ fun v=>k v σ₂
theorem zLN (R:Runs r q)(value slice:Expr)(σ:Sto):zY (zET r value slice ae σ) (zQg q value slice ae σ):=fun k=>by
 have gen:∀i,run (q.e value ae σ fun o σ₁=>q.e i ae σ₁ fun x σ₂=>zNF o x σ₂ fun v=>k v σ₂)=(match r.e value ae σ with
  | some (o,σ₁)=>(match r.e i ae σ₁ with
   | some (k,σ₂)=>(wH o k σ₂).map (·,σ₂)
   | none=>none)
  | none=>none:Option (V×Sto)).bind fun p=>run (k p.1 p.2):=by
  intro i;rw [R.e];rcases r.e value ae σ with _ | ⟨o,σ₁⟩
  ·rfl
  ·simp only [Option.bind_some,R.e]
   rcases r.e i ae σ₁ with _ | ⟨x,σ₂⟩
   ·rfl
   ·simp only [Option.bind_some,zLX]
    cases wH o x σ₂ <;>rfl
 cases slice <;>first | exact gen _ | skip
 rename_i lo up st p;cases st with
 | some _=>rfl
 | none=>
  unfold zQg zET;dsimp only;rw [R.e];rcases r.e value ae σ with _ | ⟨o,σ₁⟩
  ·rfl
  ·simp only [Option.bind_some]
   rw [zEZ R];rcases zBN r lo ae σ₁ with _ | ⟨a,σ₂⟩
   ·rfl
   ·simp only [Option.bind_some]
    rw [zEZ R];rcases zBN r up ae σ₂ with _ | ⟨b,σ₃⟩
    ·rfl
    ·simp only [Option.bind_some,zE]
     rcases zAf a with _ | pl
     ·rfl
     ·simp only [Option.bind_some,zE]
      rcases zAf b with _ | pu
      ·rfl
      ·simp only [Option.bind_some,kA]
def zLB (kp kf:Addr->Bool)(m:Mth)(q:RecK)(o:Expr)(name:Str)(apos pos:Pos)(args:List Expr)(kws:List Keyword)(ae:AE)(σ:Sto)(k:V->Sto->Sy):Sy:=
 if uC o || !(apos.endLine==pos.line) || !decide (args.length + kws.length < 29) then .fail else
 q.e o ae σ fun u σ₁=>liO (m u name σ₁) fun p=>zJx q args kws ae σ₁ fun vs l σ₂=>if zIN kp kf p.1 σ₂ then q.c p.1 (p.2 ++ vs) l σ₂ k else .fail
theorem zKo (R:Runs r q)(kp kf:Addr->Bool)(m:Mth)(o:Expr)(name:Str)(apos pos:Pos)(args:List Expr)(kws:List Keyword)(σ:Sto):zY (zCC kp kf m r o name apos pos args kws ae σ) (zLB kp kf m q o name apos pos args kws ae σ):=fun k=>by
 unfold zLB zCC;split
 ·rfl
 ·rw [R.e]
  rcases r.e o ae σ with _ | ⟨u,σ₁⟩
  ·rfl
  ·simp only [Option.bind_some,zE]
   rcases m u name σ₁ with _ | ⟨f,first⟩
   ·rfl
   ·simp only [Option.bind_some,zEY R]
    rcases wI r args kws ae σ₁ with _ | ⟨vs,l,σ₂⟩
    ·rfl
    ·simp only [Option.bind_some]
     split
     ·exact R.c _ _ _ _ _
     ·rfl
def zLU (T:ClsT)(q:RecK)(o:Expr)(name:Str)(ae:AE)(σ:Sto)(k:V->Sto->Sy):Sy:=if uC o then .fail else q.e o ae σ fun u σ₁=>liO (zDb T u name σ₁) fun p=>k p.1 p.2
theorem zKZ (R:Runs r q)(T:ClsT)(o:Expr)(name:Str)(σ:Sto):zY (zCW T r o name ae σ) (zLU T q o name ae σ):=fun k=>by
 unfold zLU zCW;split
 ·rfl
 ·rw [R.e]
  rcases r.e o ae σ with _ | ⟨u,σ₁⟩
  ·rfl
  ·exact zE _ _
def zCO (T:ClsT)(q:RecK)(o:Expr)(name:Str)(e:Expr)(ae:AE)(σ:Sto)(k:Fl->Sto->Sy):Sy:=if xL e then .fail else q.e e ae σ fun v σ₁=>q.e o ae σ₁ fun u σ₂=>liO (setA T u name v σ₂) fun σ₃=>k .next σ₃
theorem zFQ (R:Runs r q)(T:ClsT)(o:Expr)(name:Str)(e:Expr)(σ:Sto):zY (xY T r o name e ae σ) (zCO T q o name e ae σ):=fun k=>by
 unfold zCO xY;split
 ·rfl
 ·rw [R.e]
  rcases r.e e ae σ with _ | ⟨v,σ₁⟩
  ·rfl
  ·simp only [Option.bind_some,R.e]
   rcases r.e o ae σ₁ with _ | ⟨u,σ₂⟩
   ·rfl
   ·simp only [Option.bind_some,zE]
    rcases setA T u name v σ₂ with _ | σ₃ <;>rfl
def zCZ (T:ClsT)(q:RecK)(o:Expr)(name:Str)(op:Operator)(e:Expr)(ae:AE)(σ:Sto)(k:Fl->Sto->Sy):Sy:=q.e o ae σ fun u σ₁=>liO (zDb T u name σ₁) fun p=>q.e e ae p.2 fun b σ₃=>zMC op p.1 b σ₃ fun v σ₄=>liO (setA T u name v σ₄) fun σ₅=>k .next σ₅
theorem zF3 (R:Runs r q)(T:ClsT)(o:Expr)(name:Str)(op:Operator)(e:Expr)(σ:Sto):zY (xV T r o name op e ae σ) (zCZ T q o name op e ae σ):=fun k=>by
 unfold zCZ xV;rw [R.e];rcases r.e o ae σ with _ | ⟨u,σ₁⟩
 ·rfl
 ·simp only [Option.bind_some,zE]
  rcases zDb T u name σ₁ with _ | ⟨a,σ₂⟩
  ·rfl
  ·simp only [Option.bind_some,R.e]
   rcases r.e e ae σ₂ with _ | ⟨b,σ₃⟩
   ·rfl
   ·simp only [Option.bind_some,zC5]
    rcases zEA op a b σ₃ with _ | ⟨v,σ₄⟩
    ·rfl
    ·simp only [Option.bind_some,zE]
     rcases setA T u name v σ₄ with _ | σ₅ <;>rfl
def zF7 (q:RecK)(o i:Expr)(op:Operator)(e:Expr)(ae:AE)(σ:Sto)(k:Fl->Sto->Sy):Sy:=if zFO i then .fail else q.e o ae σ fun u σ₁=>q.e i ae σ₁ fun x σ₂=>liO (wH u x σ₂) fun a=>q.e e ae σ₂ fun b σ₃=>zMC op a b σ₃ fun v σ₄=>liO (vN u x v σ₄) fun σ₅=>k .next σ₅
theorem zGU (R:Runs r q)(o i:Expr)(op:Operator)(e:Expr)(σ:Sto):zY (uD r o i op e ae σ) (zF7 q o i op e ae σ):=fun k=>by
 unfold zF7 uD;split
 ·rfl
 ·rw [R.e]
  rcases r.e o ae σ with _ | ⟨u,σ₁⟩
  ·rfl
  ·simp only [Option.bind_some,R.e]
   rcases r.e i ae σ₁ with _ | ⟨x,σ₂⟩
   ·rfl
   ·simp only [Option.bind_some,zE]
    rcases wH u x σ₂ with _ | a
    ·rfl
    ·simp only [Option.bind_some,R.e]
     rcases r.e e ae σ₂ with _ | ⟨b,σ₃⟩
     ·rfl
     ·simp only [Option.bind_some,zC5]
      rcases zEA op a b σ₃ with _ | ⟨v,σ₄⟩
      ·rfl
      ·simp only [Option.bind_some,zE]
       rcases vN u x v σ₄ with _ | σ₅ <;>rfl
def zNZ (G:Gl)(B:Bnd)(ini:Addr->Option Addr)(q:RecK)(C:Addr)(args:List V)(kw:List (Str×V))(σ:Sto)(k:V->Sto->Sy):Sy:=match ini C with
 | some f=>zBf G B q f (.trk (σ.length + 1)::args) kw (σ ++ [.dict []] ++ [.inst C σ.length]) fun v σ'=>match v with
  | .none=>k (.trk (σ.length + 1)) σ'
  | _=> .fail
 | none=> .fail
theorem zMs (R:Runs r q)(G:Gl)(B:Bnd)(ini:Addr->Option Addr)(C:Addr)(args:List V)(kw:List (Str×V))(σ:Sto):zY (zE0 G B ini r C args kw σ) (zNZ G B ini q C args kw σ):=fun k=>by
 unfold zNZ zE0;rcases ini C with _ | f
 ·rfl
 ·dsimp only
  rw [vL R];rcases yW G B r f _ kw _ with _ | ⟨v,σ'⟩
  ·rfl
  ·cases v <;>rfl
def zC6 (q:RecK)(i:Nat)(args:List V)(kw:List (Str×V))(σ:Sto)(k:V->Sto->Sy):Sy:=match (σ[i]? :Option Ob),args,kw with
 | some (.lam fd cl j),[v],[]=>(match zIE fd.body,uF fd.params,(σ[j]? :Option Ob) with
  | some e,some x,some (.crec qn)=>if qn==fd.qualname && fd.scope.kind== .function && !fd.scope.isCoroutine && !fd.scope.isGenerator && fd.globals==mainGlobals && fd.builtins==builtinsNs && fd.defaults== .none && fd.kwdefaults== .none then
    (match xG fd.scope cl [(x,v)] (fd.qualname ++ ".<locals>.") .none σ with
    | some (ae,σ₁)=>q.e e ae σ₁ fun u σ₂=>k u (cut σ.length u σ₂)
    | none=> .fail) else .fail
  | _,_,_=> .fail)
 | _,_,_=> .fail
theorem zFs (R:Runs r q)(i:Nat)(args:List V)(kw:List (Str×V))(σ:Sto):zY (xW r i args kw σ) (zC6 q i args kw σ):=fun k=>by
 unfold zC6 xW;rcases (σ[i]? :Option Ob) with _ | ob
 ·rfl
 cases ob <;>try rfl
 rename_i fd cl j;rcases args with _ | ⟨v,_ | ⟨_,_⟩⟩ <;>try rfl
 cases kw <;>try rfl
 dsimp only;rcases zIE fd.body with _ | e <;>try rfl
 rcases uF fd.params with _ | x <;>try rfl
 rcases (σ[j]? :Option Ob) with _ | ob <;>try rfl
 cases ob <;>try rfl
 dsimp only;split
 ·rcases xG fd.scope cl [(x,v)] (fd.qualname ++ ".<locals>.") .none σ with _ | ⟨ae,σ₁⟩
  ·rfl
  ·dsimp only
   rw [R.e];rcases r.e e ae σ₁ with _ | ⟨u,σ₂⟩ <;>rfl
 ·rfl
def kUn (q:RecK)(op:UnaryOp)(x:Expr)(ae:AE)(σ:Sto)(k:V->Sto->Sy):Sy:=q.e x ae σ fun v σ₁=>match op,v with
 | .Not,v=>zBF v σ₁ fun b=>k (.bool (!b)) σ₁
 | .USub,.int i=>k (.int (-i)) σ₁
 | _,_=> .fail
theorem zNJ (R:Runs r q)(op:UnaryOp)(x:Expr)(σ:Sto):zY (zMc r op x ae σ) (kUn q op x ae σ):=fun k=>by
 unfold kUn zMc;rw [R.e];rcases r.e x ae σ with _ | ⟨v,σ₁⟩
 ·rfl
 ·simp only [Option.bind_some]
  cases op <;>try (cases v <;>rfl)
  dsimp only;rw [zAK];rcases kU v σ₁ with _ | b <;>rfl
end Mine
end
section
open Builtin Builtin.Str Builtin.Re
namespace Mine
variable {r:Rec} {q:RecK} {ae:AE} {σ:Sto} {C:Cf}
theorem zE4 {α:Type}(a:Option α):orE none a=a:=rfl
theorem zJQ {α:Type}(a:Option α):orE a none=a:=by cases a <;>rfl
theorem zJ2 (i:Nat)(v:V):zA C "list.append" [.trk i,v] σ=(zCd i v σ).map (.none,·):=by
 simp [zA,vM,zCb,zB2,zBe,zBZ,zE4,zJQ]
theorem zQ0 (i:Nat):zA C "list.pop" [.trk i] σ=zLw i σ:=by
 simp [zA,zNi]
theorem zNu (i:Nat):zA C "list.pop" [.trk i,.int 0] σ=zHc i σ:=by
 simp [zA,zNi]
theorem zMO (x:Str):zA C "len" [.str x] σ=if x.length < 2 ^ 63 then some (.int x.length,σ) else none:=by
 simp only [zA,vM,zLG,zS]
 by_cases h:x.length < 2 ^ 63
 ·simp [h,orE]
 ·simp [h,orE]
theorem zMR (i:Nat):zA C "len" [.trk i] σ=zLG [.trk i] σ:=by
 simp [zA,vM,zE4]
theorem zPz (i:Nat)(l:List V)(h:σ[i]? =some (.list l)):zA C "list.reverse" [.trk i] σ=if l.length<=1000 then some (.none,σ.set i (.list l.reverse)) else none:=by
 have hl:zS (.trk i) σ=some l:=by simp [zS,h]
 simp [zA,vM,zCb,zB2,zBe,zBZ,zE4,h,zS];split
 ·rfl
 ·cases l <;>simp [orE] <;>split <;>first | rfl | simp_all
theorem zNo (i:Nat)(l:List V)(h:σ[i]? =some (.list l)):zA C "list.sort" [.trk i] σ=if l.length<=1000 then (zA6 l).map fun l'=>(.none,σ.set i (.list l')) else none:=by
 simp [zA,zJb,h]
theorem zM6 (a:Addr)(x:Str):zA C "dict.get" [.val (.ref a),.str x] σ=(C.D.sget a x).map fun r=>(r.getD .none,σ):=by
 simp [zA,zJK]
theorem zMu (x:Str)(h:zAo x=true):zA C "str.lower" [.str x] σ=some (.str ⟨(x.cps.toList.map loF).toArray⟩,σ):=by
 simp [zA,vM,zCb,zB2,zBe,zBZ,zE4,zJQ,h,orE]
theorem zLu (x:Str)(h:zAo x=true):zA C "str.upper" [.str x] σ=some (.str ⟨(x.cps.toList.map upF).toArray⟩,σ):=by
 simp [zA,vM,zCb,zB2,zBe,zBZ,zE4,zJQ,h,orE]
theorem zND (sep:Str)(u:V):zA C "str.join" [.str sep,u] σ=zBe "str.join" [.str sep,u] σ:=by
 cases u <;>simp [zA,vM,zCb,zB2,zBZ,zE4,zJQ]
theorem zKb (a:Addr)(x:Str):zA C "re.Pattern.search" [.val (.ref a),.str x] σ=zGk C.D.pat [.val (.ref a),.str x] σ:=by
 simp [zA]
def zCl (C:Cf)(id:String)(args:List V)(σ:Sto)(k:V->Sto->Sy):Sy:= .pick (zA C id args σ) k
theorem yK (C:Cf)(id:String)(args:List V)(σ:Sto):zY (zA C id args σ) (zCl C id args σ):=fun k=>kA _ _
def zHM (C:Cf)(id:String)(i:Nat)(σ:Sto)(k:V->Sto->Sy):Sy:=match (σ[i]? :Option Ob) with
 | some (.list l)=>
  if id=="list.pop" then xC (decide (l.length<=1000)) (liO l.getLast? fun v=>k v (σ.set i (.list l.dropLast)))
  else if id=="list.reverse" then xC (decide (l.length<=1000)) (k .none (σ.set i (.list l.reverse)))
  else if id=="len" then xC (decide (l.length < 2 ^ 63)) (k (.int l.length) σ)
  else if id=="list.sort" then xC (decide (l.length<=1000)) (.pick ((zA6 l).map fun l'=>(.tup l',[])) fun v _=>match v with
   | .tup l'=>k .none (σ.set i (.list l'))
   | _=> .fail)
  else zCl C id [.trk i] σ k
 | _=>zCl C id [.trk i] σ k
theorem zIc (C:Cf)(id:String)(i:Nat)(σ:Sto):zY (zA C id [.trk i] σ) (zHM C id i σ):=fun k=>by
 unfold zHM;split
 ·rename_i l hl
  split
  ·rename_i hid
   rw [beq_iff_eq] at hid; subst hid;rw [zQ0,zI];unfold zLw;rw [hl];simp only [decide_eq_true_eq];split
   ·rw [zE]
    cases l.getLast? <;>rfl
   ·rfl
  ·split
   ·rename_i hid
    rw [beq_iff_eq] at hid; subst hid;rw [zPz i l hl,zI];simp only [decide_eq_true_eq];split <;>rfl
   ·split
    ·rename_i hid
     rw [beq_iff_eq] at hid; subst hid;rw [zMR,zI];simp only [zLG,zS,hl,decide_eq_true_eq];split <;>rfl
    ·split
     ·rename_i hid
      rw [beq_iff_eq] at hid; subst hid;rw [zNo i l hl,zI];simp only [decide_eq_true_eq];split
      ·rw [kA]
       cases zA6 l <;>rfl
      ·rfl
     ·exact yK _ _ _ _ _
 ·exact yK _ _ _ _ _
def zHD (C:Cf)(id:String)(i:Nat)(v:V)(σ:Sto)(k:V->Sto->Sy):Sy:=
 if id=="list.append" then zJU i v σ fun σ'=>k .none σ'
 else zCl C id [.trk i,v] σ k
theorem zID (C:Cf)(id:String)(i:Nat)(v:V)(σ:Sto):zY (zA C id [.trk i,v] σ) (zHD C id i v σ):=fun k=>by
 unfold zHD;split
 ·rename_i hid
  rw [beq_iff_eq] at hid; subst hid;rw [zJ2,zEC];cases zCd i v σ <;>rfl
 ·exact yK _ _ _ _ _
def zLb (C:Cf)(id:String)(i:Nat)(σ:Sto)(k:V->Sto->Sy):Sy:=match (σ[i]? :Option Ob) with
 | some (.list (v::l))=>if id=="list.pop" then xC (decide (l.length < 1000)) (k v (σ.set i (.list l))) else zCl C id [.trk i,.int 0] σ k
 | _=>zCl C id [.trk i,.int 0] σ k
theorem zKc (C:Cf)(id:String)(i:Nat)(σ:Sto):zY (zA C id [.trk i,.int 0] σ) (zLb C id i σ):=fun k=>by
 unfold zLb;split
 ·rename_i v l hl
  split
  ·rename_i hid
   rw [beq_iff_eq] at hid; subst hid;rw [zNu,zI];unfold zHc;rw [hl];simp only [decide_eq_true_eq];split <;>rfl
  ·exact yK _ _ _ _ _
 ·exact yK _ _ _ _ _
def zMJ (C:Cf)(id:String)(x:Str)(σ:Sto)(k:V->Sto->Sy):Sy:=
 if id=="len" then xC (decide (x.length < 2 ^ 63)) (k (.int x.length) σ)
 else if id=="str.lower" then .ask (zAo x) fun d=>match d with
  | true=>k (.str ⟨(x.cps.toList.map loF).toArray⟩) σ
  | false=>zCl C id [.str x] σ k
 else if id=="str.upper" then .ask (zAo x) fun d=>match d with
  | true=>k (.str ⟨(x.cps.toList.map upF).toArray⟩) σ
  | false=>zCl C id [.str x] σ k
 else zCl C id [.str x] σ k
theorem zKw (C:Cf)(id:String)(x:Str)(σ:Sto):zY (zA C id [.str x] σ) (zMJ C id x σ):=fun k=>by
 unfold zMJ;split
 ·rename_i hid
  rw [beq_iff_eq] at hid; subst hid;rw [zMO,zI];simp only [decide_eq_true_eq];split <;>rfl
 ·split
  ·rename_i hid
   rw [beq_iff_eq] at hid; subst hid;rw [yZ];generalize h:zAo x=d;cases d with
   | true=>rw [zMu x h]; rfl
   | false=>exact yK _ _ _ _ _
  ·split
   ·rename_i hid
    rw [beq_iff_eq] at hid; subst hid;rw [yZ];generalize h:zAo x=d;cases d with
    | true=>rw [zLu x h]; rfl
    | false=>exact yK _ _ _ _ _
   ·exact yK _ _ _ _ _
def zK1 (C:Cf)(sep:Str)(u:V)(σ:Sto)(k:V->Sto->Sy):Sy:=match zS u σ with
 | some l=>(match zBO l with
  | some xs=>xC (!tooLong (xs.toArray.foldl (· + ·.length + sep.length) 0) && decide ((zCc sep xs).length<=sizeLine)) (k (.str (zCc sep xs)) σ)
  | none=> .fail)
 | none=> .fail
theorem zKM (C:Cf)(sep:Str)(u:V)(σ:Sto):zY (zA C "str.join" [.str sep,u] σ) (zK1 C sep u σ):=fun k=>by
 rw [zND];unfold zK1 zBe;simp only [beq_self_eq_true,if_true];rcases zS u σ with _ | l
 ·rfl
 dsimp only;rcases zBO l with _ | xs
 ·rfl
 dsimp only;rw [zI];split <;>rfl
def zF5 (C:Cf)(a:Addr)(x:Str)(σ:Sto)(k:V->Sto->Sy):Sy:=match C.D.pat a with
 | some code=>xC (zAO code && zGg code x.cps.toList && decide (x.cps.size < 2 ^ 62)) (k .none σ)
 | none=> .fail
theorem zHk (C:Cf)(a:Addr)(x:Str)(σ:Sto):zY (zA C "re.Pattern.search" [.val (.ref a),.str x] σ) (zF5 C a x σ):=fun k=>by
 rw [zKb];unfold zF5 zGk;dsimp only;rcases C.D.pat a with _ | code
 ·rfl
 dsimp only;rw [zI];split <;>rfl
def zDK (C:Cf)(id:String)(args:List V)(σ:Sto)(k:V->Sto->Sy):Sy:=match args with
 | [.trk i]=>zHM C id i σ k
 | [.str x]=>zMJ C id x σ k
 | [.trk i,.int 0]=>zLb C id i σ k
 | [.trk i,v]=>zHD C id i v σ k
 | [.str sep,u]=>if id=="str.join" then zK1 C sep u σ k else zCl C id [.str sep,u] σ k
 | [.val (.ref a),.str x]=>if id=="re.Pattern.search" then zF5 C a x σ k else if id=="dict.get" then .pick ((C.D.sget a x).map fun r=>(r.getD .none,[])) (fun v _=>k v σ) else zCl C id [.val (.ref a),.str x] σ k
 | args=>zCl C id args σ k
theorem zFw (C:Cf)(id:String)(args:List V)(σ:Sto):zY (zA C id args σ) (zDK C id args σ):=fun k=>by
 unfold zDK;split
 ·exact zIc _ _ _ _ _
 ·exact zKw _ _ _ _ _
 ·exact zKc _ _ _ _ _
 ·exact zID _ _ _ _ _ _
 ·split
  ·rename_i hid
   rw [beq_iff_eq] at hid; subst hid;exact zKM _ _ _ _ _
  ·exact yK _ _ _ _ _
 ·split
  ·rename_i hid
   rw [beq_iff_eq] at hid; subst hid;exact zHk _ _ _ _ _
  ·split
   ·rename_i hid
    rw [beq_iff_eq] at hid; subst hid;rw [zM6,kA];generalize C.D.sget _ _=o;cases o <;>rfl
   ·exact yK _ _ _ _ _
 ·exact yK _ _ _ _ _
end Mine
end
section
namespace Mine
variable {r:Rec} {q:RecK} {ae:AE} {σ:Sto} {C:Cf}
def zGv (C:Cf)(q:RecK)(a:Addr)(args:List V)(kw:List (Str×V))(σ:Sto)(k:V->Sto->Sy):Sy:=match C.ini a with
 | some _=>zNZ C.G C.B C.ini q a args kw σ k
 | none=>zBf C.G C.B q a args kw σ k
def zIK (F:List V->Sto->Option (V×Sto))(args:List V)(σ:Sto)(k:V->Sto->Sy):Sy:=match zF8 args σ with
 | some sub=> .pick (F (zDd (zAS · sub) args) (zM (fun i=>(σ[i]?).map (zAZ (zAS · sub))) sub)) fun v σ₁=>xC (okV tt false v && okS tt false σ₁) (k (zCk (zDO sub σ.length) v) (zLx sub σ σ₁))
 | none=> .fail
theorem zH4 (F:List V->Sto->Option (V×Sto))(args:List V)(σ:Sto):zY (zEB F args σ) (zIK F args σ):=fun k=>by
 unfold zIK zEB;rcases zF8 args σ with _ | sub
 ·rfl
 dsimp only;rw [kA];generalize F _ _=o;rcases o with _ | ⟨v,σ₁⟩
 ·rfl
 dsimp only [Option.bind_some];rw [zI];unfold zHQ;split <;>rfl
def zIo (C:Cf)(n:Nat)(q:RecK)(a:Addr)(args:List V)(kw:List (Str×V))(σ:Sto)(k:V->Sto->Sy):Sy:=
 if C.isF a then (if Nat.ble C.orcN n && kw.isEmpty then zIK (C.F a) args σ k else .fail) else zGv C q a args kw σ k
def zLP (T:String)(args:List V)(σ:Sto)(k:V->Sto->Sy):Sy:=match args with
 | [.str x]=>if T=="list" then xC (decide (x.cps.size<=1000)) (k (.trk σ.length) (σ ++ [.stk 1000 x.cps.toList.reverse])) else liO (zBc T [.str x] σ) fun p=>k p.1 p.2
 | args=>liO (zBc T args σ) fun p=>k p.1 p.2
theorem zKq (T:String)(args:List V)(σ:Sto):zY (zBc T args σ) (zLP T args σ):=fun k=>by
 unfold zLP;split
 ·rename_i x
  split
  ·rename_i hT
   rw [beq_iff_eq] at hT; subst hT;rw [zI];have e:zBc "list" [.str x] σ=if x.cps.size<=1000 then some (.trk σ.length,σ ++ [.stk 1000 x.cps.toList.reverse]) else none:=by simp [zBc]
   rw [e];simp only [decide_eq_true_eq];split <;>rfl
  ·exact zE _ _
 ·exact zE _ _
def zLI (C:Cf)(n:Nat)(q:RecK)(f:V)(args:List V)(kw:List (Str×V))(σ:Sto)(k:V->Sto->Sy):Sy:=match f with
 | .val (.ref a)=>zIo C n q a args kw σ k
 | .val (.builtin id)=>if kw.isEmpty then zDK C id args σ k else .fail
 | .val (.type T)=>if kw.isEmpty then zLP T args σ k else .fail
 | .trk i=>(match (σ[i]? :Option Ob) with
  | some (.lam _ _ _)=>zC6 q i args kw σ k
  | some (.meth g u)=>if C.kf g then zBf C.G C.B q g (u::args) kw σ k else .fail
  | _=> .fail)
 | _=> .fail
theorem zKS (R:Runs r q)(C:Cf)(n:Nat)(f:V)(args:List V)(kw:List (Str×V))(σ:Sto):zY (zBQ C n r f args kw σ) (zLI C n q f args kw σ):=fun k=>by
 unfold zLI;split
 ·rename_i a
  show run (zIo C n q a args kw σ k)=(if C.isF a then (if Nat.ble C.orcN n && kw.isEmpty then zEB (C.F a) args σ else none) else (match C.ini a with
   | some _=>zE0 C.G C.B C.ini r a args kw σ
   | none=>yW C.G C.B r a args kw σ)).bind fun p=>run (k p.1 p.2)
  unfold zIo;split
  ·split
   ·exact zH4 _ _ _ _
   ·rfl
  ·unfold zGv
   rcases C.ini a with _ | f
   ·exact vL R _ _ _ _ _ _ _
   ·exact zMs R _ _ _ _ _ _ _ _
 ·rename_i id
  show _=(if kw.isEmpty then zA C id args σ else none).bind fun p=>run (k p.1 p.2);split
  ·exact zFw _ _ _ _ _
  ·rfl
 ·rename_i T
  show _=(if kw.isEmpty then zBc T args σ else none).bind fun p=>run (k p.1 p.2);split
  ·exact zKq _ _ _ _
  ·rfl
 ·rename_i i
  unfold zBQ;dsimp only;rcases (σ[i]? :Option Ob) with _ | ob
  ·rfl
  cases ob <;>try rfl
  ·dsimp only
   split
   ·exact vL R _ _ _ _ _ _ _
   ·rfl
  ·exact zFs R _ _ _ _ _
 ·unfold zBQ
  split <;>first | rfl | (simp_all; done)
def kE (C:Cf)(q:RecK)(e:Expr)(ae:AE)(σ:Sto)(k:V->Sto->Sy):Sy:=match e with
 | .Constant c _ _=>liO (wJ c) fun v=>k v σ
 | .Name x _=>if eqS x ("__debug__":Str) then k (.bool true) σ else liO (kP C.G x ae σ) fun v=>k v σ
 | .Tuple es _ _=>zHZ q es ae σ k
 | .List es _=>zIm q es ae σ k
 | .IfExp t a b _=>zH6 q t a b ae σ k
 | .BinOp a op b _=>zJh q (zPx op) a b ae σ k
 | .BoolOp op xs _=>zI0 q op xs ae σ k
 | .UnaryOp op x _=>kUn q op x ae σ k
 | .Compare l ops rs _=>zCT (zLD C) q l ops rs ae σ k
 | .Subscript v i _=>zQg q v i ae σ k
 | .Attribute o name _=>zLU C.T q o name ae σ k
 | .ListComp elt gens scope _=>zI8 q elt gens scope ae σ k
 | .Lambda ps b scope _=>liO (zBj C.lt ps b scope ae σ) fun p=>k p.1 p.2
 | .Call (.Attribute o name apos) args kws pos=>zLB C.kp C.kf (zBI C) q o name apos pos args kws ae σ k
 | .Call f args kws _=>zHR C.kp C.kf q f args kws ae σ k
 | _=> .fail
theorem zME (R:Runs r q)(C:Cf)(e:Expr)(ae:AE)(σ:Sto):zY (evE C r e ae σ) (kE C q e ae σ):=fun k=>by
 cases e with
 | Constant c _ _=>
  show run (liO (wJ c) fun v=>k v σ)=((wJ c).map (·,σ)).bind fun p=>run (k p.1 p.2);rw [zE];cases wJ c <;>rfl
 | Name x _=>
  show run (if eqS x ("__debug__":Str) then k (.bool true) σ else liO (kP C.G x ae σ) fun v=>k v σ)=(if eqS x ("__debug__":Str) then some (.bool true,σ) else (kP C.G x ae σ).map (·,σ)).bind fun p=>run (k p.1 p.2);split
  ·rfl
  ·rw [zE]
   cases kP C.G x ae σ <;>rfl
 | Tuple es _ _=>exact zHC R _ _ _
 | List es _=>exact zIV R _ _ _
 | IfExp t a b _=>exact zHY R _ _ _ _ _
 | BinOp a op b _=>exact zE1 R (fun x y σ k=>zLe (σ:=σ) op x y k) _ _ _ _
 | BoolOp op xs _=>exact zER R _ _ _ _
 | UnaryOp op x _=>exact zNJ R _ _ _ _
 | Compare l ops rs _=>exact zF2 R _ _ _ _ _ _
 | Subscript v i _=>exact zLN R _ _ _ _
 | Attribute o name _=>exact zKZ R _ _ _ _ _
 | ListComp elt gens scope _=>exact zFj R _ _ _ _ _ _
 | Lambda ps b scope _=>exact zE _ _
 | Call f args kws pos=>
  cases f <;>first | exact zKo R _ _ _ _ _ _ _ _ _ _ _ | exact zH7 R _ _ _ _ _ _ _
 | _=>rfl
def kT (C:Cf)(q:RecK)(e:Expr)(ae:AE)(σ:Sto)(k:Bool->Sto->Sy):Sy:=match e with
 | .UnaryOp .Not x _=>q.t x ae σ fun b σ₁=>k (!b) σ₁
 | .BoolOp op xs _=>zNt q op xs ae σ k
 | .Compare l [op] [x] _=>zIe (zLD C) q l op x ae σ k
 | e=>if zDi e then kE C q e ae σ fun v σ₁=>zBF v σ₁ fun b=>k b σ₁ else .fail
theorem zPC (R:Runs r q)(C:Cf)(e:Expr)(ae:AE)(σ:Sto):zY (evT C r e ae σ) (kT C q e ae σ):=fun k=>by
 have gen:∀e,run (if zDi e then kE C q e ae σ fun v σ₁=>zBF v σ₁ fun b=>k b σ₁ else .fail)=(if zDi e then (match evE C r e ae σ with
  | some (v,σ₁)=>(kU v σ₁).map (·,σ₁)
  | none=>none) else none:Option (Bool×Sto)).bind fun p=>run (k p.1 p.2):=by
  intro e;split
  ·rw [zME R]
   rcases evE C r _ ae σ with _ | ⟨v,σ₁⟩
   ·rfl
   ·simp only [Option.bind_some,zAK]
    rcases kU v σ₁ with _ | b <;>rfl
  ·rfl
 cases e with
 | UnaryOp op x pos=>
  cases op with
  | Not=>
   show run (q.t x ae σ fun b σ₁=>k (!b) σ₁)=(match r.t x ae σ with | some (b,σ₁)=>some (!b,σ₁) | none=>none:Option (Bool×Sto)).bind fun p=>run (k p.1 p.2);rw [R.t];rcases r.t x ae σ with _ | ⟨b,σ₁⟩ <;>rfl
  | _=>rfl
 | BoolOp op xs _=>exact zGn R _ _ _ _
 | Compare l ops rs _=>
  rcases ops with _ | ⟨o,_ | ⟨_,_⟩⟩ <;>rcases rs with _ | ⟨x,_ | ⟨_,_⟩⟩ <;>first | rfl | exact zII R _ _ _ _ _ _
 | Constant a b c=>exact gen (.Constant a b c)
 | Name a b=>exact gen (.Name a b)
 | Call a b c d=>exact gen (.Call a b c d)
 | Attribute a b c=>exact gen (.Attribute a b c)
 | Subscript a b c=>exact gen (.Subscript a b c)
 | BinOp a b c d=>exact gen (.BinOp a b c d)
 | _=>rfl
def zFr (q:RecK)(t:Expr)(e:Expr)(ae:AE)(σ:Sto)(k:Fl->Sto->Sy):Sy:=if xL e || zGd e then .fail else q.e e ae σ fun v σ₁=>liO (qD t v ae σ₁) fun σ₂=>k .next σ₂
theorem zHb (R:Runs r q)(t e:Expr)(σ:Sto):zY (vQ r t e ae σ) (zFr q t e ae σ):=fun k=>by
 unfold zFr vQ;split
 ·rfl
 ·rw [R.e]
  rcases r.e e ae σ with _ | ⟨v,σ₁⟩
  ·rfl
  ·simp only [Option.bind_some,zE]
   rcases qD t v ae σ₁ with _ | σ₂ <;>rfl
def kX (C:Cf)(q:RecK)(st:Stmt)(ae:AE)(σ:Sto)(k:Fl->Sto->Sy):Sy:=match st with
 | .Return e _=>zOP q e ae σ k
 | .If t a b _=>kIf q t a b ae σ k
 | .For t it body orelse _=>zLa C.kf q t it body orelse ae σ k
 | .While t body [] _=>zDs q t body ae σ.length k 1000 σ
 | .Expr e _=>zIO q e ae σ k
 | .Assign [.Name x _] e _=>zBl q x e ae σ k
 | .Assign [.Attribute o name _] e _=>zCO C.T q o name e ae σ k
 | .Assign [.Tuple es l p] e _=>zFr q (.Tuple es l p) e ae σ k
 | .AugAssign (.Name x _) op e _=>zEf C.G q x op e ae σ k
 | .AugAssign (.Attribute o name _) op e _=>zCZ C.T q o name op e ae σ k
 | .AugAssign (.Subscript o i _) op e _=>zF7 q o i op e ae σ k
 | .Pass _=>k .next σ
 | .Break _=>k .brk σ
 | .Continue _=>k .cont σ
 | _=> .fail
theorem zQw (R:Runs r q)(C:Cf)(st:Stmt)(ae:AE)(σ:Sto):zY (evX C r st ae σ) (kX C q st ae σ):=fun k=>by
 cases st with
 | Return e _=>exact zLF R _ _ _
 | If t a b _=>exact zNp R _ _ _ _ _
 | For t it body orelse _=>exact zJZ R _ _ _ _ _ _ _
 | While t body el _=>
  cases el with
  | nil=>exact zCR R _ _ _ _ _ _
  | cons=>rfl
 | Expr e _=>exact zHv R _ _ _
 | Assign ts e _=>
  rcases ts with _ | ⟨t,_ | ⟨t',ts⟩⟩
  ·rfl
  ·cases t with
   | Name=>exact zF6 R _ _ _ _
   | Attribute=>exact zFQ R _ _ _ _ _ _
   | Tuple=>exact zHb R _ _ _ _
   | _=>rfl
  ·cases t <;>rfl
 | AugAssign t op e _=>
  cases t with
  | Name=>exact zFX R _ _ _ _ _ _
  | Attribute=>exact zF3 R _ _ _ _ _ _ _
  | Subscript=>exact zGU R _ _ _ _ _ _
  | _=>rfl
 | Pass=>rfl
 | Break=>rfl
 | Continue=>rfl
 | _=>rfl
def zRt (C:Cf)(n:Nat)(q:RecK):RecK:=⟨kE C q,kT C q,kX C q,zLI C n q⟩
def evK (C:Cf):Nat->RecK
 | 0=>⟨fun _ _ _ _=> .fail,fun _ _ _ _=> .fail,fun _ _ _ _=> .fail,fun _ _ _ _ _=> .fail⟩
 | n + 1=>zRt C (2 * n + 5) (evK C n)
theorem yC (C:Cf):∀n,Runs (ev C n) (evK C n)
 | 0=>⟨fun _ _ _ _=>rfl,fun _ _ _ _=>rfl,fun _ _ _ _=>rfl,fun _ _ _ _ _=>rfl⟩
 | n + 1=>⟨fun e ae σ=>zME (yC C n) C e ae σ,fun e ae σ=>zPC (yC C n) C e ae σ,fun e ae σ=>zQw (yC C n) C e ae σ,fun f args kw σ=>zKS (yC C n) C _ f args kw σ⟩
def goC (C:Cf)(n:Nat)(f:V)(args:List V)(kw:List (Str×V))(σ:Sto):Sy:=(evK C n).c f args kw σ .done
theorem zPL {C:Cf}{n:Nat}{f:V}{args:List V}{kw:List (Str×V)}{ds:List Dec}{l:List Prop}{v:V}{σ σ':Sto}(h:zP (goC C n f args kw σ) ds=some (l,v,σ'))(hl:zAJ l):(ev C n).c f args kw σ=some (v,σ'):=by
 have h:=zN _ _ _ _ _ h hl;unfold goC at h;rw [(yC C n).c] at h;generalize (ev C n).c f args kw σ=o at h;rcases o with _ | ⟨u,σ₁⟩
 ·cases h
 ·exact h
end Mine
end
section
namespace Mine
variable {C:Cf} {n:Nat} {r:Rec} {ae:AE}
def kJ:Fl->V
 | .next=> .int 0
 | .brk=> .int 1
 | .cont=> .int 2
 | .ret v=> .tup [v]
theorem zCU {a b:Fl}(h:kJ a=kJ b):a=b:=by
 cases a <;>cases b <;>first | rfl | (cases h; done) | (simp only [kJ,V.tup.injEq,List.cons.injEq,and_true] at h; rw [h]) | (simp [kJ] at h)
def goS (C:Cf)(n:Nat)(l:List Stmt)(ae:AE)(σ:Sto):Sy:=kS (evK C n) l ae σ fun f σ'=> .done (kJ f) σ'
theorem zD {l:List Stmt}{σ σ':Sto}{ds:List Dec}{ps:List Prop}{f:Fl}(h:zP (goS C n l ae σ) ds=some (ps,kJ f,σ'))(hl:zAJ ps):evs (ev C n) l ae σ=some (f,σ'):=by
 have h:=zN _ _ _ _ _ h hl;unfold goS at h;rw [xN (yC C n)] at h;generalize evs (ev C n) l ae σ=o at h;rcases o with _ | ⟨g,σ₁⟩
 ·cases h
 ·have h:some (kJ g,σ₁)=some (kJ f,σ'):=h
  simp only [Option.some.injEq,Prod.mk.injEq] at h;rw [zCU h.1,h.2]
def kK (r:Rec)(t:Expr)(body:List Stmt)(ae:AE)(m:Nat)(nx:Sto->Nat->Option (Option V))(k:Nat)(σ:Sto):Option (Fl×Sto):=match nx σ k with
 | some (some v)=>(match qD t v ae σ with
  | some σ₁=>(match evs r body ae σ₁ with
   | some (.next,σ₂)=>some (.next,gc m σ₂)
   | some (.cont,σ₂)=>some (.next,gc m σ₂)
   | some (f,σ₂)=>some (f,σ₂)
   | none=>none)
  | none=>none)
 | _=>none
def goT (C:Cf)(n:Nat)(t:Expr)(body:List Stmt)(ae:AE)(m:Nat)(nx:Sto->Nat->Option (Option V))(k:Nat)(σ:Sto):Sy:=match nx σ k with
 | some (some v)=>liO (qD t v ae σ) fun σ₁=>kS (evK C n) body ae σ₁ fun f σ₂=>match f with
  | .next=> .done (kJ .next) (gc m σ₂)
  | .cont=> .done (kJ .next) (gc m σ₂)
  | f=> .done (kJ f) σ₂
 | _=> .fail
theorem zJ {t:Expr}{body:List Stmt}{m k:Nat}{nx:Sto->Nat->Option (Option V)}{σ σ':Sto}{ds:List Dec}{ps:List Prop}{f:Fl}(h:zP (goT C n t body ae m nx k σ) ds=some (ps,kJ f,σ'))(hl:zAJ ps):kK (ev C n) t body ae m nx k σ=some (f,σ'):=by
 have h:=zN _ _ _ _ _ h hl;unfold goT at h;unfold kK;split at h
 ·rename_i v hv
  rw [zE] at h;generalize qD t v ae σ=oa at h ⊢;rcases oa with _ | σ₁
  ·cases h
  ·dsimp only [Option.bind_some] at h ⊢
   rw [xN (yC C n)] at h;generalize evs (ev C n) body ae σ₁=o at h;rcases o with _ | ⟨g,σ₂⟩
   ·cases h
   ·cases g <;>(
     simp only [Option.bind_some,run,Option.some.injEq,Prod.mk.injEq] at h;obtain ⟨h1,h2⟩:=h;rw [<-zCU h1,<-h2])
 ·cases h
theorem zC {t:Expr}{body:List Stmt}{m:Nat}{nx:Sto->Nat->Option (Option V)}{fu k:Nat}{σ σ':Sto}(h:kK r t body ae m nx k σ=some (.next,σ')):yD r t body ae m nx (fu + 1) k σ=yD r t body ae m nx fu (k + 1) σ':=by
 unfold kK at h
 conv=>lhs; unfold yD
 split at h
 ·rename_i v hv
  rw [hv];dsimp only;split at h
  ·rename_i σ₁ h1
   first | (rw [h1]; dsimp only) | skip
   split at h
   ·rename_i σ₂ h2; rw [h2]; cases h; rfl
   ·rename_i σ₂ h2; rw [h2]; cases h; rfl
   ·rename_i f σ₂ n1 n2 h2
    cases h
    first | exact (n1 h2).elim | exact (n1 rfl).elim | exact n1.elim
   ·cases h
  ·cases h
 ·cases h
theorem zKh {t:Expr}{body:List Stmt}{m:Nat}{nx:Sto->Nat->Option (Option V)}{fu k:Nat}{σ σ':Sto}{v:V}(h:kK r t body ae m nx k σ=some (.ret v,σ')):yD r t body ae m nx (fu + 1) k σ=some (.ret v,σ'):=by
 unfold kK at h
 conv=>lhs; unfold yD
 split at h
 ·rename_i v hv
  rw [hv];dsimp only;split at h
  ·rename_i σ₁ h1
   first | (rw [h1]; dsimp only) | skip
   split at h
   ·cases h
   ·cases h
   ·rename_i f σ₂ n1 n2 h2
    cases h;rw [h2]
   ·cases h
  ·cases h
 ·cases h
theorem zV {t:Expr}{body:List Stmt}{m:Nat}{nx:Sto->Nat->Option (Option V)}{fu k:Nat}{σ:Sto}(h:nx σ k=some none):yD r t body ae m nx (fu + 1) k σ=some (.next,σ):=by
 unfold yD;rw [h]
theorem zFa {t:Expr}{body:List Stmt}{m N:Nat}{nx:Sto->Nat->Option (Option V)}(P:Nat->Sto->Prop)(hs:∀k σ,k < N->P k σ->∃σ',kK r t body ae m nx k σ=some (.next,σ')/\P (k + 1) σ')
  (he:∀σ,P N σ->nx σ N=some none):∀(d k:Nat) (σ:Sto),k + d=N->P k σ->∀fu,d < fu->∃σ',yD r t body ae m nx fu k σ=some (.next,σ')/\P N σ'
 | 0,k,σ,hk,p,fu,hf=>by
  obtain ⟨fu,rfl⟩:∃g,fu=g + 1:=⟨fu - 1,by omega⟩;have hk:k=N:=hk;subst hk;exact ⟨σ,zV (he σ p),p⟩
 | d + 1,k,σ,hk,p,fu,hf=>by
  obtain ⟨fu,rfl⟩:∃g,fu=g + 1:=⟨fu - 1,by omega⟩;obtain ⟨σ₁,h1,p1⟩:=hs k σ (by omega) p;rw [zC h1];exact zFa P hs he d (k + 1) σ₁ (by omega) p1 fu (by omega)
theorem zG {a b:List Stmt}{σ σ₁:Sto}(h:evs r a ae σ=some (.next,σ₁)):evs r (a ++ b) ae σ=evs r b ae σ₁:=by
 induction a generalizing σ with
 | nil=>cases h; rfl
 | cons st a ih=>
  show evs r (st::(a ++ b)) ae σ=_
  conv=>lhs; unfold evs
  unfold evs at h;rcases hx:r.x st ae σ with _ | ⟨f,σ₂⟩
  ·rw [hx] at h; cases h
  ·rw [hx] at h
   cases f with
   | next=>
    have h:evs r a ae σ₂=some (.next,σ₁):=h;exact ih h
   | _=>exact absurd h (by simp)
theorem zDl {st:Stmt}{l:List Stmt}{σ σ₁:Sto}(h:r.x st ae σ=some (.next,σ₁)):evs r (st::l) ae σ=evs r l ae σ₁:=by
 conv=>lhs; unfold evs
 rw [h]
theorem zE5 {prog:Program}{w:World}{K:Frag}(CO:CfOK prog w K C){N n:Nat}(hN:2 * N + 5<=n){a:Addr}{F:List V->Sto->Option (V×Sto)}
  (H:∀args σ v σ',F args σ=some (v,σ')->(ev C N).c (.val (.ref a)) args [] σ=some (v,σ')):ConOK prog w K n a F:=
 fun args σ v σ' h A ρ s xs hA I rs=>(zIk CO N).c _ _ _ _ _ _ (H _ _ _ _ h) A ρ s (.ref a) xs [] (hA.le hN) I rfl rs ⟨rfl,rfl⟩
end Mine
end
section
namespace Mine
variable {C:Cf} {n:Nat} {r:Rec} {ae:AE} {kf:Addr->Bool}
def zAa (kf:Addr->Bool)(r:Rec)(t:Expr)(body:List Stmt)(ae:AE)(i:Nat)(σ:Sto):Option (Fl×Sto):=match zZ kf r t i σ with
 | some (some v,σ₁)=>(match qD t v ae σ₁ with
  | some σ₂=>evs r body ae σ₂
  | none=>none)
 | _=>none
def zRE (C:Cf)(n:Nat)(t:Expr)(body:List Stmt)(ae:AE)(i:Nat)(σ:Sto):Sy:=zBG C.kf (evK C n) t i σ fun o σ₁=>match o with
 | some v=>liO (qD t v ae σ₁) fun σ₂=>kS (evK C n) body ae σ₂ fun f σ₃=> .done (kJ f) σ₃
 | none=> .fail
theorem zU {t:Expr}{body:List Stmt}{i:Nat}{σ σ':Sto}{ds:List Dec}{ps:List Prop}{f:Fl}(h:zP (zRE C n t body ae i σ) ds=some (ps,kJ f,σ'))(hl:zAJ ps):zAa C.kf (ev C n) t body ae i σ=some (f,σ'):=by
 have h:=zN _ _ _ _ _ h hl;unfold zRE at h;rw [wX (yC C n)] at h;unfold zAa;generalize zZ C.kf (ev C n) t i σ=o at h ⊢;rcases o with _ | ⟨_ | v,σ₁⟩
 ·cases h
 ·cases h
 ·dsimp only [Option.bind_some] at h ⊢
  rw [zE] at h;generalize qD t v ae σ₁=o at h ⊢;rcases o with _ | σ₂
  ·cases h
  ·dsimp only [Option.bind_some] at h ⊢
   rw [xN (yC C n)] at h;generalize evs (ev C n) body ae σ₂=o at h ⊢;rcases o with _ | ⟨g,σ₃⟩
   ·cases h
   ·have h:some (kJ g,σ₃)=some (kJ f,σ'):=h
    simp only [Option.some.injEq,Prod.mk.injEq] at h;rw [zCU h.1,h.2]
def zGS (kf:Addr->Bool)(r:Rec)(t:Expr)(ae:AE)(i:Nat)(σ:Sto):Option Sto:=match zZ kf r t i σ with
 | some (some v,σ₁)=>qD t v ae σ₁
 | _=>none
def goH (C:Cf)(n:Nat)(t:Expr)(ae:AE)(i:Nat)(σ:Sto):Sy:=zBG C.kf (evK C n) t i σ fun o σ₁=>match o with
 | some v=>liO (qD t v ae σ₁) fun σ₂=> .done .none σ₂
 | none=> .fail
theorem zO4 {t:Expr}{i:Nat}{σ σ':Sto}{ds:List Dec}{ps:List Prop}{v:V}(h:zP (goH C n t ae i σ) ds=some (ps,v,σ'))(hl:zAJ ps):zGS C.kf (ev C n) t ae i σ=some σ':=by
 have h:=zN _ _ _ _ _ h hl;unfold goH at h;rw [wX (yC C n)] at h;unfold zGS;generalize zZ C.kf (ev C n) t i σ=o at h ⊢;rcases o with _ | ⟨_ | v,σ₁⟩
 ·cases h
 ·cases h
 ·dsimp only [Option.bind_some] at h ⊢
  rw [zE] at h;generalize qD t v ae σ₁=o at h ⊢;rcases o with _ | σ₂
  ·cases h
  ·have h:some (V.none,σ₂)=some (_,σ'):=h
   simp only [Option.some.injEq,Prod.mk.injEq] at h;rw [h.2]
theorem zH1 {t:Expr}{body:List Stmt}{i:Nat}{σ σ':Sto}(h:zGS kf r t ae i σ=some σ'):zAa kf r t body ae i σ=evs r body ae σ':=by
 unfold zGS at h;unfold zAa;generalize zZ kf r t i σ=o at h ⊢;rcases o with _ | ⟨_ | v,σ₁⟩
 ·cases h
 ·cases h
 ·dsimp only at h ⊢
  rw [h]
def goN (C:Cf)(n:Nat)(t:Expr)(i:Nat)(σ:Sto):Sy:=zBG C.kf (evK C n) t i σ fun o σ₁=>match o with
 | some v=> .fail
 | none=> .done .none σ₁
theorem zN0 {t:Expr}{i:Nat}{σ σ':Sto}{ds:List Dec}{ps:List Prop}{v:V}(h:zP (goN C n t i σ) ds=some (ps,v,σ'))(hl:zAJ ps):zZ C.kf (ev C n) t i σ=some (none,σ'):=by
 have h:=zN _ _ _ _ _ h hl;unfold goN at h;rw [wX (yC C n)] at h;generalize zZ C.kf (ev C n) t i σ=o at h ⊢;rcases o with _ | ⟨_ | v,σ₁⟩
 ·cases h
 ·have h:some (V.none,σ₁)=some (_,σ'):=h
  simp only [Option.some.injEq,Prod.mk.injEq] at h;rw [h.2]
 ·cases h
theorem qZ {t:Expr}{body:List Stmt}{i fu:Nat}{σ σ':Sto}(h:zAa kf r t body ae i σ=some (.next,σ')\/zAa kf r t body ae i σ=some (.cont,σ')):yL kf r t body ae i (fu + 1) σ=yL kf r t body ae i fu σ':=by
 conv=>lhs; unfold yL
 unfold zAa at h;generalize zZ kf r t i σ=o at h ⊢;rcases o with _ | ⟨_ | v,σ₁⟩
 ·simp at h
 ·simp at h
 ·dsimp only at h ⊢
  generalize qD t v ae σ₁=o at h ⊢;rcases o with _ | σ₂
  ·simp at h
  ·dsimp only at h ⊢
   rcases h with h | h <;>rw [h]
theorem xA {t:Expr}{body:List Stmt}{i fu:Nat}{σ σ':Sto}{v:V}(h:zAa kf r t body ae i σ=some (.ret v,σ')):yL kf r t body ae i (fu + 1) σ=some (.ret v,σ'):=by
 conv=>lhs; unfold yL
 unfold zAa at h;generalize zZ kf r t i σ=o at h ⊢;rcases o with _ | ⟨_ | v,σ₁⟩
 ·simp at h
 ·simp at h
 ·dsimp only at h ⊢
  generalize qD t v ae σ₁=o at h ⊢;rcases o with _ | σ₂
  ·simp at h
  ·dsimp only at h ⊢
   rw [h]
theorem zIR {t:Expr}{body:List Stmt}{i fu:Nat}{σ σ':Sto}(h:zZ kf r t i σ=some (none,σ')):yL kf r t body ae i (fu + 1) σ=some (.next,σ'):=by
 unfold yL;rw [h]
def goQ (C:Cf)(n:Nat)(e:Expr)(ae:AE)(σ:Sto):Sy:=(evK C n).t e ae σ fun b σ'=> .done (.bool b) σ'
theorem zHL {e:Expr}{σ σ':Sto}{ds:List Dec}{ps:List Prop}{b:Bool}(h:zP (goQ C n e ae σ) ds=some (ps,.bool b,σ'))(hl:zAJ ps):(ev C n).t e ae σ=some (b,σ'):=by
 have h:=zN _ _ _ _ _ h hl;unfold goQ at h;rw [(yC C n).t] at h;generalize (ev C n).t e ae σ=o at h;rcases o with _ | ⟨c,σ₁⟩
 ·cases h
 ·have h:some (V.bool c,σ₁)=some (V.bool b,σ'):=h
  simp only [Option.some.injEq,Prod.mk.injEq,V.bool.injEq] at h;rw [h.1,h.2]
theorem zTV {t:Expr}{a b:List Stmt}{p:Pos}{c:Bool}{σ σ₁:Sto}(h:(ev C n).t t ae σ=some (c,σ₁)):(ev C (n + 1)).x (.If t a b p) ae σ=evs (ev C n) (if c then a else b) ae σ₁:=by
 show zHF (ev C n) t a b ae σ=_;unfold zHF;rw [h];cases c <;>rfl
theorem zO {st:Stmt}{σ:Sto}:evs r [st] ae σ=r.x st ae σ:=by
 unfold evs;rcases r.x st ae σ with _ | ⟨f,σ₁⟩
 ·rfl
 ·cases f <;>rfl
end Mine
end
section
noncomputable section
namespace Mine
def KL (b:Bool)(P:Params):Frag:=[
 (0,(top.o_1 P)),
 (1,(top.o_2 P)),
 (2,(top.o_3 P)),
 (3,(zIn b P)),
 (4,(top.o_5 P)),
 (37,(top.o_40 P)),
 (38,(top.o_41 P)),
 (42,(top.o_45 P)),
 (43,(top.o_46 P)),
 (47,(top.o_50 P)),
 (48,(top.o_51 P)),
 (52,(top.o_55 P)),
 (53,(top.o_56 P)),
 (54,(top.o_57 P)),
 (60,(top.o_63 P)),
 (61,(top.o_64 P)),
 (69,(top.o_75 P)),
 (75,(top.o_81 P)),
 (76,(top.o_82 P)),
 (82,(top.o_88 P)),
 (83,(top.o_89 P)),
 (89,(top.o_95 P)),
 (90,(top.o_96 P)),
 (96,(top.o_102 P)),
 (97,(top.o_103 P)),
 (101,(top.o_107 P)),
 (102,(top.o_108 P)),
 (108,(top.o_114 P)),
 (109,(top.o_115 P)),
 (115,(top.o_121 P)),
 (116,(top.o_122 P)),
 (122,(top.o_128 P)),
 (123,(top.o_129 P)),
 (124,(top.o_130 P)),
 (130,(top.o_136 P)),
 (131,(top.o_137 P)),
 (135,(top.o_141 P)),
 (136,(top.o_142 P)),
 (140,(top.o_146 P)),
 (141,(top.o_147 P)),
 (147,(top.o_153 P)),
 (148,(top.o_154 P)),
 (154,(top.o_160 P)),
 (155,(top.o_161 P)),
 (159,(top.o_165 P)),
 (160,(top.o_166 P)),
 (166,(top.o_172 P)),
 (167,(top.o_173 P)),
 (173,(top.o_179 P)),
 (174,(top.o_180 P)),
 (180,(top.o_186 P)),
 (181,(top.o_187 P)),
 (183,(top.o_189 P)),
 (184,(top.o_190 P)),
 (201,(top.o_293 P)),
 (202,(top.o_294 P)),
 (208,(top.o_300 P)),
 (209,(top.o_301 P)),
 (215,(top.o_307 P)),
 (216,(top.o_308 P)),
 (222,(top.o_314 P)),
 (223,(top.o_315 P)),
 (225,(top.o_317 P)),
 (226,(top.o_318 P)),
 (238,(xB b P)),
 (247,(zAA b P)),
 (248,(vP b P)),
 (249,(xO b P)),
 (293,(zF1 b P)),
 (294,(zEe b P)),
 (295,(uG b P)),
 (303,(zLq b P)),
 (304,(zH3 b P)),
 (308,(zMf b P)),
 (309,(zFH b P)),
 (315,(zLy b P)),
 (316,(zIt b P)),
 (322,(zMw b P)),
 (323,(zH2 b P)),
 (329,(zMg b P)),
 (330,(zIJ b P)),
 (336,(zAC b P)),
 (337,(zFB b P)),
 (341,(zMi b P)),
 (342,(zIL b P)),
 (346,(zLk b P)),
 (347,(zFC b P)),
 (351,(zLi b P)),
 (352,(zFq b P)),
 (356,(zMq b P)),
 (357,(zFx b P))]
def qQ (o:Obj):FuncData:=match o.data with
 | .func fd=>fd
 | _=>default
def fnT (b:Bool)(P:Params):List (Addr×FuncData):=[
 (248,qQ (vP b P)),
 (294,qQ (zEe b P)),
 (76,qQ (top.o_82 P)),
 (83,qQ (top.o_89 P)),
 (131,qQ (top.o_137 P)),
 (148,qQ (top.o_154 P)),
 (174,qQ (top.o_180 P)),
 (181,qQ (top.o_187 P)),
 (202,qQ (top.o_294 P)),
 (209,qQ (top.o_301 P)),
 (216,qQ (top.o_308 P)),
 (223,qQ (top.o_315 P)),
 (304,qQ (zH3 b P)),
 (309,qQ (zFH b P)),
 (316,qQ (zIt b P)),
 (323,qQ (zH2 b P)),
 (330,qQ (zIJ b P)),
 (337,qQ (zFB b P)),
 (342,qQ (zIL b P)),
 (347,qQ (zFC b P)),
 (352,qQ (zFq b P)),
 (357,qQ (zFx b P))]
def gT:List (Str×Value):=[
 (S "_name_disallowed_re",R 48),
 (S "_value_disallowed_re",R 53),
 (S "Headers",R 184),
 (S "_netrclex",R 226),
 (S "b1_set",R 238),
 (S "in_table_b1",R 248),
 (S "b3_exceptions",R 249),
 (S "map_table_b3",R 294),
 (S "EXACT_TOKEN_TYPES",R 295),
 (S "_law_cells",R 304),
 (S "_law_row",R 309),
 (S "_law_operators",R 316),
 (S "_law_face",R 323),
 (S "_law_written",R 330),
 (S "_law_lexer",R 337),
 (S "_law_prepared",R 342),
 (S "_law_riffled",R 347),
 (S "_law_unlike",R 352)]
def bT:List (Str×Value):=[
 (S "len",B "len"),
 (S "min",B "min"),
 (S "max",B "max"),
 (S "abs",B "abs"),
 (S "chr",B "chr"),
 (S "ord",B "ord"),
 (S "iter",B "iter"),
 (S "range",Y "range"),
 (S "list",Y "list"),
 (S "str",Y "str"),
 (S "type",Y "type"),
 (S "enumerate",Y "enumerate")]
def zOk:List (Addr×List (Str×Option Addr)):=[(184,[(S "_convert_string_type",some 83),(S "get",some 131),(S "items",some 148),(S "setdefault",some 174),(S "add_header",some 181),(S "_headers",none)]),(226,[(S "_read_char",some 209),(S "get_token",some 216),(S "push_token",some 223),(S "lineno",none),(S "instream",none),(S "whitespace",none),(S "pushback",none),(S "read",none)])]
def zTa:ClsT:=fun C n=>(zOk.lookup C).bind fun l=>lkS l n
def zNc:List (Addr×Addr):=[(184,76),(226,202)]
end Mine
end
end
section
noncomputable section
namespace Mine
inductive Sh where
 | pos (names:List Str) (dfl:List V)
 | kwo (names:List Str) (kw:Str)
 | star (names:List Str) (kw:Str)
def shB (sh:Sh)(args:List V)(kw:List (Str×V))(σ:Sto):Option (List (Str×V)×Sto):=match sh,kw with
 | .pos names dfl,[]=>if args.length<=names.length && names.length<=args.length + dfl.length then some (names.zip (args ++ dfl.drop (args.length + dfl.length - names.length)),σ) else none
 | .kwo names x,[(k,v)]=>if args.length==names.length && eqS k x then some (names.zip args ++ [(x,v)],σ) else none
 | .star names x,[]=>if args.length==names.length then some (names.zip args ++ [(x,.trk σ.length)],σ ++ [.dict []]) else none
 | _,_=>none
def shT:List (Addr×Sh):=[(248,.pos [S "code"] []),(294,.pos [S "code"] []),(76,.pos [S "self",S "headers"] [.none]),(83,.kwo [S "self",S "value"] (S "name")),(131,.pos [S "self",S "name",S "default"] [.none]),(148,.pos [S "self"] []),
 (174,.pos [S "self",S "name",S "value"] []),(181,.star [S "self",S "_name",S "_value"] (S "_params")),(202,.pos [S "self",S "fp"] []),(209,.pos [S "self"] []),(216,.pos [S "self"] []),(223,.pos [S "self",S "token"] []),
 (304,.pos [S "script"] []),(309,.pos [S "cells"] []),(316,.pos [] []),(323,.pos [S "card"] []),(330,.pos [S "card",S "look"] []),(337,.pos [S "text"] []),(342,.pos [S "word"] []),(347,.pos [S "deck",S "heard"] []),
 (352,.pos [S "signs",S "numbers",S "size"] []),(357,.pos [S "script"] [])]
def zQ7:Bnd:=fun a args kw σ=>(shT.lookup a).bind fun sh=>shB sh args kw σ
def zKI:Value->V
 | .int i _=> .int i
 | .str s _=> .str s
 | _=> .none
def yY (o:Obj):List DictEntry:=match o.data with
 | .dict es _=>es.toList
 | _=>[]
def zGw (o:Obj):List (Int×Value):=match o.data with
 | .set es _ _=>es.toList
 | _=>[]
def isS (k:Str):Value->Bool
 | .str s _=>eqS s k
 | _=>false
def isI (k:Int):Value->Bool
 | .int i _=>i==k
 | _=>false
def zEu (b:Bool)(P:Params):Tabs where
 sget a k:=if a==295 then some (((yY (uG b P)).find? (fun e=>isS k e.key)).map fun e=>zKI e.val) else none
 iget a k:=if a==249 then some (((yY (xO b P)).find? (fun e=>isI k e.key)).map fun e=>zKI e.val) else none
 sset a k:=if a==238 then some ((zGw (xB b P)).any fun e=>isI k e.2) else none
 isD a:=a==295 || a==249
 pat a:=if a==48 then some #[14,10,4,1,1,22,0,31,16,127,0,13,7,22,0,31,16,127,0,1]
  else if a==53 then some #[14,14,4,1,1,9,4294966783,0,0,2147483648,0,0,0,0,0,13,11,9,4294966783,0,0,2147483648,0,0,0,0,0,1] else none
def glB (b:Bool)(P:Params):Gl where
 glob n:=orE (lkS gT n) (lkS bT n)
 mth _ _:=none
 fn a:=(fnT b P).lookup a
 dfl _:=[]
 orc _ _:=none
def cf (b:Bool)(P:Params):Cf where
 G:=glB b P
 B:=zQ7
 T:=zTa
 D:=zEu b P
 kp a:=(fnT b P).any (fun p=>p.1==a) || zNc.any (fun p=>p.1==a)
 kf a:=(fnT b P).any (fun p=>p.1==a)
 ini a:=zNc.lookup a
 lt v:=if v== .ref 336 then some 332 else none
 isF _:=false
 F _ _ _:=none
 orcN:=0
end Mine
end
end
section
noncomputable section
namespace Mine
def nsF:List DictEntry->Str->Option Value
 | [],_=>none
 | e::r,n=>match e.key with
  | .str s _=>(match eqS s n with
   | true=>some e.val
   | false=>nsF r n)
  | _=>nsF r n
def zBs:List DictEntry->Bool
 | []=>true
 | e::r=>match e.key with
  | .str _ _=>zBs r
  | _=>false
def wW (o:Obj):Bool:=match o.data with
 | .dict _ _=>true
 | _=>false
theorem zFl:∀{l:List DictEntry},zBs l=true->∀e∈l,∃n t,e.key= .str n t
 | [],_,_,m=>by cases m
 | x::l,h,e,m=>by
  unfold zBs at h;split at h
  ·rename_i s t hk
   rcases List.mem_cons.mp m with rfl | m
   ·exact ⟨_,_,hk⟩
   ·exact zFl h e m
  ·cases h
theorem zMz (n:Str):∀(l:List DictEntry),(∀e∈l,∃n t,e.key= .str n t)->(l.find? fun e=>e.key.isStr n).map (·.val)=nsF l n
 | [],_=>rfl
 | e::l,h=>by
  obtain ⟨s,t,hk⟩:=h e (List.mem_cons_self ..);unfold nsF;rw [List.find?_cons,hk];dsimp only;have e1:Value.isStr (.str s t) n=eqS s n:=by rw [qT]; rfl
  rw [e1];cases eqS s n with
  | true=>rfl
  | false=>exact zMz n l fun e he=>h e (List.mem_cons_of_mem _ he)
theorem kns {K:Frag}{h:Heap}(hI:K.In h){a:Addr}{o:Obj}(e:K.lookup a=some o)(d:wW o=true)(k:zBs (yY o)=true):h.Ns a (nsF (yY o)):=by
 unfold wW at d;split at d
 ·rename_i es ep hd
  have hes:yY o=es.toList:=by unfold yY; rw [hd]
  have hk:StrKeys es:=fun x hx=>zFl k x (by rw [hes]; simpa using hx);refine ⟨o,es,ep,hI a o e,hd,hk,fun n=>?_⟩;rw [hes,<-zMz n es.toList (fun x hx=>hk x (by simpa using hx))];unfold nsFind findBy;obtain ⟨l⟩:=es;rw [List.find?_toArray]
 ·cases d
def zJg (es:List DictEntry):List (Str×Value)->Prop
 | []=>True
 | (n,v)::r=>nsF es n=some v/\zJg es r
def zJB (eg es:List DictEntry):List (Str×Value)->Prop
 | []=>True
 | (n,v)::r=>(nsF eg n=none/\nsF es n=some v)/\zJB eg es r
theorem zED {es:List DictEntry}:∀{l:List (Str×Value)},zJg es l->∀{n v},(n,v)∈l->nsF es n=some v
 | [],_,_,_,m=>by cases m
 | (_,_)::l,h,n,v,m=>by
  rcases List.mem_cons.mp m with e | m
  ·cases e; exact h.1
  ·exact zED h.2 m
theorem zEL {eg es:List DictEntry}:∀{l:List (Str×Value)},zJB eg es l->∀{n v},(n,v)∈l->nsF eg n=none/\nsF es n=some v
 | [],_,_,_,m=>by cases m
 | (_,_)::l,h,n,v,m=>by
  rcases List.mem_cons.mp m with e | m
  ·cases e; exact h.1
  ·exact zEL h.2 m
theorem zR1 {K:Frag}{og ob:Obj}(e1:K.lookup mainGlobals=some og)(d1:wW og=true)(k1:zBs (yY og)=true)(e2:K.lookup builtinsNs=some ob)(d2:wW ob=true)(k2:zBs (yY ob)=true)
  {gT bT:List (Str×Value)} (g:zJg (yY og) gT) (bb:zJB (yY og) (yY ob) bT) {G:Gl} (hG:∀n,G.glob n=orE (lkS gT n) (lkS bT n)):GlOK K G:=by
 refine ⟨fun h hI n v hv=>⟨_,kns hI e1 d1 k1,?_⟩⟩;rw [hG] at hv;rcases xU hv with hv | hv
 ·rw [qV] at hv
  exact .inl (zED g (mem_of_lookup hv))
 ·rw [qV] at hv
  have z:=zEL bb (mem_of_lookup hv);exact .inr ⟨z.1,_,kns hI e2 d2 k2,z.2⟩
theorem zPA {K:Frag}{o:Obj}(e1:K.lookup cStatics=some o)(d1:wW o=true)(k1:zBs (yY o)=true)(z:nsF (yY o) "sys.recursionlimit"=none):∀h,K.In h->h.NoLimit:=fun h hI=>⟨_,kns hI e1 d1 k1,z⟩
def fdAt (K:Frag)(a:Addr):Option FuncData:=match K.lookup a with
 | some o=>(match o.data with
  | .func fd=>some fd
  | _=>none)
 | none=>none
theorem zLl {K:Frag}{a:Addr}{fd:FuncData}(h:fdAt K a=some fd):∃o,K.lookup a=some o/\o.data= .func fd:=by
 unfold fdAt at h;split at h
 ·rename_i o ho
  split at h
  ·rename_i f hf
   cases h;exact ⟨o,ho,hf⟩
  ·cases h
 ·cases h
structure FnGood (K:Frag) (a:Addr) (fd:FuncData):Prop where
 obj:fdAt K a=some fd
 code:codeIn K fd.code fd.qualname=true
 co:fd.scope.isCoroutine=false
 gen:fd.scope.isGenerator=false
 kind:fd.scope.kind= .function
 gl:fd.globals=mainGlobals
 bi:fd.builtins=builtinsNs
 cl:fd.closure=[]
def zLo (K:Frag):List (Addr×FuncData)->Prop
 | []=>True
 | (a,fd)::r=>FnGood K a fd/\zLo K r
theorem zFk {K:Frag}:∀{l:List (Addr×FuncData)},zLo K l->∀{a fd},(a,fd)∈l->FnGood K a fd
 | [],_,_,_,m=>by cases m
 | (_,_)::l,h,n,v,m=>by
  rcases List.mem_cons.mp m with e | m
  ·cases e; exact h.1
  ·exact zFk h.2 m
end Mine
end
end
section
noncomputable section
namespace Mine
def zLK (o:Obj):Nat:=match o.data with
 | .dict _ n=>n
 | .set _ n _=>n
 | _=>0
def zPS:Value->Bool
 | .int _ _=>true
 | .str _ _=>true
 | _=>false
def zEI:List DictEntry->Bool
 | []=>true
 | e::r=>zPS e.val && zEI r
theorem zOU {ρ:List Addr}{h:Heap}{v:Value}(l:zPS v=true):VR ρ h (zKI v) v:=by
 cases v <;>first | exact ⟨_,rfl⟩ | cases l
theorem zFi:∀{l:List DictEntry},zEI l=true->∀e∈l,zPS e.val=true
 | [],_,_,m=>by cases m
 | x::l,h,e,m=>by
  unfold zEI at h;rw [Bool.and_eq_true] at h;rcases List.mem_cons.mp m with rfl | m
  ·exact h.1
  ·exact zFi h.2 e m
def zJj:List DictEntry->Bool
 | []=>true
 | e::r=>match e.key with
  | .int k _=>(match decide (e.hash=hashInt k) with | true=>zJj r | false=>false)
  | _=>false
theorem zFg:∀{l:List DictEntry},zJj l=true->∀e∈l,∃k t,e.key= .int k t/\e.hash=hashInt k
 | [],_,_,m=>by cases m
 | x::l,h,e,m=>by
  unfold zJj at h;split at h
  ·rename_i k t hk
   split at h
   ·rename_i hd
    rcases List.mem_cons.mp m with rfl | m
    ·exact ⟨k,t,hk,of_decide_eq_true hd⟩
    ·exact zFg h e m
   ·cases h
  ·cases h
theorem zPF (k:Str)(v:Value):isS k v=Value.isStrOf k v:=by
 cases v <;>first | rfl | exact qT _ _
theorem zLm (k:Int)(v:Value):isI k v=Value.isInt k v:=by
 cases v <;>rfl
section
variable {prog:Program} {w:World} {K:Frag} {a:Addr} {o:Obj}
theorem zJN {p q:DictEntry->Bool}{l:List DictEntry}(hl:zEI l=true)(e:∀x,p x=q x)(ρ:List Addr)(h:Heap):OR ρ h ((l.find? p).map fun e=>zKI e.val) ((l.find? q).map (·.val)):=by
 rw [show p=q from funext e];cases hf:l.find? q with
 | none=>exact trivial
 | some x=>exact zOU (zFi hl x (List.mem_of_find?_eq_some hf))
theorem zRe (hl:K.lookup a=some ⟨.type "dict",none,.dict (yY o).toArray (zLK o),#[]⟩)(hk:KeysLit w.params (yY o))(hv:zEI (yY o)=true)(k:Str):
  ∀h,K.In h->∃f,h.MapOf (strKind prog w) a f/\∀ρ h',OR ρ h' (((yY o).find? fun e=>isS k e.key).map fun e=>zKI e.val) (f k):=fun h X=>
 ⟨_,mapOf_K X hl (by simpa using hk),fun ρ h'=>by
  unfold findBy;rw [List.find?_toArray];exact zJN hv (fun x=>zPF k x.key) ρ h'⟩
theorem zSa (hl:K.lookup a=some ⟨.type "dict",none,.dict (yY o).toArray (zLK o),#[]⟩)(hk:zJj (yY o)=true)(hv:zEI (yY o)=true)(k:Int):
  ∀h,K.In h->∃f,h.MapOf (intKind prog w) a f/\∀ρ h',OR ρ h' (((yY o).find? fun e=>isI k e.key).map fun e=>zKI e.val) (f k):=fun h X=>
 ⟨_,⟨_,_,_,X _ _ hl,⟨rfl,rfl,rfl⟩,rfl,fun e he=>by
  obtain ⟨k,t,h1,h2⟩:=zFg hk e (by simpa using he);exact ⟨k,by rw [h1]; simp [intKind,Value.isInt],h2⟩,fun _=>rfl⟩,fun ρ h'=>by
  unfold findBy;rw [List.find?_toArray];exact zJN hv (fun x=>zLm k x.key) ρ h'⟩
def zJW:List (Int×Value)->Bool
 | []=>true
 | e::r=>match e.2 with
  | .int k _=>(match decide (e.1=hashInt k) with | true=>zJW r | false=>false)
  | _=>false
theorem zE6:∀{l:List (Int×Value)},zJW l=true->∀e∈l,∃k t,e.2= .int k t/\e.1=hashInt k
 | [],_,_,m=>by cases m
 | x::l,h,e,m=>by
  unfold zJW at h;split at h
  ·rename_i k t hk
   split at h
   ·rename_i hd
    rcases List.mem_cons.mp m with rfl | m
    ·exact ⟨k,t,hk,of_decide_eq_true hd⟩
    ·exact zE6 h e m
   ·cases h
  ·cases h
def zTT (o:Obj):Option SetTable:=match o.data with
 | .set _ _ t=>some t
 | _=>none
theorem zRp {t:SetTable}(hl:K.lookup a=some ⟨.type "set",none,.set (zGw o).toArray (zLK o) t,#[]⟩)(hk:zJW (zGw o)=true)(hz:(decide ((zGw o).length < scanBound) && t.fits (zGw o).length)=true)(k:Int):
  ∀h,K.In h->∃S n,h.SetOf (intKind prog w) a S n/\S k=(zGw o).any fun e=>isI k e.2:=fun h X=>by
 rw [Bool.and_eq_true,decide_eq_true_eq] at hz;refine ⟨fun k=>(zGw o).any fun e=>isI k e.2,(zGw o).length,⟨_,_,_,t,X _ _ hl,⟨rfl,rfl,rfl⟩,rfl,fun e he=>?_,fun k=>?_,by simpa using hz.1,by simpa using hz.2,by simp⟩,rfl⟩
 ·obtain ⟨k,t,h1,h2⟩:=zE6 hk e (by simpa using he)
  exact ⟨⟨k,by rw [h1]; simp [intKind,Value.isInt],h2⟩,by rw [h1]; rfl⟩
 ·simp only [List.any_eq_true,zLm]
  exact Iff.rfl
def zDB (K:Frag)(C:Addr):List (Str×Option Addr)->Prop
 | []=>True
 | (n,some f)::r=>clsFn K C n f=true/\zDB K C r
 | (n,none)::r=>clsNone K C n=true/\zDB K C r
def zCt (K:Frag):List (Addr×List (Str×Option Addr))->Prop
 | []=>True
 | (C,l)::r=>zDB K C l/\zCt K r
theorem qW {C:Addr}:∀{l:List (Str×Option Addr)},zDB K C l->(∀n f,(n,some f)∈l->clsFn K C n f=true)/\(∀n,(n,none)∈l->clsNone K C n=true)
 | [],_=>⟨(fun _ _ m=>by cases m),(fun _ m=>by cases m)⟩
 | (x,some f)::l,h=>⟨fun n g m=>by
   rcases List.mem_cons.mp m with e | m
   ·cases e; exact h.1
   ·exact (qW h.2).1 n g m,fun n m=>by
   rcases List.mem_cons.mp m with e | m
   ·cases e
   ·exact (qW h.2).2 n m⟩
 | (x,none)::l,h=>⟨fun n g m=>by
   rcases List.mem_cons.mp m with e | m
   ·cases e
   ·exact (qW h.2).1 n g m,fun n m=>by
   rcases List.mem_cons.mp m with e | m
   ·cases e; exact h.1
   ·exact (qW h.2).2 n m⟩
theorem vV:∀{L:List (Addr×List (Str×Option Addr))},zCt K L->∀{C l},(C,l)∈L->zDB K C l
 | [],_,_,_,m=>by cases m
 | (_,_)::L,h,C,l,m=>by
  rcases List.mem_cons.mp m with e | m
  ·cases e; exact h.1
  ·exact vV h.2 m
theorem kN {α:Type}{l:List (Addr×α)}{a:Addr}{x:α}(h:l.lookup a=some x):(a,x)∈l:=by
 induction l with
 | nil=>cases h
 | cons p r ih=>
  obtain ⟨k,v⟩:=p;rw [List.lookup_cons] at h;split at h
  ·rename_i hk
   cases h;rw [beq_iff_eq] at hk;subst hk;exact List.mem_cons_self ..
  ·exact List.mem_cons_of_mem _ (ih h)
theorem zOK {L:List (Addr×List (Str×Option Addr))}(H:zCt K L){T:ClsT}(hT:∀C n,T C n=(L.lookup C).bind fun l=>lkS l n):ClsOK K T:=by
 constructor
 ·intro C n h
  rw [hT] at h;obtain ⟨l,hl,h⟩:=Option.bind_eq_some_iff.mp h;rw [qV] at h;exact (qW (vV H (kN hl))).2 n (mem_of_lookup h)
 ·intro C n f h
  rw [hT] at h;obtain ⟨l,hl,h⟩:=Option.bind_eq_some_iff.mp h;rw [qV] at h;exact (qW (vV H (kN hl))).1 n f (mem_of_lookup h)
def zJD (K:Frag):List (Addr×FuncData)->Prop
 | []=>True
 | (a,_)::r=>(keepIn K (.ref a)=true/\fnIn K a=true)/\zJD K r
theorem zBR:∀{l:List (Addr×FuncData)},zJD K l->∀p∈l,keepIn K (.ref p.1)=true/\fnIn K p.1=true
 | [],_,_,m=>by cases m
 | (_,_)::l,h,p,m=>by
  rcases List.mem_cons.mp m with e | m
  ·cases e; exact h.1
  ·exact zBR h.2 p m
def zHm (K:Frag):List (Addr×Addr)->Prop
 | []=>True
 | (C,f)::r=>(makesIn K C=true/\findIn K (.ref C) "__init__"=some (some (.ref f))/\typeIn K (.ref f)=some (.type "function")/\keepIn K (.ref C)=true)/\zHm K r
theorem zBT:∀{l:List (Addr×Addr)},zHm K l->∀p∈l,makesIn K p.1=true/\findIn K (.ref p.1) "__init__"=some (some (.ref p.2))/\typeIn K (.ref p.2)=some (.type "function")/\keepIn K (.ref p.1)=true
 | [],_,_,m=>by cases m
 | (_,_)::l,h,p,m=>by
  rcases List.mem_cons.mp m with e | m
  ·cases e; exact h.1
  ·exact zBT h.2 p m
theorem zM7 {F:List (Addr×FuncData)}{L:List (Addr×Addr)}(H:zJD K F)(H2:zHm K L):KeepOK K (fun a=>F.any (fun p=>p.1==a) || L.any (fun p=>p.1==a)) (fun a=>F.any (fun p=>p.1==a)):=by
 constructor
 ·intro a h
  rw [Bool.or_eq_true,List.any_eq_true,List.any_eq_true] at h;rcases h with ⟨p,hp,e⟩ | ⟨p,hp,e⟩
  ·rw [beq_iff_eq] at e; subst e; exact (zBR H p hp).1
  ·rw [beq_iff_eq] at e; subst e; exact (zBT H2 p hp).2.2.2
 ·intro a h
  rw [List.any_eq_true] at h;obtain ⟨p,hp,e⟩:=h;rw [beq_iff_eq] at e; subst e; exact (zBR H p hp).2
theorem zR4 {L:List (Addr×Addr)}(H2:zHm K L):MakeOK K (fun a=>L.lookup a):=⟨fun C f h=>by
 have z:=zBT H2 _ (kN h);exact ⟨z.1,z.2.1,z.2.2.1⟩⟩
end
end Mine
end
end
section
noncomputable section
namespace Mine
def zD4 (o:Obj):Array Value:=match o.data with
 | .fields vs=>vs
 | _=>#[]
def isF (o:Obj):Bool:=match o.data with
 | .fields _=>true
 | _=>false
def zNM:Value->Bool
 | .str _ _=>true
 | _=>false
def zMB:Value->Bool
 | .int _ _=>true
 | _=>false
def zNT:Value->Bool
 | .bool _=>true
 | _=>false
theorem stV {v:Value}(h:zNM v=true):∃s t,v= .str s t:=by cases v <;>first | exact ⟨_,_,rfl⟩ | cases h
theorem inV {v:Value}(h:zMB v=true):∃s t,v= .int s t:=by cases v <;>first | exact ⟨_,_,rfl⟩ | cases h
theorem boV {v:Value}(h:zNT v=true):∃s,v= .bool s:=by cases v <;>first | exact ⟨_,rfl⟩ | cases h
def zFJ (o:Obj):Bool:=isF o && zNM ((zD4 o).getD 18 .none) && zMB ((zD4 o).getD 7 .none) && zNT ((zD4 o).getD 9 .none) && zMB ((zD4 o).getD 10 .none)
theorem zRL {o:Obj}(h:isF o=true):o.data= .fields (zD4 o):=by
 unfold isF at h;unfold zD4;split at h
 ·rename_i vs hd
  rw [hd]
 ·cases h
theorem zKU {K:Frag}{h:Heap}(X:K.In h){c P:Addr}{o:Obj}(e:K.lookup c=some o)(hc:o.cls= .type "code")(hB:zFJ o=true)(h11:(zD4 o)[11]? =some (.ref P))(hne:c≠P):CodeHd h c P:=by
 unfold zFJ at hB;simp only [Bool.and_eq_true] at hB;obtain ⟨⟨⟨⟨b1,b2⟩,b3⟩,b4⟩,b5⟩:=hB;obtain ⟨_,_,h18⟩:=stV b2;obtain ⟨_,_,h7⟩:=inV b3;obtain ⟨_,h9⟩:=boV b4;obtain ⟨_,_,h10⟩:=inV b5;have h11':(zD4 o).getD 11 .none= .ref P:=by rw [Array.getD_eq_getD_getElem?,h11]; rfl
 exact ⟨o,zD4 o,_,_,_,_,_,_,_,X _ _ e,hc,zRL b1,h11,h11',h18,h7,h9,h10,hne⟩
theorem zOO {K:Frag}{c P bm:Addr}{o og ob:Obj}(e:K.lookup c=some o)(hc:o.cls= .type "code")(hB:zFJ o=true)(h11:(zD4 o)[11]? =some (.ref P))(hne:c≠P)
  (e1:K.lookup mainGlobals=some og) (d1:wW og=true) (k1:zBs (yY og)=true) (hb:nsF (yY og) "__builtins__"=some (.ref bm)) (n1:bm≠builtinsNs) (n2:bm≠mainGlobals) (n3:bm≠P)
  (e2:K.lookup bm=some ob) (c2:ob.cls= .type "module") (c3:ob.dict=some builtinsNs) (c4:ob.data= .plain) (n4:mainGlobals≠P):LamOK K (fun v=>if v== .ref c then some P else none):=by
 refine ⟨fun v p h=>?_⟩;split at h
 ·rename_i hv
  cases h;have hv:v= .ref c:=by simpa using hv
  refine ⟨c,hv,fun h X=>⟨zKU X e hc hB h11 hne,_,kns X e1 d1 k1,⟨bm,ob,hb,n1,n2,n3,X _ _ e2,c2,c3,c4⟩,n4⟩⟩
 ·cases h
end Mine
end
end
section
noncomputable section
namespace Mine
def KX (b:Bool)(P:Params)(X:Frag):Frag:=KL b P ++ X
theorem zRW (b:Bool)(P:Params):zJg (yY (zIn b P)) gT:=by
 unfold gT
 repeat (first | exact trivial | refine And.intro (by kernel_rfl) ?_)
theorem zRY (b:Bool)(P:Params):zJB (yY (zIn b P)) (yY (top.o_1 P)) bT:=by
 unfold bT
 repeat (first | exact trivial | refine And.intro (And.intro (by kernel_rfl) (by kernel_rfl)) ?_)
theorem gl1 (b:Bool)(P:Params)(X:Frag):GlOK (KX b P X) (glB b P):=
 zR1 (og:=zIn b P) (ob:=top.o_1 P) (by kernel_rfl) (by kernel_rfl) (by kernel_rfl) (by kernel_rfl) (by kernel_rfl) (by kernel_rfl) (zRW b P) (zRY b P) (fun _=>rfl)
theorem zTq (b:Bool)(P:Params)(X:Frag):∀h,(KX b P X).In h->h.NoLimit:=zPA (o:=top.o_3 P) (by kernel_rfl) (by kernel_rfl) (by kernel_rfl) (by kernel_rfl)
theorem fn1 (b:Bool)(P:Params)(X:Frag):zLo (KX b P X) (fnT b P):=by
 unfold fnT
 repeat (first | exact trivial | refine And.intro ⟨by kernel_rfl,by kernel_rfl,by kernel_rfl,by kernel_rfl,by kernel_rfl,by kernel_rfl,by kernel_rfl,by kernel_rfl⟩ ?_)
theorem zSV (b:Bool)(P:Params)(X:Frag):zCt (KX b P X) zOk:=by
 unfold zOk
 repeat (first | exact trivial | refine And.intro (by kernel_rfl) ?_ | refine And.intro ?_ ?_)
theorem kp1 (b:Bool)(P:Params)(X:Frag):zJD (KX b P X) (fnT b P):=by
 unfold fnT
 repeat (first | exact trivial | refine And.intro ⟨by kernel_rfl,by kernel_rfl⟩ ?_)
theorem mk1 (b:Bool)(P:Params)(X:Frag):zHm (KX b P X) zNc:=by
 unfold zNc
 repeat (first | exact trivial | refine And.intro ⟨by kernel_rfl,by kernel_rfl,by kernel_rfl,by kernel_rfl⟩ ?_)
theorem zRj (b:Bool)(P:Params):KeysLit P (yY (uG b P)):=by
 with_unfolding_all exact (by repeat (first | exact trivial | refine And.intro ⟨_,_,rfl,rfl⟩ ?_))
theorem zSb {prog:Program}{w:World}(b:Bool)(X:Frag):TabsOK prog w (KX b w.params X) (zEu b w.params):=by
 constructor
 ·intro a k r h
  simp only [zEu] at h;split at h
  ·rename_i ha
   rw [beq_iff_eq] at ha; subst ha;cases h;exact ⟨rfl,zRe (o:=uG b w.params) (by kernel_rfl) (zRj b w.params) (by kernel_rfl) k⟩
  ·cases h
 ·intro a k r h
  simp only [zEu] at h;split at h
  ·rename_i ha
   rw [beq_iff_eq] at ha; subst ha;cases h;exact ⟨rfl,zSa (o:=xO b w.params) (by kernel_rfl) (by kernel_rfl) (by kernel_rfl) k⟩
  ·cases h
 ·intro a k r h
  simp only [zEu] at h;split at h
  ·rename_i ha
   rw [beq_iff_eq] at ha; subst ha;cases h;exact zRp (o:=xB b w.params) (t:=((zTT (xB b w.params)).getD default)) (by kernel_rfl) (by kernel_rfl) (by kernel_rfl) k
  ·cases h
 ·intro a h
  simp only [zEu,Bool.or_eq_true,beq_iff_eq] at h;rcases h with rfl | rfl
  ·exact ⟨(yY (uG b w.params)).toArray,zLK (uG b w.params),by kernel_rfl⟩
  ·exact ⟨(yY (xO b w.params)).toArray,zLK (xO b w.params),by kernel_rfl⟩
 ·intro a c h
  simp only [zEu] at h;split at h
  ·rename_i ha
   rw [beq_iff_eq] at ha; subst ha;cases h
   kernel_rfl
  ·split at h
   ·rename_i ha
    rw [beq_iff_eq] at ha; subst ha;cases h
    kernel_rfl
   ·cases h
end Mine
end
end
section
noncomputable section
namespace Mine
def zLc (n:Nat):List Value:=List.replicate n .none
def zLs (K:Frag)(fd:FuncData):Sh->Prop
 | .pos names dfl=>(∀v∈dfl,v=V.none)/\∀S xs,xs.length<=names.length->names.length<=xs.length + dfl.length->peek K S (bindArgs fd ⟨xs,[]⟩)=some (names.zip (xs ++ zLc (names.length - xs.length)))
 | .kwo names x=>∀S xs v,xs.length=names.length->peek K S (bindArgs fd ⟨xs,[(x,v)]⟩)=some (names.zip xs ++ [(x,v)])
 | .star names x=>∀xs,xs.length=names.length->bindArgs fd ⟨xs,[]⟩=(do let d <-alloc {cls:= .type "dict",data:= .dict #[]}; pure (names.zip xs ++ [(x,.ref d)]))
def zI3 (K:Frag):List (Addr×FuncData)->List (Addr×Sh)->Prop
 | (a,fd)::l,(a',sh)::l'=>a=a'/\zLs K fd sh/\zI3 K l l'
 | [],[]=>True
 | _,_=>False
theorem zFc {K:Frag}:∀{l:List (Addr×FuncData)} {l':List (Addr×Sh)},zI3 K l l'->∀{a fd sh},l.lookup a=some fd->l'.lookup a=some sh->zLs K fd sh
 | [],[],_,_,_,_,e,_=>by cases e
 | [],_::_,h,_,_,_,_,_=>h.elim
 | _::_,[],h,_,_,_,_,_=>h.elim
 | (x,fd')::l,(y,sh')::l',h,a,fd,sh,e,e'=>by
  obtain ⟨rfl,g,h⟩:=h;rw [List.lookup_cons] at e e';cases hx:a==x with
  | true=>
   rw [hx] at e e';cases e; cases e'; exact g
  | false=>
   rw [hx] at e e';exact zFc h e e'
theorem vC {ρ:List Addr}{h:Heap}:∀{names:List Str} {l:List V} {xs:List Value},VRs ρ h l xs->BindsR ρ h (names.zip l) (names.zip xs)
 | [],l,xs,_=>by simp [BindsR]
 | n::ns,[],xs,r=>by
  have e:xs=[]:=r;subst e;rfl
 | n::ns,v::l,xs,r=>by
  unfold VRs at r;obtain ⟨y,ys,rfl,ry,r⟩:=r;exact ⟨y,_,rfl,ry,vC r⟩
theorem zAl {ρ:List Addr}{h:Heap}:∀{k k':List (Str×V)} {l l':List (Str×Value)},BindsR ρ h k l->BindsR ρ h k' l'->BindsR ρ h (k ++ k') (l ++ l')
 | [],_,l,_,e,r=>by rw [show l=[] from e]; exact r
 | (_,_)::_,_,_,_,⟨y,l',e,a,b⟩,r=>by subst e; exact ⟨y,_,rfl,a,zAl b r⟩
theorem zEN {ρ:List Addr}{h:Heap}:∀{l:List V},(∀v∈l,v=V.none)->VRs ρ h l (zLc l.length)
 | [],_=>rfl
 | v::l,z=>by
  have:=z v (List.mem_cons_self ..); subst this;exact ⟨.none,zLc l.length,rfl,rfl,zEN fun v hv=>z v (List.mem_cons_of_mem _ hv)⟩
theorem zNe {prog:Program}{w:World}{K:Frag}{l:List (Addr×FuncData)}(A1:zI3 K l shT):∀a fd args kw b σ σ₁,l.lookup a=some fd->zQ7 a args kw σ=some (b,σ₁)->∀A ρ s xs xk,Inv K ρ σ s->VRs ρ s.heap args xs->BindsR ρ s.heap kw xk->
  ∀(Q:List (Str×Value)->Shared->Prop) (E:Value->Shared->Prop),(∀ρ' s' l,Inv K ρ' σ₁ s'->Ext ρ s ρ' s'->BindsR ρ' s'.heap b l->Q l s')->wpAny (model prog w) A (bindArgs fd ⟨xs,xk⟩) Q E s:=by
 intro a fd args kw b σ σ₁ hf hB A ρ s xs xk I rs rk Q E q;unfold zQ7 at hB;obtain ⟨sh,hs,hB⟩:=Option.bind_eq_some_iff.mp hB;have G:=zFc A1 hf hs;have hl:=rs.length;unfold shB at hB;split at hB
 ·rename_i names dfl _
  have rk:xk=[]:=rk;subst rk;split at hB
  ·rename_i hc
   cases hB;simp only [Bool.and_eq_true,decide_eq_true_eq] at hc;obtain ⟨g1,g2⟩:=G;refine (kp_binds I.stat (fun S=>g2 S xs (by omega) (by omega))) _ _ _ _ ?_;refine q ρ s _ I (.refl _ _) (vC (rs.append ?_));have e:names.length - xs.length=(dfl.drop (args.length + dfl.length - names.length)).length:=by rw [List.length_drop]; omega
   rw [e];exact zEN fun v hv=>g1 v (List.mem_of_mem_drop hv)
  ·cases hB
 ·rename_i names x k v _
  split at hB
  ·rename_i hc
   cases hB;rw [Bool.and_eq_true,beq_iff_eq,qT,beq_iff_eq] at hc;obtain ⟨c1,rfl⟩:=hc;obtain ⟨y,l',rfl,ry,rl⟩:=rk;have rl:l'=[]:=rl;subst rl;refine (kp_binds I.stat (fun S=>G S xs y (by omega))) _ _ _ _ ?_;exact q ρ s _ I (.refl _ _) (zAl (vC rs) ⟨y,[],rfl,ry,rfl⟩)
  ·cases hB
 ·rename_i names x _
  have rk:xk=[]:=rk;subst rk;split at hB
  ·rename_i hc
   cases hB;rw [beq_iff_eq] at hc;rw [G xs (by omega)];have x:=I.alloc (o:={cls:= .type "dict",data:= .dict #[]}) (ob:= .dict []) (tk:=s.toks) (.inr trivial) ⟨[],0,Heap.get?_push_size _ rfl,rfl⟩;refine wpAny_bind (wpAny_alloc (wpAny_pure (q _ _ _ x.1 x.2 ?_)));refine zAl (vC (rs.ext x.2)) ⟨_,[],rfl,⟨s.heap.objs.size,?_,rfl⟩,rfl⟩;rw [<-I.len,List.getElem?_append_right (Nat.le_refl _),Nat.sub_self]; rfl
  ·cases hB
 ·cases hB
theorem bd1 (b:Bool)(P:Params)(X:Frag):zI3 (KX b P X) (fnT b P) shT:=by
  unfold fnT shT
  repeat (first | exact trivial | refine And.intro rfl (And.comm.1 (And.intro ?_ ?_)))
  all_goals first
    | (refine ⟨fun v hv=>by first | (cases hv; done) | simpa using hv,?_⟩
       intro S xs h1 h2;simp only [List.length_cons,List.length_nil] at h1 h2;rcases xs with _ | ⟨x,_ | ⟨y,_ | ⟨z,_ | ⟨u,xs⟩⟩⟩⟩ <;>first | (simp only [List.length_cons,List.length_nil] at h1 h2; exact absurd h1 (by omega)) | (simp only [List.length_cons,List.length_nil] at h1 h2; exact absurd h2 (by omega)) | kernel_rfl)
    | (intro S xs v h
       simp only [List.length_cons,List.length_nil] at h;rcases xs with _ | ⟨x,_ | ⟨y,_ | ⟨z,_ | ⟨u,xs⟩⟩⟩⟩ <;>first | (simp only [List.length_cons,List.length_nil] at h; exact absurd h (by omega)) | kernel_rfl)
    | (intro xs h
       simp only [List.length_cons,List.length_nil] at h;rcases xs with _ | ⟨x,_ | ⟨y,_ | ⟨z,_ | ⟨u,xs⟩⟩⟩⟩ <;>first | (simp only [List.length_cons,List.length_nil] at h; exact absurd h (by omega)) | kernel_rfl)
theorem zSx (b:Bool)(P:Params)(X:Frag):LamOK (KX b P X) (fun v=>if v== .ref 336 then some 332 else none):=
 zOO (c:=336) (P:=332) (bm:=4) (o:=zAC b P) (og:=zIn b P) (ob:=top.o_5 P) (by kernel_rfl) (by kernel_rfl) (by kernel_rfl) (by kernel_rfl) (by decide) (by kernel_rfl) (by kernel_rfl) (by kernel_rfl) (by kernel_rfl) (by decide) (by decide) (by decide) (by kernel_rfl) (by kernel_rfl) (by kernel_rfl) (by kernel_rfl) (by decide)
def cfF (b:Bool)(P:Params)(isF:Addr->Bool)(F:Addr->List V->Sto->Option (V×Sto))(n:Nat):Cf:={cf b P with isF:=isF,F:=F,orcN:=n}
theorem zR8 {prog:Program}{w:World}{b:Bool}{iF:Addr->Bool}{F:Addr->List V->Sto->Option (V×Sto)}{n:Nat}{X:Frag}(hc:∀a,iF a=true->ConOK prog w (KX b w.params X) n a (F a)):CfOK prog w (KX b w.params X) (cfF b w.params iF F n) where
 G:=gl1 b w.params X
 F:=⟨fun a fd h=>by
  have g:=zFk (fn1 b w.params X) (kN h);exact ⟨zLl g.obj,g.code,g.co,g.gen,g.kind,g.gl,g.bi,g.cl⟩,zTq b w.params X,zNe (bd1 b w.params X)⟩
 T:=zOK (zSV b w.params X) fun _ _=>rfl
 D:=zSb b X
 keep:=zM7 (kp1 b w.params X) (mk1 b w.params X)
 ini:=zR4 (mk1 b w.params X)
 lam:=zSx b w.params X
 sm:=by kernel_rfl
 con:=hc
end Mine
end
end
section
noncomputable section
namespace Mine
def inH (h:Heap):List (Addr×Obj)->Prop
 | []=>True
 | (a,o)::r=>h.get? a=some o/\inH h r
theorem zJz {h:Heap}:∀{l:List (Addr×Obj)},inH h l->∀{a o},(a,o)∈l->h.get? a=some o
 | [],_,_,_,m=>by cases m
 | (_,_)::l,x,a,o,m=>by
  rcases List.mem_cons.mp m with e | m
  ·cases e; exact x.1
  ·exact zJz x.2 m
theorem zRw (P:Params):inH (H1 P) (KL (P.followText "set-order") P):=by
 unfold KL
 repeat (first | exact trivial | refine And.intro (by kernel_rfl) ?_)
theorem zPD {P:Params}{a:Addr}{o:Obj}(e:List.lookup a (KL (P.followText "set-order") P)=some o):(H1 P).get? a=some o:=zJz (zRw P) (kN e)
def zNl (v:Value):Bool:=match v with
 | .type t=>!(t=="list")
 | _=>true
theorem zRy (b:Bool)(P:Params):(KL b P).all (fun p=>zNl p.2.cls)=true:=by kernel_rfl
theorem zPY (b:Bool)(P:Params):List.lookup 332 (KL b P)=none:=by kernel_rfl
theorem zOb (P:Params):(H1 P).get? 332=some {cls:= .none,data:= .fields #[]}:=by kernel_rfl
theorem zPW (b:Bool)(P:Params):∃og,List.lookup mainGlobals (KL b P)=some og/\wW og=true/\zBs (yY og)=true/\nsF (yY og) "law"=some (.ref 357):=⟨zIn b P,by kernel_rfl,by kernel_rfl,by kernel_rfl,by kernel_rfl⟩
theorem zQI (b:Bool)(P:Params):List.lookup 336 (KL b P)=some (zAC b P)/\(zAC b P).cls= .type "code"/\isF (zAC b P)=true/\(zD4 (zAC b P))[11]? =some (.ref 332):=⟨by kernel_rfl,by kernel_rfl,by kernel_rfl,by kernel_rfl⟩
theorem zJM:∀{xs:List WData},WShape.hasItems [] xs .int=true->∃l:List Int,xs=l.map .int
 | [],_=>⟨[],rfl⟩
 | x::xs,h=>by
  unfold WShape.hasItems at h;rw [Bool.and_eq_true] at h;obtain ⟨l,rfl⟩:=zJM h.2;have h1:=h.1;cases x <;>first | exact ⟨_::l,rfl⟩ | (simp [WShape.has,WShape.arms] at h1)
theorem zGs {cl:Str->Option Addr}{P:Params}{ord:List DictEntry->List DictEntry}:∀{l:List Int} {s s':Shared} {vs:List Value},layAllW [] cl P ord (l.map .int) s=some (vs,s')->s'.heap=s.heap/\∀ρ h,VRs ρ h (l.map V.int) vs
 | [],s,s',vs,h=>by
  simp only [List.map_nil,layAllW] at h;cases h;exact ⟨rfl,fun _ _=>rfl⟩
 | i::l,s,s',vs,h=>by
  simp only [List.map_cons,layAllW,layW] at h;split at h
  ·rename_i r hr
   cases h;obtain ⟨e,z⟩:=zGs hr;exact ⟨e,fun ρ h=>⟨_,_,rfl,⟨_,rfl⟩,z ρ h⟩⟩
  ·cases h
abbrev rw1:=PySem.Challenge.rw_sh0076_01
theorem zIi {d:DefRec}{kwd:List (Str×Expr)}(hdef:defOf qv rw1.row.name=some (d,kwd))(hp:pw.theDef rw1.row.name=some (d.params,d.body,d.scope))(hk:kwWritten? d.params.kwonlyargs d.params.kw_defaults=some kwd)
  (said:rw1.row.wellSaid=true) (hw:rw1.row.toRowW.promised)
  (call:∀(w:World) (s₀ s₁:Shared) (mg:Str->Option Value),s₁.heap.Ns mainGlobals mg->Hk.says w s₁.heap->∀a,mg rw1.row.name=some (.ref a)->∀(args:List WData) (vs:List Value) (as:List Addr),
   rw1.row.claim.pre args=true->WData.layableAll args=true->Laid rw1.row.records w s₀ s₁ args vs as->
   wpAny (model pw w) callerA (PySem.call (.ref a) vs) (fun v s'=>GoodWG rw1.row.claim (classAt s₀.heap) (ExcName.means s₀.heap) args s₁ (.ok (.ret v)) s')
    (fun e s'=>GoodWG rw1.row.claim (classAt s₀.heap) (ExcName.means s₀.heap) args s₁ (.error e) s') s₁):rw1.row.Holds:=by
 have ok:(chainsOk qv && opensWell rw1.row.prog && (frees rw1.row.toRowW && rw1.row.within.isEmpty))=true:=by decide +kernel
 refine ⟨said,hw,open_anyG (r:=rw1.row.toRowW) (run:=fun f vs=>PySem.call f vs) (tree:=fun vs=>do match <-nsGet mainNs rw1.row.name with
   | some f=>do ret (<-PySem.call f vs)
   | none=>unsupported "claim.caller:no-such-global") qC Hk.of Hk.keeps (fun s e=>xl_of s (Bool.and_eq_true_iff.mp e).1) XL.keeps (fun s e=>recFacts_of (Bool.and_eq_true_iff.mp e).2) rfl ok ⟨rfl,rfl,rfl,rfl,rfl,by decide +kernel⟩ hw
  (fun vs w s mg f Q E hg hf h=>wpAny_bind (wpAny_nsGet hg (by rw [hf]; exact wpAny_bind (wpAny_mono h (fun _ _ x=>wpAny_pure x) fun _ _ x=>x))))
  (fun w s hg G n hn=>?_) fun w s₀ s₁ mg mb G Y args vs as hpre hlay L low=>?_⟩
 ·obtain rfl:n=rw1.row.name:=by split at hn <;>simp_all
  exact pinned_of_view hg G hdef hp hk
 ·obtain ⟨a,o,pm,cd,doc,dV,kV,h1,h2,h3,h4,h5⟩:=G.fn hdef
  exact ⟨.ref a,h1,call w s₀ s₁ mg G.T.g Y a (defOf_name hdef▸h1) args vs as hpre hlay L⟩
theorem zP1 {h:Heap}{a:Addr}{m m':Str->Option Value}(x:h.Ns a m)(y:h.Ns a m'):m=m':=by
 obtain ⟨o,es,ep,e1,e2,_,e4⟩:=x;obtain ⟨o',es',ep',f1,f2,_,f4⟩:=y;rw [e1] at f1; cases f1;rw [e2] at f2; cases f2
 funext n
 rw [<-e4,<-f4]
def zEp (la:Addr)(vs:Array Value):Frag:=[(la,⟨.type "list",none,.seq vs 0,#[]⟩)]
theorem zGW (H:∀(w:World) (l:List Int) (la:Addr) (vs:Array Value),l.length<=63->(∀ρ h,VRs ρ h (l.map V.int) vs.toList)->List.lookup la (KL (bO w) w.params)=none->∃iF F n N m σ',(∀a,iF a=true->ConOK pw w (KX (bO w) w.params (zEp la vs)) n a (F a))/\Rm callerA (2 * N + 5)/\
  (ev (cfF (bO w) w.params iF F n) N).c (.val (.ref 357)) [.val (.ref la)] [] [.ctab 332 false]=some (.bool true,σ')/\σ'[0]? =some (.ctab 332 m)):PySem.Challenge.rw_sh0076_01.Holds:=by
 w_on
 o_law
 refine zIi (by rfl) (by rfl) (by rfl) (by assumption) ⟨[.list []],by decide +kernel,by decide +kernel⟩ ?_;intro w s₀ s₁ mg hg Y a hm args vs as hpre hlay L;have Kin:(KL (bO w) w.params).In s₁.heap:=fun a o e=>Y a o (zPD e);obtain ⟨og,g1,g2,g3,g4⟩:=zPW (bO w) w.params;have ha:a=357:=by
  have e:=zP1 hg (kns Kin g1 g2 g3);rw [e] at hm;have hm:nsF (yY og) "law"=some (.ref a):=hm;rw [g4] at hm;cases hm; rfl
 subst ha;obtain ⟨p1,p2⟩:=pre_splitW hpre;obtain ⟨x,r,rfl,p3,p4⟩:=hasAllW_cons p1;have hr:r=[]:=by cases r with
  | nil=>rfl
  | cons=>simp [WShape.hasAll] at p4
 subst hr;obtain ⟨l,rfl⟩:∃l:List Int,x= .list (l.map .int):=by
  cases x <;>first | (simp [WShape.has,WShape.arms] at p3; done) | skip
  rename_i xs;have p3:WShape.hasItems [] xs .int=true:=by
   have z:=p3;simp only [WShape.has,WShape.arms,List.any_cons,List.any_nil,Bool.or_false] at z;exact z
  obtain ⟨l,rfl⟩:=zJM p3;exact ⟨l,rfl⟩
 have hlen:l.length<=63:=by
  have p2:WTm.holds [] (.and (.not (.lt (.lit (.int 63)) (.len (.arg 0)))) (.lit (.bool true))) {args:=[.list (l.map .int)]}=true:=p2;have e:WTm.value [] (.and (.not (.lt (.lit (.int 63)) (.len (.arg 0)))) (.lit (.bool true))) {args:=[.list (l.map .int)]}=some (.bool (!decide ((63:Int) < ((l.map WData.int).length:Int)))):=by
   have z:WTm.value [] (.lt (.lit (.int 63)) (.len (.arg 0))) {args:=[.list (l.map .int)]}=some (.bool (decide ((63:Int) < ((l.map WData.int).length:Int)))):=rfl;have z2:WTm.value [] (.not (.lt (.lit (.int 63)) (.len (.arg 0)))) {args:=[.list (l.map .int)]}=some (.bool (!decide ((63:Int) < ((l.map WData.int).length:Int)))):=by
    unfold WTm.value; rw [z]
   unfold WTm.value;rw [z2];cases decide ((63:Int) < ((l.map WData.int).length:Int)) <;>rfl
  unfold WTm.holds at p2;rw [e,List.length_map] at p2
  by_cases hz:(63:Int) < (l.length:Int)
  ·rw [decide_eq_true hz] at p2
   cases p2
  ·omega
 obtain ⟨ord,_,hl⟩:=L.laid;have hl:layAllW [] (classAt s₀.heap) w.params ord [.list (l.map .int)] s₀=some (vs,s₁):=hl;simp only [layAllW,layW] at hl;cases hz:layAllW [] (classAt s₀.heap) w.params ord (l.map .int) s₀ with
 | none=>rw [hz] at hl; cases hl
 | some r=>
 rw [hz] at hl;obtain ⟨r1,s'⟩:=r;cases hl;obtain ⟨e1,e2⟩:=zGs hz;have c0:(s'.heap.push ⟨.type "list",none,.seq r1.toArray 0,#[]⟩).get? s'.heap.objs.size=some ⟨.type "list",none,.seq r1.toArray 0,#[]⟩:=Heap.get?_push_size _ rfl;have y332:=Y _ _ (zOb w.params);have c1:s'.heap.objs.size≠332:=fun e=>by
  have y332:(s'.heap.push ⟨.type "list",none,.seq r1.toArray 0,#[]⟩).get? 332=_:=y332;rw [e] at c0;rw [c0] at y332;cases y332
 obtain ⟨iF,F,n,N,m,σ',hc,hR,he,h0⟩:=H w l s'.heap.objs.size r1.toArray hlen (fun ρ h=>by simpa using e2 ρ h) (by
  cases hk:List.lookup s'.heap.objs.size (KL (bO w) w.params) with
  | none=>rfl
  | some o'=>
   have z:(s'.heap.push ⟨.type "list",none,.seq r1.toArray 0,#[]⟩).get? s'.heap.objs.size=some o':=Kin _ _ hk;rw [c0] at z;cases z;have q:=List.all_eq_true.mp (zRy (bO w) w.params) _ (kN hk);cases q)
 have CO:=zR8 (prog:=pw) hc;have Kin2:(KX (bO w) w.params (zEp s'.heap.objs.size r1.toArray)).In (s'.heap.push ⟨.type "list",none,.seq r1.toArray 0,#[]⟩):=fun a o e=>by
  unfold KX at e;rw [List.lookup_append] at e;cases hk:List.lookup a (KL (bO w) w.params) with
  | some o'=>
   rw [hk] at e;cases e;exact Kin _ _ hk
  | none=>
   rw [hk] at e;have e:List.lookup a (zEp s'.heap.objs.size r1.toArray)=some o:=e;unfold zEp at e;rw [List.lookup_cons] at e;cases ha:a==s'.heap.objs.size with
   | true=>
    rw [ha] at e;cases e;rw [eq_of_beq ha];exact c0
   | false=>rw [ha] at e; cases e
 have I:Inv (KX (bO w) w.params (zEp s'.heap.objs.size r1.toArray)) [332] [.ctab 332 false] {s' with heap:=s'.heap.push ⟨.type "list",none,.seq r1.toArray 0,#[]⟩}:=
  ⟨rfl,List.pairwise_singleton _ _,fun i a ob h1 h2=>by
   cases i with
   | zero=>cases h1; cases h2; exact ⟨#[],rfl,y332,fun _=>rfl⟩
   | succ=>simp at h1,Kin2,fun a m=>by
   rw [List.mem_singleton] at m; subst m;unfold KX zEp;rw [List.lookup_append,zPY,List.lookup_cons];cases hz:(332:Nat)==s'.heap.objs.size with
   | true=>exact absurd (eq_of_beq hz).symm c1
   | false=>rfl,L.gens⟩
 have rl:VR [332] (s'.heap.push ⟨.type "list",none,.seq r1.toArray 0,#[]⟩) (.val (.ref s'.heap.objs.size)) (.ref s'.heap.objs.size):=rfl;refine (zIk CO N).c _ _ _ _ _ _ he callerA [332] _ (.ref 357) [.ref s'.heap.objs.size] [] hR I rfl ⟨_,[],rfl,rl,rfl⟩ ⟨rfl,rfl⟩ _ _ fun ρ' s'' x I' X' rx=>?_;have rx:x= .bool true:=rx;subst rx;have k0:∃ps,s''.heap.get? 332=some {cls:= .none,data:= .fields ps}:=by
  obtain ⟨ls,hls⟩:=X'.pre;obtain ⟨ps,_,q,_⟩:=I'.obs 0 332 _ (by rw [hls]; rfl) h0;exact ⟨ps,q⟩
 obtain ⟨ps,k0⟩:=k0;refine ⟨.inl ⟨.bool true,.bool true,[],rfl,fun cls=>rfl,.bool true,by exact (postW_of (r:=rw1.row.toRowW) rfl rfl (by decide +kernel)),fun _=>⟨List.nodup_nil,fun _ h=>by cases h⟩⟩,⟨fun b o e=>?_,fun b o e=>?_⟩,X'.os,.of_eq I'.gens⟩
 ·by_cases hb:b=332
  ·subst hb
   have e:(s'.heap.push ⟨.type "list",none,.seq r1.toArray 0,#[]⟩).get? 332=some o:=e;have y332:(s'.heap.push ⟨.type "list",none,.seq r1.toArray 0,#[]⟩).get? 332=_:=y332;rw [y332] at e;cases e;obtain ⟨k1,k2,k3,k4⟩:=zQI (bO w) w.params;exact .inr (.inl ⟨⟨336,_,_,Kin _ _ k1,k2,zRL k3,k4⟩,rfl,#[],ps,rfl,by rw [k0]; simp⟩)
  ·exact .inl (X'.keep b o (by simpa using hb) e)
 ·by_cases hb:b=332
  ·subst hb
   exact ⟨_,k0⟩
  ·exact ⟨o,X'.keep b o (by simpa using hb) e⟩
end Mine
end
end
section
noncomputable section
namespace Mine
def zEj:List Nat:=[0,1,2,3,4,5,6,7,8,9,10,11,12,13,14,15,16,17,18,19,20,21,22,23,24,25,26,27,28,29,30,31,32,33,34,35,36,37,38,39,40,41,42,43,44,45,46,47,48,49,50,51,52,53,54,55,56,57,58,59,60,61,62,63]
def zJX (x:Int):List Int->Nat->List Int
 | [],_=>[]
 | c::l,0=>(c + x)::l
 | c::l,k + 1=>c::zJX x l k
theorem zE8 (x:Int):∀(l:List Int) (k:Nat),(zJX x l k).length=l.length
 | [],_=>rfl
 | _::_,0=>rfl
 | c::l,k + 1=>congrArg (· + 1) (zE8 x l k)
def csN (a:Nat->Int)(n:Nat):List Int:=(zEj.take n).foldl (fun cs i=>zJX (Int.fmod (a i) (10 ^ Int.toNat 12)) cs (i % 9)) [9,3,0,1,0,1,0,1,27857106146]
theorem zM8 (a:Nat->Int)(n:Nat):(csN a n).length=9:=by
 have key:∀(l:List Nat) (cs:List Int),(l.foldl (fun cs i=>zJX (Int.fmod (a i) (10 ^ Int.toNat 12)) cs (i % 9)) cs).length=cs.length:=by
  intro l
  induction l with
  | nil=>intro cs; rfl
  | cons i l ih=>intro cs; rw [List.foldl_cons,ih,zE8]
 exact key _ _
def ceL (p n:Nat)(b:Bool)(P:Params)(m:Bool)(a:Nat->Int):List (Option (V×Sto)):=((zEj.drop p).take n).map fun n=>(ev (cf b P) 20).c (.val (.ref 304)) [.lst ((zEj.take n).map fun i=> .int (a i))] [] [.ctab 332 m]
def ceR (p n:Nat)(m:Bool)(a:Nat->Int):List (Option (V×Sto)):=((zEj.drop p).take n).map fun n=>some (.trk 1,[.ctab 332 m,.list ((csN a n).map .int)])
theorem zSy {b:Bool}{P:Params}{m:Bool}{a:Nat->Int}:ceL 0 20 b P m a=ceR 0 20 m a:=by kernel_rfl
theorem zTN {b:Bool}{P:Params}{m:Bool}{a:Nat->Int}:ceL 20 12 b P m a=ceR 20 12 m a:=by kernel_rfl
theorem zTk {b:Bool}{P:Params}{m:Bool}{a:Nat->Int}:ceL 32 12 b P m a=ceR 32 12 m a:=by kernel_rfl
theorem zTf {b:Bool}{P:Params}{m:Bool}{a:Nat->Int}:ceL 44 10 b P m a=ceR 44 10 m a:=by kernel_rfl
theorem zSN {b:Bool}{P:Params}{m:Bool}{a:Nat->Int}:ceL 54 10 b P m a=ceR 54 10 m a:=by kernel_rfl
theorem zLT:∀n,n < 64->n∈(zEj.drop 0).take 20\/n∈(zEj.drop 20).take 12\/n∈(zEj.drop 32).take 12\/n∈(zEj.drop 44).take 10\/n∈(zEj.drop 54).take 10:=by decide +kernel
theorem zJ7:∀n,n < 64->zEj.take n=zB 0 n:=by decide +kernel
theorem zL2 (b:Bool)(P:Params)(m:Bool)(l:List Int)(h:l.length<=63):∃cs:List Int,cs.length=9/\(ev (cf b P) 20).c (.val (.ref 304)) [.lst (l.map .int)] [] [.ctab 332 m]=some (.trk 1,[.ctab 332 m,.list (cs.map .int)]):=by
 have e:(zEj.take l.length).map (fun i=>V.int (l.getD i 0))=l.map .int:=by
  rw [zJ7 _ (by omega)];apply List.ext_getElem?;intro i;rw [List.getElem?_map,List.getElem?_map]
  by_cases h:i < l.length
  ·rw [zR l.length 0 i h,List.getElem?_eq_getElem h]
   simp [List.getD_eq_getElem?_getD,List.getElem?_eq_getElem h]
  ·rw [List.getElem?_eq_none (by rw [zH]; omega),List.getElem?_eq_none (by omega)]
   rfl
 refine ⟨csN (fun i=>l.getD i 0) l.length,zM8 _ _,?_⟩;rw [<-e];rcases zLT l.length (by omega) with q | q | q | q | q
 ·exact List.map_inj_left.mp zSy _ q
 ·exact List.map_inj_left.mp zTN _ q
 ·exact List.map_inj_left.mp zTk _ q
 ·exact List.map_inj_left.mp zTf _ q
 ·exact List.map_inj_left.mp zSN _ q
def vK:List Str:=[S "(",S ")",S "[",S "]",S ":",S ",",S ";",S "+",S "-",S "*",S "/",S "|",S "&",S "<",S ">",S "=",S ".",S "%",S "{",S "}",S "==",S "!=",S "<=",S ">=",S "~",S "^",S "<<",S ">>",S "**",S "+=",S "-=",S "*=",S "/=",S "%=",S "&=",S "|=",S "^=",S "<<=",S ">>=",S "**=",S "//",S "//=",S "@",S "@=",S "->",S "...",S ":=",S "!"]
theorem zSG (b:Bool)(P:Params)(m:Bool):(ev (cf b P) 20).c (.val (.ref 316)) [] [] [.ctab 332 m]=some (.trk 1,[.ctab 332 m,.list (vK.map .str)]):=by kernel_rfl
def zSs:List (List Nat):=[[97],[98,32,99],[100,34],[101,92],[115,115],[102,102,105],[115,116]]
def wrL:List (List (List Nat)):=[
[[97,32],[65,32],[119808,32],[97,65027,32],[34,97,34,32],[34,65,34,32],[34,119808,34,32],[34,97,65031,34,32],[97,10],[65,10],[119808,10],[97,65035,10],[34,97,34,10],[34,65,34,10],[34,119808,34,10],[34,97,65039,34,10],[97,9],[65,9],[119808,9],[97,65027,9],[34,97,34,9],[34,65,34,9],[34,119808,34,9],[34,97,65031,34,9],[97,13],[65,13],[119808,13],[97,65035,13],[34,97,34,13],[34,65,34,13],[34,119808,34,13],[34,97,65039,34,13]],
[[98,92,32,99,32],[66,92,32,67,32],[8492,92,32,99,32],[98,65027,92,32,99,32],[34,98,92,32,99,34,32],[34,66,92,32,67,34,32],[34,8492,92,32,99,34,32],[34,98,65031,92,32,99,34,32],[98,92,32,99,10],[66,92,32,67,10],[8492,92,32,99,10],[98,65035,92,32,99,10],[34,98,92,32,99,34,10],[34,66,92,32,67,34,10],[34,8492,92,32,99,34,10],[34,98,65039,92,32,99,34,10],[98,92,32,99,9],[66,92,32,67,9],[8492,92,32,99,9],[98,65027,92,32,99,9],[34,98,92,32,99,34,9],[34,66,92,32,67,34,9],[34,8492,92,32,99,34,9],[34,98,65031,92,32,99,34,9],[98,92,32,99,13],[66,92,32,67,13],[8492,92,32,99,13],[98,65035,92,32,99,13],[34,98,92,32,99,34,13],[34,66,92,32,67,34,13],[34,8492,92,32,99,34,13],[34,98,65039,92,32,99,34,13]],
[[100,92,34,32],[68,92,34,32],[8517,92,34,32],[100,65027,92,34,32],[34,100,92,34,34,32],[34,68,92,34,34,32],[34,8517,92,34,34,32],[34,100,65031,92,34,34,32],[100,92,34,10],[68,92,34,10],[8517,92,34,10],[100,65035,92,34,10],[34,100,92,34,34,10],[34,68,92,34,34,10],[34,8517,92,34,34,10],[34,100,65039,92,34,34,10],[100,92,34,9],[68,92,34,9],[8517,92,34,9],[100,65027,92,34,9],[34,100,92,34,34,9],[34,68,92,34,34,9],[34,8517,92,34,34,9],[34,100,65031,92,34,34,9],[100,92,34,13],[68,92,34,13],[8517,92,34,13],[100,65035,92,34,13],[34,100,92,34,34,13],[34,68,92,34,34,13],[34,8517,92,34,34,13],[34,100,65039,92,34,34,13]],
[[101,92,92,32],[69,92,92,32],[8496,92,92,32],[101,65027,92,92,32],[34,101,92,92,34,32],[34,69,92,92,34,32],[34,8496,92,92,34,32],[34,101,65031,92,92,34,32],[101,92,92,10],[69,92,92,10],[8496,92,92,10],[101,65035,92,92,10],[34,101,92,92,34,10],[34,69,92,92,34,10],[34,8496,92,92,34,10],[34,101,65039,92,92,34,10],[101,92,92,9],[69,92,92,9],[8496,92,92,9],[101,65027,92,92,9],[34,101,92,92,34,9],[34,69,92,92,34,9],[34,8496,92,92,34,9],[34,101,65031,92,92,34,9],[101,92,92,13],[69,92,92,13],[8496,92,92,13],[101,65035,92,92,13],[34,101,92,92,34,13],[34,69,92,92,34,13],[34,8496,92,92,34,13],[34,101,65039,92,92,34,13]],
[[115,115,32],[83,83,32],[223,32],[115,65027,115,32],[34,115,115,34,32],[34,83,83,34,32],[34,223,34,32],[34,115,65031,115,34,32],[115,115,10],[83,83,10],[223,10],[115,65035,115,10],[34,115,115,34,10],[34,83,83,34,10],[34,223,34,10],[34,115,65039,115,34,10],[115,115,9],[83,83,9],[223,9],[115,65027,115,9],[34,115,115,34,9],[34,83,83,34,9],[34,223,34,9],[34,115,65031,115,34,9],[115,115,13],[83,83,13],[223,13],[115,65035,115,13],[34,115,115,34,13],[34,83,83,34,13],[34,223,34,13],[34,115,65039,115,34,13]],
[[102,102,105,32],[70,70,73,32],[64259,32],[102,65027,102,105,32],[34,102,102,105,34,32],[34,70,70,73,34,32],[34,64259,34,32],[34,102,65031,102,105,34,32],[102,102,105,10],[70,70,73,10],[64259,10],[102,65035,102,105,10],[34,102,102,105,34,10],[34,70,70,73,34,10],[34,64259,34,10],[34,102,65039,102,105,34,10],[102,102,105,9],[70,70,73,9],[64259,9],[102,65027,102,105,9],[34,102,102,105,34,9],[34,70,70,73,34,9],[34,64259,34,9],[34,102,65031,102,105,34,9],[102,102,105,13],[70,70,73,13],[64259,13],[102,65035,102,105,13],[34,102,102,105,34,13],[34,70,70,73,34,13],[34,64259,34,13],[34,102,65039,102,105,34,13]],
[[115,116,32],[83,84,32],[64262,32],[115,65027,116,32],[34,115,116,34,32],[34,83,84,34,32],[34,64262,34,32],[34,115,65031,116,34,32],[115,116,10],[83,84,10],[64262,10],[115,65035,116,10],[34,115,116,34,10],[34,83,84,34,10],[34,64262,34,10],[34,115,65039,116,34,10],[115,116,9],[83,84,9],[64262,9],[115,65027,116,9],[34,115,116,34,9],[34,83,84,34,9],[34,64262,34,9],[34,115,65031,116,34,9],[115,116,13],[83,84,13],[64262,13],[115,65035,116,13],[34,115,116,34,13],[34,83,84,34,13],[34,64262,34,13],[34,115,65039,116,34,13]]]
def tkL:List (List (List Nat)):=[
[[97],[65],[119808],[97,65027],[97],[65],[119808],[97,65031],[97],[65],[119808],[97,65035],[97],[65],[119808],[97,65039],[97],[65],[119808],[97,65027],[97],[65],[119808],[97,65031],[97],[65],[119808],[97,65035],[97],[65],[119808],[97,65039]],
[[98,32,99],[66,32,67],[8492,32,99],[98,65027,32,99],[98,32,99],[66,32,67],[8492,32,99],[98,65031,32,99],[98,32,99],[66,32,67],[8492,32,99],[98,65035,32,99],[98,32,99],[66,32,67],[8492,32,99],[98,65039,32,99],[98,32,99],[66,32,67],[8492,32,99],[98,65027,32,99],[98,32,99],[66,32,67],[8492,32,99],[98,65031,32,99],[98,32,99],[66,32,67],[8492,32,99],[98,65035,32,99],[98,32,99],[66,32,67],[8492,32,99],[98,65039,32,99]],
[[100,34],[68,34],[8517,34],[100,65027,34],[100,34],[68,34],[8517,34],[100,65031,34],[100,34],[68,34],[8517,34],[100,65035,34],[100,34],[68,34],[8517,34],[100,65039,34],[100,34],[68,34],[8517,34],[100,65027,34],[100,34],[68,34],[8517,34],[100,65031,34],[100,34],[68,34],[8517,34],[100,65035,34],[100,34],[68,34],[8517,34],[100,65039,34]],
[[101,92],[69,92],[8496,92],[101,65027,92],[101,92],[69,92],[8496,92],[101,65031,92],[101,92],[69,92],[8496,92],[101,65035,92],[101,92],[69,92],[8496,92],[101,65039,92],[101,92],[69,92],[8496,92],[101,65027,92],[101,92],[69,92],[8496,92],[101,65031,92],[101,92],[69,92],[8496,92],[101,65035,92],[101,92],[69,92],[8496,92],[101,65039,92]],
[[115,115],[83,83],[223],[115,65027,115],[115,115],[83,83],[223],[115,65031,115],[115,115],[83,83],[223],[115,65035,115],[115,115],[83,83],[223],[115,65039,115],[115,115],[83,83],[223],[115,65027,115],[115,115],[83,83],[223],[115,65031,115],[115,115],[83,83],[223],[115,65035,115],[115,115],[83,83],[223],[115,65039,115]],
[[102,102,105],[70,70,73],[64259],[102,65027,102,105],[102,102,105],[70,70,73],[64259],[102,65031,102,105],[102,102,105],[70,70,73],[64259],[102,65035,102,105],[102,102,105],[70,70,73],[64259],[102,65039,102,105],[102,102,105],[70,70,73],[64259],[102,65027,102,105],[102,102,105],[70,70,73],[64259],[102,65031,102,105],[102,102,105],[70,70,73],[64259],[102,65035,102,105],[102,102,105],[70,70,73],[64259],[102,65039,102,105]],
[[115,116],[83,84],[64262],[115,65027,116],[115,116],[83,84],[64262],[115,65031,116],[115,116],[83,84],[64262],[115,65035,116],[115,116],[83,84],[64262],[115,65039,116],[115,116],[83,84],[64262],[115,65027,116],[115,116],[83,84],[64262],[115,65031,116],[115,116],[83,84],[64262],[115,65035,116],[115,116],[83,84],[64262],[115,65039,116]]]
def strN (l:List Nat):Str:=⟨l.toArray⟩
def wrN (c l:Nat):List Nat:=(wrL.getD c []).getD l []
def tkN (c l:Nat):List Nat:=(tkL.getD c []).getD l []
def fcN (c:Nat):List Nat:=zSs.getD c []
def zW:Nat->List Nat
 | 0=>[]
 | n + 1=>zW n ++ [n]
theorem zP4 (b:Bool)(P:Params)(m:Bool):(zW 32).map (fun (l:Nat)=>(ev (cf b P) 20).c (.val (.ref 330)) [.int 0,.int (Int.ofNat l)] [] [.ctab 332 m])=(zW 32).map fun (l:Nat)=>some (.str (strN (wrN 0 l)),[.ctab 332 m]):=by kernel_rfl
theorem zOs (b:Bool)(P:Params)(m:Bool):(zW 32).map (fun (l:Nat)=>(ev (cf b P) 20).c (.val (.ref 330)) [.int 1,.int (Int.ofNat l)] [] [.ctab 332 m])=(zW 32).map fun (l:Nat)=>some (.str (strN (wrN 1 l)),[.ctab 332 m]):=by kernel_rfl
theorem zQv (b:Bool)(P:Params)(m:Bool):(zW 32).map (fun (l:Nat)=>(ev (cf b P) 20).c (.val (.ref 330)) [.int 2,.int (Int.ofNat l)] [] [.ctab 332 m])=(zW 32).map fun (l:Nat)=>some (.str (strN (wrN 2 l)),[.ctab 332 m]):=by kernel_rfl
theorem zPp (b:Bool)(P:Params)(m:Bool):(zW 32).map (fun (l:Nat)=>(ev (cf b P) 20).c (.val (.ref 330)) [.int 3,.int (Int.ofNat l)] [] [.ctab 332 m])=(zW 32).map fun (l:Nat)=>some (.str (strN (wrN 3 l)),[.ctab 332 m]):=by kernel_rfl
theorem zN8 (b:Bool)(P:Params)(m:Bool):(zW 32).map (fun (l:Nat)=>(ev (cf b P) 20).c (.val (.ref 330)) [.int 4,.int (Int.ofNat l)] [] [.ctab 332 m])=(zW 32).map fun (l:Nat)=>some (.str (strN (wrN 4 l)),[.ctab 332 m]):=by kernel_rfl
theorem zQd (b:Bool)(P:Params)(m:Bool):(zW 32).map (fun (l:Nat)=>(ev (cf b P) 20).c (.val (.ref 330)) [.int 5,.int (Int.ofNat l)] [] [.ctab 332 m])=(zW 32).map fun (l:Nat)=>some (.str (strN (wrN 5 l)),[.ctab 332 m]):=by kernel_rfl
theorem zQ4 (b:Bool)(P:Params)(m:Bool):(zW 32).map (fun (l:Nat)=>(ev (cf b P) 20).c (.val (.ref 330)) [.int 6,.int (Int.ofNat l)] [] [.ctab 332 m])=(zW 32).map fun (l:Nat)=>some (.str (strN (wrN 6 l)),[.ctab 332 m]):=by kernel_rfl
def zO2:List (List Nat):=[[97],[65],[119808],[97,65027],[97,65031],[97,65035],[97,65039]]
theorem zN3 (b:Bool)(P:Params)(m:Bool):zO2.map (fun t=>(ev (cf b P) 20).c (.val (.ref 342)) [.str (strN t)] [] [.ctab 332 m])=zO2.map fun _=>some (.str (strN (fcN 0)),[.ctab 332 m]):=by kernel_rfl
theorem zPJ:∀l,l < 32->tkN 0 l∈zO2:=by decide +kernel
def zOl:List (List Nat):=[[98,32,99],[66,32,67],[8492,32,99],[98,65027,32,99],[98,65031,32,99],[98,65035,32,99],[98,65039,32,99]]
theorem zOS (b:Bool)(P:Params)(m:Bool):zOl.map (fun t=>(ev (cf b P) 20).c (.val (.ref 342)) [.str (strN t)] [] [.ctab 332 m])=zOl.map fun _=>some (.str (strN (fcN 1)),[.ctab 332 m]):=by kernel_rfl
theorem zQl:∀l,l < 32->tkN 1 l∈zOl:=by decide +kernel
def zPo:List (List Nat):=[[100,34],[68,34],[8517,34],[100,65027,34],[100,65031,34],[100,65035,34],[100,65039,34]]
theorem zOE (b:Bool)(P:Params)(m:Bool):zPo.map (fun t=>(ev (cf b P) 20).c (.val (.ref 342)) [.str (strN t)] [] [.ctab 332 m])=zPo.map fun _=>some (.str (strN (fcN 2)),[.ctab 332 m]):=by kernel_rfl
theorem zOn:∀l,l < 32->tkN 2 l∈zPo:=by decide +kernel
def zPg:List (List Nat):=[[101,92],[69,92],[8496,92],[101,65027,92],[101,65031,92],[101,65035,92],[101,65039,92]]
theorem zOI (b:Bool)(P:Params)(m:Bool):zPg.map (fun t=>(ev (cf b P) 20).c (.val (.ref 342)) [.str (strN t)] [] [.ctab 332 m])=zPg.map fun _=>some (.str (strN (fcN 3)),[.ctab 332 m]):=by kernel_rfl
theorem zO9:∀l,l < 32->tkN 3 l∈zPg:=by decide +kernel
def zQB:List (List Nat):=[[115,115],[83,83],[223],[115,65027,115],[115,65031,115],[115,65035,115],[115,65039,115]]
theorem zQF (b:Bool)(P:Params)(m:Bool):zQB.map (fun t=>(ev (cf b P) 20).c (.val (.ref 342)) [.str (strN t)] [] [.ctab 332 m])=zQB.map fun _=>some (.str (strN (fcN 4)),[.ctab 332 m]):=by kernel_rfl
theorem zQf:∀l,l < 32->tkN 4 l∈zQB:=by decide +kernel
def zQq:List (List Nat):=[[102,102,105],[70,70,73],[64259],[102,65027,102,105],[102,65031,102,105],[102,65035,102,105],[102,65039,102,105]]
theorem zQU (b:Bool)(P:Params)(m:Bool):zQq.map (fun t=>(ev (cf b P) 20).c (.val (.ref 342)) [.str (strN t)] [] [.ctab 332 m])=zQq.map fun _=>some (.str (strN (fcN 5)),[.ctab 332 m]):=by kernel_rfl
theorem zP7:∀l,l < 32->tkN 5 l∈zQq:=by decide +kernel
def zQ6:List (List Nat):=[[115,116],[83,84],[64262],[115,65027,116],[115,65031,116],[115,65035,116],[115,65039,116]]
theorem zOz (b:Bool)(P:Params)(m:Bool):zQ6.map (fun t=>(ev (cf b P) 20).c (.val (.ref 342)) [.str (strN t)] [] [.ctab 332 m])=zQ6.map fun _=>some (.str (strN (fcN 6)),[.ctab 332 m]):=by kernel_rfl
theorem zQk:∀l,l < 32->tkN 6 l∈zQ6:=by decide +kernel
end Mine
end
end
section
noncomputable section
namespace Mine
def zNU (b:Bool)(P:Params):FuncData:=match wU (qQ (zFB b P)).body with
 | some (_::_::_:: .Assign _ (.Lambda ps bd sc _) _::_)=>zK6 (S "_law_lexer.<locals>.<lambda>") ps bd sc
 | _=>default
def wsS:Str:=S "\n\t\r "
def qO (b:Bool)(P:Params)(ln:Int)(l:List Nat):Sto:=
  [.ctab 332 true,.inst 226 2,.dict [(S "lineno",.int ln),(S "instream",.trk 3),(S "whitespace",.str wsS),(S "pushback",.trk 10)],.inst 226 4,
   .dict [(S "lineno",.int 1),(S "instream",.none),(S "whitespace",.str wsS),(S "pushback",.trk 5),(S "read",.trk 6)],.list [],.lam (zNU b P) [(S "signs",7)] 9,.cell (some (.trk 8)),.stk 1000 l,.crec (S "_law_lexer.<locals>.<lambda>"),.list []]
theorem zMe (b:Bool)(P:Params)(x:Str)(hx:x.cps.size<=1000):(ev (cf b P) 20).c (.val (.ref 337)) [.str x] [] [.ctab 332 false]=some (.trk 1,qO b P 1 x.cps.toList):=by
 have h:zP (goC (cf b P) 20 (.val (.ref 337)) [.str x] [] [.ctab 332 false]) [.ans 0 true]=some ([decide (x.cps.size<=1000)=true],.trk 1,qO b P 1 x.cps.toList.reverse.reverse):=by kernel_rfl
 rw [List.reverse_reverse] at h;exact zPL h ⟨decide_eq_true hx,trivial⟩
end Mine
end
end
section
noncomputable section
namespace Mine
def qP:Stmt->Expr
 | .For t _ _ _ _=>t
 | _=>default
def yU:Stmt->List Stmt
 | .For _ _ b _ _=>b
 | _=>[]
def ifT:Stmt->Expr
 | .If t _ _ _=>t
 | _=>default
def ifA:Stmt->List Stmt
 | .If _ a _ _=>a
 | _=>[]
def ifB:Stmt->List Stmt
 | .If _ _ b _=>b
 | _=>[]
def zMQ (P:Params):FuncData:=qQ (top.o_308 P)
def gtB (P:Params):List Stmt:=(wU (zMQ P).body).getD []
def wO (P:Params):AE:={scope:=(zMQ P).scope,loc:=11,cells:=[],qual:=(zMQ P).qualname ++ ".<locals>.",code:=(zMQ P).code}
def gt0 (P:Params):Stmt:=(gtB P).getD 3 default
def gtQ (P:Params):Stmt:=(ifA ((yU (gt0 P)).getD 1 default)).getD 0 default
def gtR (P:Params):Stmt:=(ifB ((yU (gt0 P)).getD 1 default)).getD 2 default
def frm0 (t:Str):List (Str×V):=[(S "self",.trk 1),(S "token",.str t),(S "fiter",.trk 13)]
def frm1 (t c:Str):List (Str×V):=[(S "self",.trk 1),(S "token",.str t),(S "fiter",.trk 13),(S "ch",.str c)]
def gtS (b:Bool)(P:Params)(ln:Int)(l:List Nat)(kv:List (Str×V)):Sto:=qO b P ln l ++ [.ns kv,.meth 209 (.trk 1),.citer (.trk 12) (.str (S "")) true]
end Mine
end
end
section
noncomputable section
namespace Mine
def isW (c:Nat):Bool:=[10,9,13,32].any (Nat.beq c)
def qM (c:Nat)(ln:Int):Int:=if c=10 then ln + 1 else ln
def zLA:List Nat->Int->List Nat->Option (List Nat×Int×List Nat)
 | _,_,[]=>none
 | t,ln,c::l=>if c=34 then some (t,ln,l) else if c=92 then (match l with
  | []=>none
  | c2::l2=>zLA (t ++ [c2]) (qM c2 ln) l2) else zLA (t ++ [c]) (qM c ln) l
def zKH:List Nat->Int->List Nat->Option (List Nat×Int×List Nat)
 | _,_,[]=>none
 | t,ln,c::l=>match isW c with
  | true=>some (t,qM c ln,l)
  | false=>if c=92 then (match l with
   | []=>none
   | c2::l2=>zKH (t ++ [c2]) (qM c2 ln) l2) else zKH (t ++ [c]) (qM c ln) l
def qL:Int->List Nat->Option (List Nat×Int×List Nat)
 | ln,[]=>some ([],ln,[])
 | ln,c::l=>match isW c with
  | true=>qL (qM c ln) l
  | false=>if c=34 then zLA [] ln l else if c=92 then (match l with
   | []=>none
   | c2::l2=>zKH [c2] (qM c2 ln) l2) else zKH [c] (qM c ln) l
theorem wD (t:List Nat)(c:Nat):strN t ++ (⟨#[c]⟩:Str)=strN (t ++ [c]):=by
 show (⟨t.toArray ++ #[c]⟩:Str)=⟨(t ++ [c]).toArray⟩;simp
theorem ne1 {c k:Nat}(h:c≠k):([c]==[k])=false:=by simp [h]
theorem wT {t:List Nat}{c:Nat}(h:t.length + 1<=1000):decide ((strN t ++ (⟨#[c]⟩:Str)).length<=sizeLine)=true:=by
 rw [wD];have e:(strN (t ++ [c])).length=t.length + 1:=by
  show ((t ++ [c]).toArray).size=_;simp
 rw [e];exact decide_eq_true (Nat.le_trans h (by decide))
section
variable (b:Bool) (P:Params)
abbrev vG (n:Nat)(st:Stmt)(σ:Sto):=zAa (cf b P).kf (ev (cf b P) n) (qP st) (yU st) (wO P) 13 σ
abbrev wA (n:Nat)(st:Stmt)(fu:Nat)(σ:Sto):=yL (cf b P).kf (ev (cf b P) n) (qP st) (yU st) (wO P) 13 fu σ
variable {b P} {ln:Int} {c a:Nat} {t d:Str} {l tl:List Nat}
theorem zFp:qM 10 ln=ln + 1:=rfl
theorem uK (h:c≠10):qM c ln=ln:=if_neg h
theorem zSg:vG b P 16 (gtQ P) (gtS b P ln (34::l) (frm1 t d))=some (.ret (.str t),gtS b P ln l (frm1 t (strN [34]))):=zU (ds:=[]) (ps:=[]) (by kernel_rfl) trivial
theorem zSY (h1:c≠34)(h2:c≠92)(hs:tl.length + 1<=1000):vG b P 16 (gtQ P) (gtS b P ln (c::l) (frm1 (strN tl) d))=some (.next,gtS b P (qM c ln) l (frm1 (strN (tl ++ [c])) (strN [c]))):=by
 rw [<-wD]
 by_cases h10:c=10
 ·subst h10
  rw [zFp];cases tl with
  | nil=>exact zU (ds:=[]) (ps:=[]) (by kernel_rfl) trivial
  | cons a tl=>exact zU (ds:=[.ans 10 true]) (ps:=[decide ((strN (a::tl) ++ (⟨#[10]⟩:Str)).length<=sizeLine)=true]) (by kernel_rfl) ⟨wT hs,trivial⟩
 ·rw [uK h10]
  cases tl with
  | nil=>exact zU (ds:=[.ans 3 false,.ans 1 false,.ans 0 false]) (ps:=[([c]==[10])=false,([c]==[34])=false,([c]==[92])=false]) (by kernel_rfl) ⟨ne1 h10,ne1 h1,ne1 h2,trivial⟩
  | cons a tl=>exact zU (ds:=[.ans 3 false,.ans 1 false,.ans 0 false,.ans 2 true]) (ps:=[([c]==[10])=false,([c]==[34])=false,([c]==[92])=false,decide ((strN (a::tl) ++ (⟨#[c]⟩:Str)).length<=sizeLine)=true]) (by kernel_rfl) ⟨ne1 h10,ne1 h1,ne1 h2,wT hs,trivial⟩
theorem zS9 (hs:tl.length + 1<=1000):vG b P 16 (gtQ P) (gtS b P ln (92::c::l) (frm1 (strN tl) d))=some (.next,gtS b P (qM c ln) l (frm1 (strN (tl ++ [c])) (strN [c]))):=by
 rw [<-wD]
 by_cases h10:c=10
 ·subst h10
  rw [zFp];cases tl with
  | nil=>exact zU (ds:=[]) (ps:=[]) (by kernel_rfl) trivial
  | cons a tl=>exact zU (ds:=[.ans 14 true]) (ps:=[decide ((strN (a::tl) ++ (⟨#[10]⟩:Str)).length<=sizeLine)=true]) (by kernel_rfl) ⟨wT hs,trivial⟩
 ·rw [uK h10]
  cases tl with
  | nil=>exact zU (ds:=[.ans 10 false]) (ps:=[([c]==[10])=false]) (by kernel_rfl) ⟨ne1 h10,trivial⟩
  | cons a tl=>exact zU (ds:=[.ans 10 false,.ans 2 true]) (ps:=[([c]==[10])=false,decide ((strN (a::tl) ++ (⟨#[c]⟩:Str)).length<=sizeLine)=true]) (by kernel_rfl) ⟨ne1 h10,wT hs,trivial⟩
theorem zFh (h:isW c=true):c=10\/c=9\/c=13\/c=32:=by simpa [isW] using h
theorem zRB (h:isW c=true):vG b P 16 (gtR P) (gtS b P ln (c::l) (frm1 t d))=some (.ret (.str t),gtS b P (qM c ln) l (frm1 t (strN [c]))):=by
 rcases zFh h with rfl | rfl | rfl | rfl <;>exact zU (ds:=[]) (ps:=[]) (by kernel_rfl) trivial
theorem zTi (h1:isW c=false)(h2:c≠92)(hs:tl.length + 1<=1000):vG b P 16 (gtR P) (gtS b P ln (c::l) (frm1 (strN tl) d))=some (.next,gtS b P (qM c ln) l (frm1 (strN (tl ++ [c])) (strN [c]))):=by
 have h10:c≠10:=fun e=>by subst e; cases h1
 rw [<-wD,uK h10];cases tl with
 | nil=>exact zU (ds:=[.ans 3 false,.ans 1 false,.ans 0 false]) (ps:=[([c]==[10])=false,isW c=false,([c]==[92])=false]) (by kernel_rfl) ⟨ne1 h10,h1,ne1 h2,trivial⟩
 | cons a tl=>exact zU (ds:=[.ans 3 false,.ans 1 false,.ans 0 false,.ans 2 true]) (ps:=[([c]==[10])=false,isW c=false,([c]==[92])=false,decide ((strN (a::tl) ++ (⟨#[c]⟩:Str)).length<=sizeLine)=true]) (by kernel_rfl) ⟨ne1 h10,h1,ne1 h2,wT hs,trivial⟩
theorem zTP (hs:tl.length + 1<=1000):vG b P 16 (gtR P) (gtS b P ln (92::c::l) (frm1 (strN tl) d))=some (.next,gtS b P (qM c ln) l (frm1 (strN (tl ++ [c])) (strN [c]))):=by
 rw [<-wD]
 by_cases h10:c=10
 ·subst h10
  rw [zFp];cases tl with
  | nil=>exact zU (ds:=[]) (ps:=[]) (by kernel_rfl) trivial
  | cons a tl=>exact zU (ds:=[.ans 14 true]) (ps:=[decide ((strN (a::tl) ++ (⟨#[10]⟩:Str)).length<=sizeLine)=true]) (by kernel_rfl) ⟨wT hs,trivial⟩
 ·rw [uK h10]
  cases tl with
  | nil=>exact zU (ds:=[.ans 10 false]) (ps:=[([c]==[10])=false]) (by kernel_rfl) ⟨ne1 h10,trivial⟩
  | cons a tl=>exact zU (ds:=[.ans 10 false,.ans 2 true]) (ps:=[([c]==[10])=false,decide ((strN (a::tl) ++ (⟨#[c]⟩:Str)).length<=sizeLine)=true]) (by kernel_rfl) ⟨ne1 h10,wT hs,trivial⟩
theorem zMH:∀(n:Nat) (l tl:List Nat) (ln:Int) (d:Str) (fu:Nat) (t' l':List Nat) (ln':Int),l.length<=n->zLA tl ln l=some (t',ln',l')->tl.length + l.length<=1000->l.length < fu->
  ∃d',wA b P 16 (gtQ P) fu (gtS b P ln l (frm1 (strN tl) d))=some (.ret (.str (strN t')),gtS b P ln' l' (frm1 (strN t') d'))
 | _,[],tl,ln,d,fu,t',l',ln',_,h,_,_=>by cases h
 | 0,c::l,tl,ln,d,fu,t',l',ln',hn,h,_,_=>by simp at hn
 | n + 1,c::l,tl,ln,d,fu,t',l',ln',hn,h,hs,hf=>by
  obtain ⟨fu,rfl⟩:∃g,fu=g + 1:=⟨fu - 1,by omega⟩;simp only [List.length_cons] at hn hs hf;unfold zLA at h;split at h
  ·rename_i h1
   subst h1; cases h;exact ⟨_,xA zSg⟩
  ·rename_i h1
   split at h
   ·rename_i h2
    subst h2;split at h
    ·cases h
    ·rename_i c2 l2
     simp only [List.length_cons] at hn hs hf;obtain ⟨d',e⟩:=zMH n l2 (tl ++ [c2]) (qM c2 ln) (strN [c2]) fu t' l' ln' (by omega) h (by simp; omega) (by omega);exact ⟨d',(qZ (.inl (zS9 (by omega)))).trans e⟩
   ·rename_i h2
    obtain ⟨d',e⟩:=zMH n l (tl ++ [c]) (qM c ln) (strN [c]) fu t' l' ln' (by omega) h (by simp; omega) (by omega);exact ⟨d',(qZ (.inl (zSY h1 h2 (by omega)))).trans e⟩
theorem zJc:∀(n:Nat) (l tl:List Nat) (ln:Int) (d:Str) (fu:Nat) (t' l':List Nat) (ln':Int),l.length<=n->zKH tl ln l=some (t',ln',l')->tl.length + l.length<=1000->l.length < fu->
  ∃d',wA b P 16 (gtR P) fu (gtS b P ln l (frm1 (strN tl) d))=some (.ret (.str (strN t')),gtS b P ln' l' (frm1 (strN t') d'))
 | _,[],tl,ln,d,fu,t',l',ln',_,h,_,_=>by cases h
 | 0,c::l,tl,ln,d,fu,t',l',ln',hn,h,_,_=>by simp at hn
 | n + 1,c::l,tl,ln,d,fu,t',l',ln',hn,h,hs,hf=>by
  obtain ⟨fu,rfl⟩:∃g,fu=g + 1:=⟨fu - 1,by omega⟩;simp only [List.length_cons] at hn hs hf;unfold zKH at h;split at h
  ·rename_i h1
   cases h;exact ⟨_,xA (zRB h1)⟩
  ·rename_i h1
   split at h
   ·rename_i h2
    subst h2;split at h
    ·cases h
    ·rename_i c2 l2
     simp only [List.length_cons] at hn hs hf;obtain ⟨d',e⟩:=zJc n l2 (tl ++ [c2]) (qM c2 ln) (strN [c2]) fu t' l' ln' (by omega) h (by simp; omega) (by omega);exact ⟨d',(qZ (.inl (zTP (by omega)))).trans e⟩
   ·rename_i h2
    obtain ⟨d',e⟩:=zJc n l (tl ++ [c]) (qM c ln) (strN [c]) fu t' l' ln' (by omega) h (by simp; omega) (by omega);exact ⟨d',(qZ (.inl (zTi h1 h2 (by omega)))).trans e⟩
theorem xQ:(ev (cf b P) 17).x (gtQ P) (wO P) (gtS b P ln l (frm1 t d))=wA b P 16 (gtQ P) 1000 (gtS b P ln l (frm1 t d)):=by kernel_rfl
theorem xR:(ev (cf b P) 17).x (gtR P) (wO P) (gtS b P ln l (frm1 t d))=wA b P 16 (gtR P) 1000 (gtS b P ln l (frm1 t d)):=by kernel_rfl
abbrev w1 (P:Params):Stmt:=(yU (gt0 P)).getD 0 default
abbrev w2 (P:Params):Stmt:=(yU (gt0 P)).getD 1 default
theorem zRm:yU (gt0 P)=[w1 P,w2 P]:=by kernel_rfl
theorem zSi:w2 P= .If (ifT (w2 P)) (ifA (w2 P)) (ifB (w2 P)) (w2 P).pos:=by kernel_rfl
theorem w2A:ifA (w2 P)=[gtQ P]:=by kernel_rfl
theorem w2B:ifB (w2 P)=(ifB (w2 P)).take 2 ++ [gtR P]:=by kernel_rfl
inductive Frm:List (Str×V)->Prop
 | zero:Frm (frm0 (strN []))
 | one (d:Str):Frm (frm1 (strN []) d)
theorem zQ2 {kv:List (Str×V)}(hk:Frm kv)(h:isW c=true):vG b P 18 (gt0 P) (gtS b P ln (c::l) kv)=some (.cont,gtS b P (qM c ln) l (frm1 (strN []) (strN [c]))):=by
 cases hk <;>(rcases zFh h with rfl | rfl | rfl | rfl <;>exact zU (ds:=[]) (ps:=[]) (by kernel_rfl) trivial)
theorem zOa {kv:List (Str×V)}(hk:Frm kv)(h:c≠10):zGS (cf b P).kf (ev (cf b P) 18) (qP (gt0 P)) (wO P) 13 (gtS b P ln (c::l) kv)=some (gtS b P ln l (frm1 (strN []) (strN [c]))):=by
 cases hk <;>exact zO4 (v:= .none) (ds:=[.ans 3 false]) (ps:=[([c]==[10])=false]) (by kernel_rfl) ⟨ne1 h,trivial⟩
theorem zRa (h:isW c=false):(ev (cf b P) 18).x (w1 P) (wO P) (gtS b P ln l (frm1 (strN []) (strN [c])))=some (.next,gtS b P ln l (frm1 (strN []) (strN [c]))):=by
 rw [<-zO];exact zD (ds:=[.ans 0 false]) (ps:=[isW c=false]) (by kernel_rfl) ⟨h,trivial⟩
theorem w_q:(ev (cf b P) 17).t (ifT (w2 P)) (wO P) (gtS b P ln l (frm1 (strN []) (strN [c])))=some ([c]==[34],gtS b P ln l (frm1 (strN []) (strN [c]))):=zHL (ds:=[]) (ps:=[]) (by kernel_rfl) trivial
theorem zTr (h:c≠92):evs (ev (cf b P) 17) ((ifB (w2 P)).take 2) (wO P) (gtS b P ln l (frm1 (strN []) (strN [c])))=some (.next,gtS b P ln l (frm1 (strN [c]) (strN [c]))):=
 zD (ds:=[.ans 0 false]) (ps:=[([c]==[92])=false]) (by kernel_rfl) ⟨ne1 h,trivial⟩
theorem zTn:evs (ev (cf b P) 17) ((ifB (w2 P)).take 2) (wO P) (gtS b P ln (c::l) (frm1 (strN []) (strN [92])))=some (.next,gtS b P (qM c ln) l (frm1 (strN [c]) (strN [c]))):=by
 by_cases h10:c=10
 ·subst h10; rw [zFp]
  exact zD (ds:=[]) (ps:=[]) (by kernel_rfl) trivial
 ·rw [uK h10]
  exact zD (ds:=[.ans 4 false]) (ps:=[([c]==[10])=false]) (by kernel_rfl) ⟨ne1 h10,trivial⟩
def gtE (b:Bool)(P:Params)(ln:Int)(kv:List (Str×V)):Sto:=qO b P ln [] ++ [.ns kv,.meth 209 (.trk 1),.citer .none .none false]
theorem zPU {kv:List (Str×V)}(hk:Frm kv):zZ (cf b P).kf (ev (cf b P) 18) (qP (gt0 P)) 13 (gtS b P ln [] kv)=some (none,gtE b P ln kv):=by
 cases hk <;>exact zN0 (v:= .none) (ds:=[]) (ps:=[]) (by kernel_rfl) trivial
inductive GtEnd (b:Bool) (P:Params):Option (Fl×Sto)->List Nat->Int->List Nat->Prop
 | ret (t:List Nat) (ln:Int) (l:List Nat) (d:Str):GtEnd b P (some (.ret (.str (strN t)),gtS b P ln l (frm1 (strN t) d))) t ln l
 | out (ln:Int) {kv:List (Str×V)} (hk:Frm kv):GtEnd b P (some (.next,gtE b P ln kv)) [] ln []
theorem zNV:∀(l:List Nat) (kv:List (Str×V)) (ln:Int) (fu:Nat) (t' l':List Nat) (ln':Int),Frm kv->qL ln l=some (t',ln',l')->l.length<=900->l.length < fu->GtEnd b P (wA b P 18 (gt0 P) fu (gtS b P ln l kv)) t' ln' l'
 | [],kv,ln,fu,t',l',ln',hk,h,hs,hf=>by
  obtain ⟨fu,rfl⟩:∃g,fu=g + 1:=⟨fu - 1,by omega⟩;cases h;unfold wA;rw [zIR (zPU hk)];exact .out _ hk
 | c::l,kv,ln,fu,t',l',ln',hk,h,hs,hf=>by
  obtain ⟨fu,rfl⟩:∃g,fu=g + 1:=⟨fu - 1,by omega⟩;simp only [List.length_cons] at hs hf;unfold qL at h;split at h
  ·rename_i h1
   unfold wA;rw [qZ (.inr (zQ2 hk h1))];exact zNV l _ _ fu t' l' ln' (.one _) h (by omega) (by omega)
  ·rename_i h1
   have h10:c≠10:=fun e=>by subst e; cases h1
   have hb:vG b P 18 (gt0 P) (gtS b P ln (c::l) kv)=(ev (cf b P) 18).x (w2 P) (wO P) (gtS b P ln l (frm1 (strN []) (strN [c]))):=by
    unfold vG;rw [zH1 (zOa hk h10),zRm,zDl (zRa h1),zO]
   have hq:vG b P 18 (gt0 P) (gtS b P ln (c::l) kv)=evs (ev (cf b P) 17) (if ([c]==[34]) then ifA (w2 P) else ifB (w2 P)) (wO P) (gtS b P ln l (frm1 (strN []) (strN [c]))):=by
    rw [hb,zSi,zTV w_q];rfl
   split at h
   ·rename_i h2
    subst h2;have hq:vG b P 18 (gt0 P) (gtS b P ln (34::l) kv)=evs (ev (cf b P) 17) (ifA (w2 P)) (wO P) (gtS b P ln l (frm1 (strN []) (strN [34]))):=hq;obtain ⟨d',e⟩:=zMH (b:=b) (P:=P) l.length l [] ln (strN [34]) 1000 t' l' ln' (Nat.le_refl _) h (by simp; omega) (by omega);rw [w2A,zO,xQ,e] at hq;unfold wA;rw [xA hq];exact .ret _ _ _ _
   ·rename_i h2
    have hq:vG b P 18 (gt0 P) (gtS b P ln (c::l) kv)=evs (ev (cf b P) 17) (ifB (w2 P)) (wO P) (gtS b P ln l (frm1 (strN []) (strN [c]))):=by
     rw [hq,ne1 h2]; rfl
    split at h
    ·rename_i h3
     subst h3;split at h
     ·cases h
     ·rename_i c2 l2 _
      simp only [List.length_cons] at hs hf;obtain ⟨d',e⟩:=zJc (b:=b) (P:=P) l2.length l2 [c2] (qM c2 ln) (strN [c2]) 1000 t' l' ln' (Nat.le_refl _) h (by simp; omega) (by omega);rw [w2B,zG zTn,zO,xR,e] at hq;unfold wA;rw [xA hq];exact .ret _ _ _ _
    ·rename_i h3
     obtain ⟨d',e⟩:=zJc (b:=b) (P:=P) l.length l [c] ln (strN [c]) 1000 t' l' ln' (Nat.le_refl _) (by rw [uK h10] at h; exact h) (by simp; omega) (by omega);rw [w2B,zG (zTr h3),zO,xR,e] at hq;unfold wA;rw [xA hq];exact .ret _ _ _ _
theorem zNy:(ev (cf b P) 20).c (.val (.ref 216)) [.trk 1] [] (qO b P ln l)=yR (ev (cf b P) 19) 11 (gtB P) (wO P) (qO b P ln l ++ [.ns [(S "self",.trk 1)]]):=by kernel_rfl
theorem zOu:gtB P=(gtB P).take 3 ++ [gt0 P,(gtB P).getD 4 default]:=by kernel_rfl
theorem zMl:evs (ev (cf b P) 19) ((gtB P).take 3) (wO P) (qO b P ln l ++ [.ns [(S "self",.trk 1)]])=some (.next,gtS b P ln l (frm0 (strN []))):=zD (ds:=[]) (ps:=[]) (by kernel_rfl) trivial
theorem x0:(ev (cf b P) 19).x (gt0 P) (wO P) (gtS b P ln l (frm0 (strN [])))=wA b P 18 (gt0 P) 1000 (gtS b P ln l (frm0 (strN []))):=by kernel_rfl
theorem zNh {kv:List (Str×V)}(hk:Frm kv):evs (ev (cf b P) 19) [(gtB P).getD 4 default] (wO P) (gtE b P ln kv)=some (.ret (.str (strN [])),gtE b P ln kv):=by
 cases hk <;>exact zD (ds:=[]) (ps:=[]) (by kernel_rfl) trivial
theorem zOM:gcv 11 (.str t) (gtS b P ln l (frm1 t d))=(.str t,qO b P ln l):=by kernel_rfl
theorem zMS {kv:List (Str×V)}(hk:Frm kv):gcv 11 (.str t) (gtE b P ln kv)=(.str t,qO b P ln []):=by cases hk <;>kernel_rfl
theorem zNN {t' l':List Nat}{ln':Int}(h:qL ln l=some (t',ln',l'))(hs:l.length<=900):(ev (cf b P) 20).c (.val (.ref 216)) [.trk 1] [] (qO b P ln l)=some (.str (strN t'),qO b P ln' l'):=by
 rw [zNy];unfold yR;have z:=zNV (b:=b) (P:=P) l _ ln 1000 t' l' ln' .zero h hs (by omega);rw [zOu,zG zMl];have e:evs (ev (cf b P) 19) [gt0 P,(gtB P).getD 4 default] (wO P) (gtS b P ln l (frm0 (strN [])))=match wA b P 18 (gt0 P) 1000 (gtS b P ln l (frm0 (strN []))) with
  | some (.next,σ₁)=>evs (ev (cf b P) 19) [(gtB P).getD 4 default] (wO P) σ₁
  | some (f,σ₁)=>some (f,σ₁)
  | none=>none:=by
  conv=>lhs; unfold evs
  rw [x0]
  try rfl
 rw [e];generalize wA b P 18 (gt0 P) 1000 (gtS b P ln l (frm0 (strN [])))=o at z ⊢;cases z with
 | ret t ln l d=>dsimp only; rw [zOM]
 | out ln hk=>dsimp only; rw [zNh hk]; dsimp only; rw [zMS hk]
end
end Mine
end
end
section
noncomputable section
namespace Mine
def zRJ:List Nat:=[304,309,330,342,216,131,352,347,337,316]
def yH (b:Bool)(P:Params)(la:Addr)(l:List Int)(a:Addr)(args:List V)(σ:Sto):Option (V×Sto):=
 if a=304 then (match args with
  | [.val (.ref a')]=>if a'=la then (ev (cf b P) 20).c (.val (.ref 304)) [.lst (l.map .int)] [] σ else none
  | _=>none) else (ev (cf b P) 20).c (.val (.ref a)) args [] σ
theorem zK {b:Bool}{P:Params}{la:Addr}{l:List Int}{a:Addr}{args:List V}{σ:Sto}(h:a≠304):yH b P la l a args σ=(ev (cf b P) 20).c (.val (.ref a)) args [] σ:=if_neg h
theorem zLr {b:Bool}{P:Params}{la:Addr}{l:List Int}{σ:Sto}:yH b P la l 304 [.val (.ref la)] σ=(ev (cf b P) 20).c (.val (.ref 304)) [.lst (l.map .int)] [] σ:=by
 unfold yH;rw [if_pos rfl];exact if_pos rfl
def cl (b:Bool)(P:Params)(la:Addr)(l:List Int):Cf:=cfF b P (yE · zRJ) (yH b P la l) 45
theorem zPZ {prog:Program}{w:World}{b:Bool}{la:Addr}{l:List Int}{vs:Array Value}(hv:∀ρ h,VRs ρ h (l.map V.int) vs.toList)(hn:List.lookup la (KL b w.params)=none):∀a,yE a zRJ=true->ConOK prog w (KX b w.params (zEp la vs)) 45 a (yH b w.params la l a):=fun a _=>by
 have CO:CfOK prog w (KX b w.params (zEp la vs)) (cf b w.params):=zR8 (iF:=fun _=>false) (F:=fun _ _ _=>none) (n:=0) fun a h=>by cases h
 by_cases ha:a=304
 ·subst ha
  intro args σ v σ' h A ρ s xs hA I rs;unfold yH at h;rw [if_pos rfl] at h;split at h
  ·rename_i a'
   split at h
   ·rename_i e
    subst a';obtain ⟨y,rfl,ry⟩:=zF rs;cases vrV ry;have hK:s.heap.get? la=some ⟨.type "list",none,.seq vs 0,#[]⟩/\la ∉ ρ:=by
     have e:List.lookup la (KX b w.params (zEp la vs))=some ⟨.type "list",none,.seq vs 0,#[]⟩:=by
      unfold KX zEp;rw [List.lookup_append,hn,List.lookup_cons,beq_self_eq_true];rfl
     refine ⟨I.stat _ _ e,fun m=>?_⟩;rw [I.sep _ m] at e;cases e
    refine zE5 CO (N:=20) (by decide) (F:=fun args σ=>(ev (cf b w.params) 20).c (.val (.ref 304)) args [] σ) (fun _ _ _ _ h=>h) _ _ _ _ h A ρ s [.ref la] hA I ⟨_,[],rfl,⟨la,vs,0,rfl,hK.2,hK.1,hv _ _⟩,rfl⟩
   ·cases h
  ·cases h
 ·intro args σ v σ' h
  rw [zK ha] at h;exact zE5 CO (N:=20) (by decide) (F:=fun args σ=>(ev (cf b w.params) 20).c (.val (.ref a)) args [] σ) (fun _ _ _ _ h=>h) _ _ _ _ h
def zM2 (b:Bool)(P:Params):FuncData:=qQ (zFx b P)
def lwB (b:Bool)(P:Params):List Stmt:=(wU (zM2 b P).body).getD []
def yO (b:Bool)(P:Params):AE:={scope:=(zM2 b P).scope,loc:=1,cells:=[(S "lexer",6),(S "table",5),(S "first",4),(S "row",3),(S "cells",2)],qual:=(zM2 b P).qualname ++ ".<locals>.",code:=(zM2 b P).code}
def lw0 (la:Addr):Sto:=[.ctab 332 false,.ns [(S "script",.val (.ref la))],.cell none,.cell none,.cell none,.cell none,.cell none]
end Mine
end
end
section
noncomputable section
namespace Mine
structure LD where
 la:Addr
 fi:Int
 c0:Int
 c1:Int
 c2:Int
 c3:Int
 c4:Int
 c5:Int
 c6:Int
 c7:Int
 c8:Int
 r0:Int
 r1:Int
 r2:Int
 r3:Int
 r4:Int
 r5:Int
 r6:Int
 d0:Str
 d1:Str
 d2:Str
 d3:Str
 d4:Str
 d5:Str
 d6:Str
 tx:Str
 w:Nat->Str
section
variable (D:LD)
abbrev LD.cs:List V:=[.int D.c0,.int D.c1,.int D.c2,.int D.c3,.int D.c4,.int D.c5,.int D.c6,.int D.c7,.int D.c8]
abbrev LD.rw:List V:=[.int D.r0,.int D.r1,.int D.r2,.int D.r3,.int D.r4,.int D.r5,.int D.r6]
abbrev LD.dk:List V:=[.str D.d0,.str D.d1,.str D.d2,.str D.d3,.str D.d4,.str D.d5,.str D.d6]
abbrev LD.hd:List V:=[.tup [.str (S "a"),.str D.d0],.tup [.str (S "B C"),.str D.d1],.tup [.str (S "d\""),.str D.d2],.tup [.str (S "E\\"),.str D.d3],.tup [.str (S "ss"),.str D.d4],.tup [.str (S "FFI"),.str D.d5],.tup [.str (S "st"),.str D.d6],.tup [.str (S "A"),.str D.d1],.tup [.str (S "b c"),.str D.d2],.tup [.str (S "D\""),.str D.d3],.tup [.str (S "e\\"),.str D.d4],.tup [.str (S "SS"),.str D.d5],.tup [.str (S "ffi"),.str D.d6],.tup [.str (S "ST"),.str D.d0]]
abbrev lwT (m:Bool)(kv:List (Str×V))(c4 c5 c6:Option V):Sto:=[.ctab 332 m,.ns ((S "script",.val (.ref D.la))::kv),.cell (some (.trk 7)),.cell (some (.trk 8)),.cell c4,.cell c5,.cell c6,.list D.cs,.list D.rw]
abbrev lw1:Sto:=[.ctab 332 false,.ns [(S "script",.val (.ref D.la))],.cell none,.cell none,.cell none,.cell none,.cell none]
abbrev lw3:Sto:=lwT D false [] (some (.int D.fi)) none none
abbrev dkO:Sto:=[.list (vK.map .str),.list D.dk]
abbrev lw4:Sto:=lwT D false [(S "deck",.trk 10)] (some (.int D.fi)) none none ++ dkO D
abbrev wdO:Sto:=[.list [.str (D.w 0),.str (D.w 1),.str (D.w 2),.str (D.w 3),.str (D.w 4),.str (D.w 5),.str (D.w 6)]]
abbrev lw5:Sto:=lwT D false [(S "deck",.trk 10),(S "text",.str D.tx)] (some (.int D.fi)) none none ++ dkO D ++ wdO D
abbrev hdO:Sto:=[.dict [(S "_headers",.trk 14)],.inst 184 12,.list D.hd]
abbrev kv7:List (Str×V):=[(S "deck",.trk 10),(S "text",.str D.tx),(S "card",.int 13),(S "word",.str (S "st"))]
abbrev lw7:Sto:=lwT D false (kv7 D) (some (.int D.fi)) (some (.trk 13)) none ++ dkO D ++ wdO D ++ hdO D
abbrev zRg (b:Bool)(P:Params)(ln:Int)(l:List Nat):Sto:=
  [.inst 226 16,.dict [(S "lineno",.int ln),(S "instream",.trk 17),(S "whitespace",.str wsS),(S "pushback",.trk 24)],.inst 226 18,
   .dict [(S "lineno",.int 1),(S "instream",.none),(S "whitespace",.str wsS),(S "pushback",.trk 19),(S "read",.trk 20)],.list [],.lam (zNU b P) [(S "signs",21)] 23,.cell (some (.trk 22)),.stk 1000 l,.crec (S "_law_lexer.<locals>.<lambda>"),.list []]
abbrev lw8 (b:Bool)(P:Params)(ln:Int)(l:List Nat):Sto:=lwT D true (kv7 D) (some (.int D.fi)) (some (.trk 13)) (some (.trk 15)) ++ dkO D ++ wdO D ++ hdO D ++ zRg b P ln l
abbrev kD:Sto:=[.ctab 332 true,.inst 184 2,.dict [(S "_headers",.trk 3)],.list D.hd]
end
end Mine
end
end
section
noncomputable section
namespace Mine
structure LE where
 ln:Nat->Int
 ll:Nat->List Nat
 t:Nat->Str
 f:Nat->Str
 h:Nat->Str
section
variable (b:Bool) (P:Params) (l:List Int) (D:LD) (E:LE)
def ds8:List Dec:=[
 .val 1 (.str (E.t 0)) (qO b P (E.ln 1) (E.ll 1)),.val 1 (.str (E.f 0)) [.ctab 332 true],.val 1 (.str (E.h 0)) (kD D),
 .val 3 (.str (E.t 1)) (qO b P (E.ln 2) (E.ll 2)),.val 1 (.str (E.f 1)) [.ctab 332 true],.val 1 (.str (E.h 1)) (kD D),
 .val 3 (.str (E.t 2)) (qO b P (E.ln 3) (E.ll 3)),.val 1 (.str (E.f 2)) [.ctab 332 true],.val 1 (.str (E.h 2)) (kD D),
 .val 3 (.str (E.t 3)) (qO b P (E.ln 4) (E.ll 4)),.val 1 (.str (E.f 3)) [.ctab 332 true],.val 1 (.str (E.h 3)) (kD D),
 .val 3 (.str (E.t 4)) (qO b P (E.ln 5) (E.ll 5)),.val 1 (.str (E.f 4)) [.ctab 332 true],.val 1 (.str (E.h 4)) (kD D),
 .val 3 (.str (E.t 5)) (qO b P (E.ln 6) (E.ll 6)),.val 1 (.str (E.f 5)) [.ctab 332 true],.val 1 (.str (E.h 5)) (kD D),
 .val 3 (.str (E.t 6)) (qO b P (E.ln 7) (E.ll 7)),.val 1 (.str (E.f 6)) [.ctab 332 true],.val 1 (.str (E.h 6)) (kD D)]
def pG (i:Nat):Prop:=yH b P D.la l 216 [.trk 1] (qO b P (E.ln i) (E.ll i))=some (.str (E.t i),qO b P (E.ln (i + 1)) (E.ll (i + 1)))
def pP (i:Nat):Prop:=yH b P D.la l 342 [.str (E.t i)] [.ctab 332 true]=some (.str (E.f i),[.ctab 332 true])
def pT (i:Nat):Prop:=yH b P D.la l 131 [.trk 1,.str (E.f i)] (kD D)=some (.str (E.h i),kD D)
def ps8:List Prop:=[pG b P l D E 0,pP b P l D E 0,pT b P l D E 0,pG b P l D E 1,pP b P l D E 1,pT b P l D E 1,pG b P l D E 2,pP b P l D E 2,pT b P l D E 2,pG b P l D E 3,pP b P l D E 3,pT b P l D E 3,
 pG b P l D E 4,pP b P l D E 4,pT b P l D E 4,pG b P l D E 5,pP b P l D E 5,pT b P l D E 5,pG b P l D E 6,pP b P l D E 6,pT b P l D E 6]
end
end Mine
end
end
section
noncomputable section
namespace Mine
def vJ (d:Str):Bool:=zAO #[14,14,4,1,1,9,4294966783,0,0,2147483648,0,0,0,0,0,13,11,9,4294966783,0,0,2147483648,0,0,0,0,0,1] && zGg #[14,14,4,1,1,9,4294966783,0,0,2147483648,0,0,0,0,0,13,11,9,4294966783,0,0,2147483648,0,0,0,0,0,1] d.cps.toList && decide (d.cps.size < 2 ^ 62)
def xE (sep:Str)(l:List Str):Bool:=!Builtin.Str.tooLong (l.toArray.foldl (· + ·.length + sep.length) 0) && decide ((zCc sep l).length<=sizeLine)
section
variable (b:Bool) (P:Params) (l:List Int) (D:LD) (E:LE)
abbrev exL (k:Nat)(σ:Sto):=evs (ev (cl b P D.la l) 34) (((lwB b P).drop k).take 1) (yO b P) σ
variable {b P l D E}
theorem zQ8 (hf:7 + Int.fmod D.c0 42=D.fi)(h1:yH b P D.la l 304 [.val (.ref D.la)] [.ctab 332 false]=some (.trk 1,[.ctab 332 false,.list D.cs]))(h2:yH b P D.la l 309 [.trk 1] [.ctab 332 false,.list D.cs]=some (.trk 2,[.ctab 332 false,.list D.cs,.list D.rw])):
  evs (ev (cl b P D.la l) 34) ((lwB b P).take 3) (yO b P) (lw1 D)=some (.next,lw3 D):=by
 have z:evs (ev (cl b P D.la l) 34) ((lwB b P).take 3) (yO b P) (lw1 D)=some (.next,lwT D false [] (some (.int (7 + Int.fmod D.c0 42))) none none):=
  zD (ds:=[.val 0 (.trk 1) [.ctab 332 false,.list D.cs],.val 1 (.trk 2) [.ctab 332 false,.list D.cs,.list D.rw]])
   (ps:=[yH b P D.la l 304 [.val (.ref D.la)] [.ctab 332 false]=some (.trk 1,[.ctab 332 false,.list D.cs]),yH b P D.la l 309 [.trk 1] [.ctab 332 false,.list D.cs]=some (.trk 2,[.ctab 332 false,.list D.cs,.list D.rw])]) (by kernel_rfl) ⟨h1,h2,trivial⟩
 rw [hf] at z;exact z
def zAg (k:Nat):List Str:=(vK.drop k).take 7
def kC (D:LD)(k:Nat):LD:={D with fi:= .ofNat (7 + k),d0:=(zAg k).getD 0 default,d1:=(zAg k).getD 1 default,d2:=(zAg k).getD 2 default,d3:=(zAg k).getD 3 default,d4:=(zAg k).getD 4 default,d5:=(zAg k).getD 5 default,d6:=(zAg k).getD 6 default}
theorem zTb:(zW 42).map (fun k=>exL b P l (kC D k) 3 (lw3 (kC D k)))=(zW 42).map fun k=>some (.next,lw4 (kC D k)):=by kernel_rfl
theorem s_4 (ht:zCc (S "") [D.w 0,D.w 1,D.w 2,D.w 3,D.w 4,D.w 5,D.w 6]=D.tx)(hj:xE (S "") [D.w 0,D.w 1,D.w 2,D.w 3,D.w 4,D.w 5,D.w 6]=true)
  (h0:yH b P D.la l 330 [.int D.r0,.int (Int.fmod (Int.fdiv D.c8 1) 32)] [.ctab 332 false]=some (.str (D.w 0),[.ctab 332 false]))
  (h1:yH b P D.la l 330 [.int D.r1,.int (Int.fmod (Int.fdiv D.c8 32) 32)] [.ctab 332 false]=some (.str (D.w 1),[.ctab 332 false]))
  (h2:yH b P D.la l 330 [.int D.r2,.int (Int.fmod (Int.fdiv D.c8 1024) 32)] [.ctab 332 false]=some (.str (D.w 2),[.ctab 332 false]))
  (h3:yH b P D.la l 330 [.int D.r3,.int (Int.fmod (Int.fdiv D.c8 32768) 32)] [.ctab 332 false]=some (.str (D.w 3),[.ctab 332 false]))
  (h4:yH b P D.la l 330 [.int D.r4,.int (Int.fmod (Int.fdiv D.c8 1048576) 32)] [.ctab 332 false]=some (.str (D.w 4),[.ctab 332 false]))
  (h5:yH b P D.la l 330 [.int D.r5,.int (Int.fmod (Int.fdiv D.c8 33554432) 32)] [.ctab 332 false]=some (.str (D.w 5),[.ctab 332 false]))
  (h6:yH b P D.la l 330 [.int D.r6,.int (Int.fmod (Int.fdiv D.c8 1073741824) 32)] [.ctab 332 false]=some (.str (D.w 6),[.ctab 332 false])):
  exL b P l D 4 (lw4 D)=some (.next,lw5 D):=by
 have z:exL b P l D 4 (lw4 D)=some (.next,lwT D false [(S "deck",.trk 10),(S "text",.str (zCc (S "") [D.w 0,D.w 1,D.w 2,D.w 3,D.w 4,D.w 5,D.w 6]))] (some (.int D.fi)) none none ++ dkO D ++ wdO D):=
  zD (ds:=[.val 6 (.str (D.w 0)) [.ctab 332 false],.val 8 (.str (D.w 1)) [.ctab 332 false],.val 8 (.str (D.w 2)) [.ctab 332 false],.val 8 (.str (D.w 3)) [.ctab 332 false],.val 8 (.str (D.w 4)) [.ctab 332 false],.val 8 (.str (D.w 5)) [.ctab 332 false],.val 8 (.str (D.w 6)) [.ctab 332 false],.ans 2 true])
   (ps:=[yH b P D.la l 330 [.int D.r0,.int (Int.fmod (Int.fdiv D.c8 1) 32)] [.ctab 332 false]=some (.str (D.w 0),[.ctab 332 false]),
    yH b P D.la l 330 [.int D.r1,.int (Int.fmod (Int.fdiv D.c8 32) 32)] [.ctab 332 false]=some (.str (D.w 1),[.ctab 332 false]),
    yH b P D.la l 330 [.int D.r2,.int (Int.fmod (Int.fdiv D.c8 1024) 32)] [.ctab 332 false]=some (.str (D.w 2),[.ctab 332 false]),
    yH b P D.la l 330 [.int D.r3,.int (Int.fmod (Int.fdiv D.c8 32768) 32)] [.ctab 332 false]=some (.str (D.w 3),[.ctab 332 false]),
    yH b P D.la l 330 [.int D.r4,.int (Int.fmod (Int.fdiv D.c8 1048576) 32)] [.ctab 332 false]=some (.str (D.w 4),[.ctab 332 false]),
    yH b P D.la l 330 [.int D.r5,.int (Int.fmod (Int.fdiv D.c8 33554432) 32)] [.ctab 332 false]=some (.str (D.w 5),[.ctab 332 false]),
    yH b P D.la l 330 [.int D.r6,.int (Int.fmod (Int.fdiv D.c8 1073741824) 32)] [.ctab 332 false]=some (.str (D.w 6),[.ctab 332 false]),
    xE (S "") [D.w 0,D.w 1,D.w 2,D.w 3,D.w 4,D.w 5,D.w 6]=true]) (by kernel_rfl) ⟨h0,h1,h2,h3,h4,h5,h6,hj,trivial⟩
 rw [ht] at z;exact z
def zLY (D:LD):Prop:=∀d∈[D.d0,D.d1,D.d2,D.d3,D.d4,D.d5,D.d6],vJ d=true/\xE (S "; ") [d]=true
theorem zTD (hd:zLY D):evs (ev (cl b P D.la l) 34) (((lwB b P).drop 5).take 2) (yO b P) (lw5 D)=some (.next,lw7 D):=by
 have a0:=hd D.d0 (by simp);have a1:=hd D.d1 (by simp);have a2:=hd D.d2 (by simp);have a3:=hd D.d3 (by simp);have a4:=hd D.d4 (by simp);have a5:=hd D.d5 (by simp);have a6:=hd D.d6 (by simp);exact zD (ds:=[.ans 17 true,.ans 7 true,.ans 16 true,.ans 7 true,.ans 15 true,.ans 7 true,.ans 16 true,.ans 7 true,.ans 15 true,.ans 7 true,.ans 16 true,.ans 7 true,.ans 15 true,.ans 7 true,.ans 16 true,.ans 7 true,.ans 15 true,.ans 7 true,.ans 16 true,.ans 7 true,.ans 15 true,.ans 7 true,.ans 16 true,.ans 7 true,.ans 15 true,.ans 7 true,.ans 16 true,.ans 7 true])
  (ps:=[vJ D.d0=true,xE (S "; ") [D.d0]=true,vJ D.d1=true,xE (S "; ") [D.d1]=true,vJ D.d2=true,xE (S "; ") [D.d2]=true,vJ D.d3=true,xE (S "; ") [D.d3]=true,vJ D.d4=true,xE (S "; ") [D.d4]=true,vJ D.d5=true,xE (S "; ") [D.d5]=true,vJ D.d6=true,xE (S "; ") [D.d6]=true,
   vJ D.d1=true,xE (S "; ") [D.d1]=true,vJ D.d2=true,xE (S "; ") [D.d2]=true,vJ D.d3=true,xE (S "; ") [D.d3]=true,vJ D.d4=true,xE (S "; ") [D.d4]=true,vJ D.d5=true,xE (S "; ") [D.d5]=true,vJ D.d6=true,xE (S "; ") [D.d6]=true,vJ D.d0=true,xE (S "; ") [D.d0]=true]) (by kernel_rfl)
  ⟨a0.1,a0.2,a1.1,a1.2,a2.1,a2.2,a3.1,a3.2,a4.1,a4.2,a5.1,a5.2,a6.1,a6.2,a1.1,a1.2,a2.1,a2.2,a3.1,a3.2,a4.1,a4.2,a5.1,a5.2,a6.1,a6.2,a0.1,a0.2,trivial⟩
theorem s_7 (h:yH b P D.la l 337 [.str D.tx] [.ctab 332 false]=some (.trk 1,qO b P 1 D.tx.cps.toList)):exL b P l D 7 (lw7 D)=some (.next,lw8 D b P 1 D.tx.cps.toList):=
 zD (ds:=[.val 0 (.trk 1) (qO b P 1 D.tx.cps.toList)]) (ps:=[yH b P D.la l 337 [.str D.tx] [.ctab 332 false]=some (.trk 1,qO b P 1 D.tx.cps.toList)]) (by kernel_rfl) ⟨h,trivial⟩
abbrev heO (E:LE):Sto:=[.list [.str (E.h 0),.str (E.h 1),.str (E.h 2),.str (E.h 3),.str (E.h 4),.str (E.h 5),.str (E.h 6)]]
abbrev lwH (b:Bool)(P:Params)(D:LD)(E:LE)(kv:List (Str×V))(ln:Int)(ll:List Nat):Sto:=lwT D true (kv7 D ++ (S "heard",.trk 25)::kv) (some (.int D.fi)) (some (.trk 13)) (some (.trk 15)) ++ dkO D ++ wdO D ++ hdO D ++ zRg b P ln ll ++ heO E
theorem s_8 (h:∀i,i < 7->pG b P l D E i/\pP b P l D E i/\pT b P l D E i):exL b P l D 8 (lw8 D b P (E.ln 0) (E.ll 0))=some (.next,lwH b P D E [] (E.ln 7) (E.ll 7)):=
 zD (ds:=ds8 b P D E) (ps:=ps8 b P l D E) (by kernel_rfl) ⟨(h 0 (by decide)).1,(h 0 (by decide)).2.1,(h 0 (by decide)).2.2,(h 1 (by decide)).1,(h 1 (by decide)).2.1,(h 1 (by decide)).2.2,(h 2 (by decide)).1,(h 2 (by decide)).2.1,(h 2 (by decide)).2.2,
  (h 3 (by decide)).1,(h 3 (by decide)).2.1,(h 3 (by decide)).2.2,(h 4 (by decide)).1,(h 4 (by decide)).2.1,(h 4 (by decide)).2.2,(h 5 (by decide)).1,(h 5 (by decide)).2.1,(h 5 (by decide)).2.2,(h 6 (by decide)).1,(h 6 (by decide)).2.1,(h 6 (by decide)).2.2,trivial⟩
abbrev toO (D:LD):Sto:=[.list [.int (D.fi + D.r0),.int (D.fi + D.r1),.int (D.fi + D.r2),.int (D.fi + D.r3),.int (D.fi + D.r4),.int (D.fi + D.r5),.int (D.fi + D.r6)]]
def pE (b:Bool)(P:Params)(x:Str)(e:Int):Prop:=((zEu b P).sget 295 x).map (fun r=>(r.getD .none,([]:Sto)))=some (.int e,[])
abbrev lwO (b:Bool)(P:Params)(D:LD)(E:LE)(kv:List (Str×V))(ln:Int)(ll:List Nat):Sto:=lwH b P D E ((S "told",.trk 26)::kv) ln ll ++ toO D
theorem s_9 {ln:Int}{ll:List Nat}(h0:pE b P (E.h 0) (D.fi + D.r0))(h1:pE b P (E.h 1) (D.fi + D.r1))(h2:pE b P (E.h 2) (D.fi + D.r2))(h3:pE b P (E.h 3) (D.fi + D.r3))(h4:pE b P (E.h 4) (D.fi + D.r4))(h5:pE b P (E.h 5) (D.fi + D.r5))(h6:pE b P (E.h 6) (D.fi + D.r6)):
  exL b P l D 9 (lwH b P D E [] ln ll)=some (.next,lwO b P D E [] ln ll):=
 zD (ds:=[.val 1 (.int (D.fi + D.r0)) [],.val 2 (.int (D.fi + D.r1)) [],.val 2 (.int (D.fi + D.r2)) [],.val 2 (.int (D.fi + D.r3)) [],.val 2 (.int (D.fi + D.r4)) [],.val 2 (.int (D.fi + D.r5)) [],.val 2 (.int (D.fi + D.r6)) []])
  (ps:=[pE b P (E.h 0) (D.fi + D.r0),pE b P (E.h 1) (D.fi + D.r1),pE b P (E.h 2) (D.fi + D.r2),pE b P (E.h 3) (D.fi + D.r3),pE b P (E.h 4) (D.fi + D.r4),pE b P (E.h 5) (D.fi + D.r5),pE b P (E.h 6) (D.fi + D.r6)]) (by kernel_rfl) ⟨h0,h1,h2,h3,h4,h5,h6,trivial⟩
def toP (D:LD):PyData:= .list [.int (D.fi + D.r0),.int (D.fi + D.r1),.int (D.fi + D.r2),.int (D.fi + D.r3),.int (D.fi + D.r4),.int (D.fi + D.r5),.int (D.fi + D.r6)]
theorem zLg:(!(toP D).eqv (toP D))=false:=by
 simp [toP,PyData.eqv,PyData.eqvAll]
end
end Mine
end
end
section
noncomputable section
namespace Mine
section
variable (b:Bool) (P:Params) (l:List Int) (D:LD) (E:LE)
abbrev gbO (D:LD):Sto:=toO D
abbrev kvL (T B N:Bool)(kv:List (Str×V)):List (Str×V):=(S "tops",.bool T)::(S "blocks",.bool B)::(S "near",.bool N)::kv
abbrev lwV (T B N:Bool)(kv:List (Str×V))(ln:Int)(ll:List Nat):Sto:=lwO b P D E (kvL T B N kv) ln ll ++ gbO D
def qE (b:Bool)(P:Params):Stmt:=(lwB b P).getD 15 default
def zCr (b:Bool)(P:Params):Stmt:=(yU (qE b P)).getD 1 default
end
end Mine
end
end
section
noncomputable section
namespace Mine
abbrev kvI (s t:Int)(u:Bool):List (Str×V):=[(S "size",.int s),(S "start",.int t),(S "unlike",.bool u)]
def rI (D:LD):List Int:=[D.r0,D.r1,D.r2,D.r3,D.r4,D.r5,D.r6]
abbrev rL (s:Nat)(D:LD):Sto:=[.list (((rI D).take s).map .int),.list (((rI D).take s).map .int)]
def pst (s t:Nat)(D:LD)(E:LE):Sto:=[.ctab 332 true,.list ((zB t s).map fun i=> .str (E.h i)),.list ((((rI D).drop t).take s).map fun r=> .int (D.fi + r))]
def pU (s t:Nat)(b:Bool)(P:Params)(l:List Int)(D:LD)(E:LE)(u:Bool):Prop:=yH b P D.la l 352 [.trk 1,.trk 2,.int (Int.ofNat s)] (pst s t D E)=some (.bool u,pst s t D E)
def qN (s:Nat)(D:LD):Bool:=decide (zAd (fun x b=>decide (x >b)) ((rI D).take s) - zAd (fun x b=>decide (x < b)) ((rI D).take s) ≥ Int.ofNat s)
section
variable (b:Bool) (P:Params) (l:List Int) (D:LD) (E:LE) (ln:Int)
abbrev lwI (s:Nat)(T B N:Bool)(kv:List (Str×V)):Sto:=lwV b P D E T B N kv ln [] ++ rL s D
abbrev uU (s k:Nat)(σ:Sto):=kK (ev (cl b P D.la l) 32) (qP (zCr b P)) (yU (zCr b P)) (yO b P) 30 (nxR 0 (Int.ofNat (8 - s)) (Int.ofNat s)) k σ
abbrev zH9 (s fu k:Nat)(σ:Sto):=yD (ev (cl b P D.la l) 32) (qP (zCr b P)) (yU (zCr b P)) (yO b P) 30 (nxR 0 (Int.ofNat (8 - s)) (Int.ofNat s)) fu k σ
end
section
variable {b:Bool} {P:Params} {l:List Int} {D:LD} {E:LE} {ln:Int} {T B N u0 u q:Bool}
theorem zSK {ln7:Int}{ll7:List Nat}(h:yH b P D.la l 216 [.trk 1] (qO b P ln7 ll7)=some (.str (strN []),qO b P ln []))(hc:(!ln==1 + ((Builtin.Str.occurrences D.tx (S "\n") 0 D.tx.length (D.tx.length + 1)).length:Int))=false):
  exL b P l D 11 (lwO b P D E [] ln7 ll7 ++ gbO D)=some (.next,lwO b P D E [] ln [] ++ gbO D):=
 zD (ds:=[.val 0 (.str (strN [])) (qO b P ln []),.ans 4 false]) (ps:=[yH b P D.la l 216 [.trk 1] (qO b P ln7 ll7)=some (.str (strN []),qO b P ln []),(!ln==1 + ((Builtin.Str.occurrences D.tx (S "\n") 0 D.tx.length (D.tx.length + 1)).length:Int))=false]) (by kernel_rfl) ⟨h,hc,trivial⟩
theorem zQi:evs (ev (cl b P D.la l) 34) (((lwB b P).drop 12).take 3) (yO b P) (lwO b P D E [] ln [] ++ gbO D)=some (.next,lwV b P D E true true true [] ln []):=zD (ds:=[]) (ps:=[]) (by kernel_rfl) trivial
theorem wN {r:Rec}{t:Expr}{body:List Stmt}{ae:AE}{m k:Nat}{nx:Sto->Nat->Option (Option V)}{σ σ₁ σ₂ σ₃:Sto}{v:V}(h1:nx σ k=some (some v))(h2:qD t v ae σ=some σ₁)(h3:evs r body ae σ₁=some (.next,σ₂))(h4:gc m σ₂=σ₃):kK r t body ae m nx k σ=some (.next,σ₃):=by
 unfold kK;rw [h1];dsimp only;rw [h2];dsimp only;rw [h3];dsimp only;rw [h4]
theorem zDF:yU (qE b P)=(yU (qE b P)).take 1 ++ [zCr b P]:=by kernel_rfl
theorem zQK (h:pU 1 0 b P l D E u):uU b P l D 1 0 (lwI b P D E ln 1 T B N [(S "size",.int 1)])=some (.next,lwI b P D E ln 1 (T && u) (B && u) N (kvI 1 0 u)):=by
 cases u <;>cases T <;>cases B <;>first | exact zJ (ds:=[.val 4 (.bool false) (pst 1 0 D E)]) (ps:=[pU 1 0 b P l D E false]) (by kernel_rfl) ⟨h,trivial⟩ | exact zJ (ds:=[.val 4 (.bool true) (pst 1 0 D E)]) (ps:=[pU 1 0 b P l D E true]) (by kernel_rfl) ⟨h,trivial⟩
theorem zOg (h:pU 1 1 b P l D E u):uU b P l D 1 1 (lwI b P D E ln 1 T B N (kvI 1 0 u0))=some (.next,lwI b P D E ln 1 T (B && u) N (kvI 1 1 u)):=by
 cases u <;>cases T <;>cases B <;>first | exact zJ (ds:=[.val 4 (.bool false) (pst 1 1 D E)]) (ps:=[pU 1 1 b P l D E false]) (by kernel_rfl) ⟨h,trivial⟩ | exact zJ (ds:=[.val 4 (.bool true) (pst 1 1 D E)]) (ps:=[pU 1 1 b P l D E true]) (by kernel_rfl) ⟨h,trivial⟩
theorem zOc (h:pU 1 2 b P l D E u):uU b P l D 1 2 (lwI b P D E ln 1 T B N (kvI 1 1 u0))=some (.next,lwI b P D E ln 1 T (B && u) N (kvI 1 2 u)):=by
 cases u <;>cases T <;>cases B <;>first | exact zJ (ds:=[.val 4 (.bool false) (pst 1 2 D E)]) (ps:=[pU 1 2 b P l D E false]) (by kernel_rfl) ⟨h,trivial⟩ | exact zJ (ds:=[.val 4 (.bool true) (pst 1 2 D E)]) (ps:=[pU 1 2 b P l D E true]) (by kernel_rfl) ⟨h,trivial⟩
theorem zOQ (h:pU 1 3 b P l D E u):uU b P l D 1 3 (lwI b P D E ln 1 T B N (kvI 1 2 u0))=some (.next,lwI b P D E ln 1 T (B && u) N (kvI 1 3 u)):=by
 cases u <;>cases T <;>cases B <;>first | exact zJ (ds:=[.val 4 (.bool false) (pst 1 3 D E)]) (ps:=[pU 1 3 b P l D E false]) (by kernel_rfl) ⟨h,trivial⟩ | exact zJ (ds:=[.val 4 (.bool true) (pst 1 3 D E)]) (ps:=[pU 1 3 b P l D E true]) (by kernel_rfl) ⟨h,trivial⟩
theorem zQj (h:pU 1 4 b P l D E u):uU b P l D 1 4 (lwI b P D E ln 1 T B N (kvI 1 3 u0))=some (.next,lwI b P D E ln 1 T (B && u) N (kvI 1 4 u)):=by
 cases u <;>cases T <;>cases B <;>first | exact zJ (ds:=[.val 4 (.bool false) (pst 1 4 D E)]) (ps:=[pU 1 4 b P l D E false]) (by kernel_rfl) ⟨h,trivial⟩ | exact zJ (ds:=[.val 4 (.bool true) (pst 1 4 D E)]) (ps:=[pU 1 4 b P l D E true]) (by kernel_rfl) ⟨h,trivial⟩
theorem zO8 (h:pU 1 5 b P l D E u):uU b P l D 1 5 (lwI b P D E ln 1 T B N (kvI 1 4 u0))=some (.next,lwI b P D E ln 1 T (B && u) N (kvI 1 5 u)):=by
 cases u <;>cases T <;>cases B <;>first | exact zJ (ds:=[.val 4 (.bool false) (pst 1 5 D E)]) (ps:=[pU 1 5 b P l D E false]) (by kernel_rfl) ⟨h,trivial⟩ | exact zJ (ds:=[.val 4 (.bool true) (pst 1 5 D E)]) (ps:=[pU 1 5 b P l D E true]) (by kernel_rfl) ⟨h,trivial⟩
theorem zQu (h:pU 1 6 b P l D E u):uU b P l D 1 6 (lwI b P D E ln 1 T B N (kvI 1 5 u0))=some (.next,lwI b P D E ln 1 T (B && u) N (kvI 1 6 u)):=by
 cases u <;>cases T <;>cases B <;>first | exact zJ (ds:=[.val 4 (.bool false) (pst 1 6 D E)]) (ps:=[pU 1 6 b P l D E false]) (by kernel_rfl) ⟨h,trivial⟩ | exact zJ (ds:=[.val 4 (.bool true) (pst 1 6 D E)]) (ps:=[pU 1 6 b P l D E true]) (by kernel_rfl) ⟨h,trivial⟩
theorem zON (h:pU 2 0 b P l D E u):uU b P l D 2 0 (lwI b P D E ln 2 T B N (kvI 2 6 u0))=some (.next,lwI b P D E ln 2 (T && u) (B && u) N (kvI 2 0 u)):=by
 cases u <;>cases T <;>cases B <;>first | exact zJ (ds:=[.val 4 (.bool false) (pst 2 0 D E)]) (ps:=[pU 2 0 b P l D E false]) (by kernel_rfl) ⟨h,trivial⟩ | exact zJ (ds:=[.val 4 (.bool true) (pst 2 0 D E)]) (ps:=[pU 2 0 b P l D E true]) (by kernel_rfl) ⟨h,trivial⟩
theorem zPh (h:pU 2 2 b P l D E u):uU b P l D 2 1 (lwI b P D E ln 2 T B N (kvI 2 0 u0))=some (.next,lwI b P D E ln 2 T (B && u) N (kvI 2 2 u)):=by
 cases u <;>cases T <;>cases B <;>first | exact zJ (ds:=[.val 4 (.bool false) (pst 2 2 D E)]) (ps:=[pU 2 2 b P l D E false]) (by kernel_rfl) ⟨h,trivial⟩ | exact zJ (ds:=[.val 4 (.bool true) (pst 2 2 D E)]) (ps:=[pU 2 2 b P l D E true]) (by kernel_rfl) ⟨h,trivial⟩
theorem zOJ (h:pU 2 4 b P l D E u):uU b P l D 2 2 (lwI b P D E ln 2 T B N (kvI 2 2 u0))=some (.next,lwI b P D E ln 2 T (B && u) N (kvI 2 4 u)):=by
 cases u <;>cases T <;>cases B <;>first | exact zJ (ds:=[.val 4 (.bool false) (pst 2 4 D E)]) (ps:=[pU 2 4 b P l D E false]) (by kernel_rfl) ⟨h,trivial⟩ | exact zJ (ds:=[.val 4 (.bool true) (pst 2 4 D E)]) (ps:=[pU 2 4 b P l D E true]) (by kernel_rfl) ⟨h,trivial⟩
theorem zPw (h:pU 3 0 b P l D E u):uU b P l D 3 0 (lwI b P D E ln 3 T B N (kvI 3 4 u0))=some (.next,lwI b P D E ln 3 (T && u) (B && u) N (kvI 3 0 u)):=by
 cases u <;>cases T <;>cases B <;>first | exact zJ (ds:=[.val 4 (.bool false) (pst 3 0 D E)]) (ps:=[pU 3 0 b P l D E false]) (by kernel_rfl) ⟨h,trivial⟩ | exact zJ (ds:=[.val 4 (.bool true) (pst 3 0 D E)]) (ps:=[pU 3 0 b P l D E true]) (by kernel_rfl) ⟨h,trivial⟩
theorem zPV (h:pU 3 3 b P l D E u):uU b P l D 3 1 (lwI b P D E ln 3 T B N (kvI 3 0 u0))=some (.next,lwI b P D E ln 3 T (B && u) N (kvI 3 3 u)):=by
 cases u <;>cases T <;>cases B <;>first | exact zJ (ds:=[.val 4 (.bool false) (pst 3 3 D E)]) (ps:=[pU 3 3 b P l D E false]) (by kernel_rfl) ⟨h,trivial⟩ | exact zJ (ds:=[.val 4 (.bool true) (pst 3 3 D E)]) (ps:=[pU 3 3 b P l D E true]) (by kernel_rfl) ⟨h,trivial⟩
theorem zOX (h:pU 4 0 b P l D E u):uU b P l D 4 0 (lwI b P D E ln 4 T B N (kvI 4 3 u0))=some (.next,lwI b P D E ln 4 (T && u) (B && u) N (kvI 4 0 u)):=by
 cases u <;>cases T <;>cases B <;>first | exact zJ (ds:=[.val 4 (.bool false) (pst 4 0 D E)]) (ps:=[pU 4 0 b P l D E false]) (by kernel_rfl) ⟨h,trivial⟩ | exact zJ (ds:=[.val 4 (.bool true) (pst 4 0 D E)]) (ps:=[pU 4 0 b P l D E true]) (by kernel_rfl) ⟨h,trivial⟩
theorem zQJ (h:pU 5 0 b P l D E u):uU b P l D 5 0 (lwI b P D E ln 5 T B N (kvI 5 0 u0))=some (.next,lwI b P D E ln 5 (T && u) (B && u) N (kvI 5 0 u)):=by
 cases u <;>cases T <;>cases B <;>first | exact zJ (ds:=[.val 4 (.bool false) (pst 5 0 D E)]) (ps:=[pU 5 0 b P l D E false]) (by kernel_rfl) ⟨h,trivial⟩ | exact zJ (ds:=[.val 4 (.bool true) (pst 5 0 D E)]) (ps:=[pU 5 0 b P l D E true]) (by kernel_rfl) ⟨h,trivial⟩
theorem zQh (h:pU 6 0 b P l D E u):uU b P l D 6 0 (lwI b P D E ln 6 T B N (kvI 6 0 u0))=some (.next,lwI b P D E ln 6 (T && u) (B && u) N (kvI 6 0 u)):=by
 cases u <;>cases T <;>cases B <;>first | exact zJ (ds:=[.val 4 (.bool false) (pst 6 0 D E)]) (ps:=[pU 6 0 b P l D E false]) (by kernel_rfl) ⟨h,trivial⟩ | exact zJ (ds:=[.val 4 (.bool true) (pst 6 0 D E)]) (ps:=[pU 6 0 b P l D E true]) (by kernel_rfl) ⟨h,trivial⟩
theorem zQE (h:pU 7 0 b P l D E u):uU b P l D 7 0 (lwI b P D E ln 7 T B N (kvI 7 0 u0))=some (.next,lwI b P D E ln 7 (T && u) (B && u) N (kvI 7 0 u)):=by
 cases u <;>cases T <;>cases B <;>first | exact zJ (ds:=[.val 4 (.bool false) (pst 7 0 D E)]) (ps:=[pU 7 0 b P l D E false]) (by kernel_rfl) ⟨h,trivial⟩ | exact zJ (ds:=[.val 4 (.bool true) (pst 7 0 D E)]) (ps:=[pU 7 0 b P l D E true]) (by kernel_rfl) ⟨h,trivial⟩
theorem zSQ (h:qN 1 D=q):evs (ev (cl b P D.la l) 33) ((yU (qE b P)).take 1) (yO b P) (lwV b P D E T B N [(S "size",.int 1)] ln [])=some (.next,lwI b P D E ln 1 T B (if q then false else N) [(S "size",.int 1)]):=by
 cases q
 ·exact zD (ds:=[.ans 5 false]) (ps:=[qN 1 D=false]) (by kernel_rfl) ⟨h,trivial⟩
 ·exact zD (ds:=[.ans 5 true]) (ps:=[qN 1 D=true]) (by kernel_rfl) ⟨h,trivial⟩
theorem zRq:(ev (cl b P D.la l) 33).x (zCr b P) (yO b P) (lwI b P D E ln 1 T B N [(S "size",.int 1)])=zH9 b P l D 1 1000 0 (lwI b P D E ln 1 T B N [(S "size",.int 1)]):=by kernel_rfl
theorem zRn {vX zBX zCh zCf zCg zCe uW:Bool}(hq:qN 1 D=q)(h0:pU 1 0 b P l D E vX)(h1:pU 1 1 b P l D E zBX)(h2:pU 1 2 b P l D E zCh)(h3:pU 1 3 b P l D E zCf)(h4:pU 1 4 b P l D E zCg)(h5:pU 1 5 b P l D E zCe)(h6:pU 1 6 b P l D E uW):kK (ev (cl b P D.la l) 33) (qP (qE b P)) (yU (qE b P)) (yO b P) 28 (nxR 1 8 1) 0 (lwV b P D E T B N [] ln [])=some (.next,lwV b P D E (T && vX) (((((((B && vX) && zBX) && zCh) && zCf) && zCg) && zCe) && uW) (if q then false else N) (kvI 1 6 uW) ln []):=by
 refine wN (v:= .int 1) (σ₁:=lwV b P D E T B N [(S "size",.int 1)] ln []) (σ₂:=lwI b P D E ln 1 (T && vX) (((((((B && vX) && zBX) && zCh) && zCf) && zCg) && zCe) && uW) (if q then false else N) (kvI 1 6 uW)) (by kernel_rfl) (by kernel_rfl) ?_ (by kernel_rfl);rw [zDF,zG (zSQ hq),zO,zRq];exact (zC (fu:=999) (zQK h0)).trans ((zC (fu:=998) (zOg h1)).trans ((zC (fu:=997) (zOc h2)).trans ((zC (fu:=996) (zOQ h3)).trans ((zC (fu:=995) (zQj h4)).trans ((zC (fu:=994) (zO8 h5)).trans ((zC (fu:=993) (zQu h6)).trans (zV (fu:=992) (by kernel_rfl))))))))
theorem zSM (h:qN 2 D=q):evs (ev (cl b P D.la l) 33) ((yU (qE b P)).take 1) (yO b P) (lwV b P D E T B N (kvI 2 6 u0) ln [])=some (.next,lwI b P D E ln 2 T B (if q then false else N) (kvI 2 6 u0)):=by
 cases q
 ·exact zD (ds:=[.ans 5 false]) (ps:=[qN 2 D=false]) (by kernel_rfl) ⟨h,trivial⟩
 ·exact zD (ds:=[.ans 5 true]) (ps:=[qN 2 D=true]) (by kernel_rfl) ⟨h,trivial⟩
theorem zRS:(ev (cl b P D.la l) 33).x (zCr b P) (yO b P) (lwI b P D E ln 2 T B N (kvI 2 6 u0))=zH9 b P l D 2 1000 0 (lwI b P D E ln 2 T B N (kvI 2 6 u0)):=by kernel_rfl
theorem zRN {uJ zB4 uY:Bool}(hq:qN 2 D=q)(h0:pU 2 0 b P l D E uJ)(h2:pU 2 2 b P l D E zB4)(h4:pU 2 4 b P l D E uY):kK (ev (cl b P D.la l) 33) (qP (qE b P)) (yU (qE b P)) (yO b P) 28 (nxR 1 8 1) 1 (lwV b P D E T B N (kvI 1 6 u0) ln [])=some (.next,lwV b P D E (T && uJ) (((B && uJ) && zB4) && uY) (if q then false else N) (kvI 2 4 uY) ln []):=by
 refine wN (v:= .int 2) (σ₁:=lwV b P D E T B N (kvI 2 6 u0) ln []) (σ₂:=lwI b P D E ln 2 (T && uJ) (((B && uJ) && zB4) && uY) (if q then false else N) (kvI 2 4 uY)) (by kernel_rfl) (by kernel_rfl) ?_ (by kernel_rfl);rw [zDF,zG (zSM hq),zO,zRS];exact (zC (fu:=999) (zON h0)).trans ((zC (fu:=998) (zPh h2)).trans ((zC (fu:=997) (zOJ h4)).trans (zV (fu:=996) (by kernel_rfl))))
theorem zTQ (h:qN 3 D=q):evs (ev (cl b P D.la l) 33) ((yU (qE b P)).take 1) (yO b P) (lwV b P D E T B N (kvI 3 4 u0) ln [])=some (.next,lwI b P D E ln 3 T B (if q then false else N) (kvI 3 4 u0)):=by
 cases q
 ·exact zD (ds:=[.ans 5 false]) (ps:=[qN 3 D=false]) (by kernel_rfl) ⟨h,trivial⟩
 ·exact zD (ds:=[.ans 5 true]) (ps:=[qN 3 D=true]) (by kernel_rfl) ⟨h,trivial⟩
theorem zRO:(ev (cl b P D.la l) 33).x (zCr b P) (yO b P) (lwI b P D E ln 3 T B N (kvI 3 4 u0))=zH9 b P l D 3 1000 0 (lwI b P D E ln 3 T B N (kvI 3 4 u0)):=by kernel_rfl
theorem zRx {vU zAh:Bool}(hq:qN 3 D=q)(h0:pU 3 0 b P l D E vU)(h3:pU 3 3 b P l D E zAh):kK (ev (cl b P D.la l) 33) (qP (qE b P)) (yU (qE b P)) (yO b P) 28 (nxR 1 8 1) 2 (lwV b P D E T B N (kvI 2 4 u0) ln [])=some (.next,lwV b P D E (T && vU) ((B && vU) && zAh) (if q then false else N) (kvI 3 3 zAh) ln []):=by
 refine wN (v:= .int 3) (σ₁:=lwV b P D E T B N (kvI 3 4 u0) ln []) (σ₂:=lwI b P D E ln 3 (T && vU) ((B && vU) && zAh) (if q then false else N) (kvI 3 3 zAh)) (by kernel_rfl) (by kernel_rfl) ?_ (by kernel_rfl);rw [zDF,zG (zTQ hq),zO,zRO];exact (zC (fu:=999) (zPw h0)).trans ((zC (fu:=998) (zPV h3)).trans (zV (fu:=997) (by kernel_rfl)))
theorem zTz (h:qN 4 D=q):evs (ev (cl b P D.la l) 33) ((yU (qE b P)).take 1) (yO b P) (lwV b P D E T B N (kvI 4 3 u0) ln [])=some (.next,lwI b P D E ln 4 T B (if q then false else N) (kvI 4 3 u0)):=by
 cases q
 ·exact zD (ds:=[.ans 5 false]) (ps:=[qN 4 D=false]) (by kernel_rfl) ⟨h,trivial⟩
 ·exact zD (ds:=[.ans 5 true]) (ps:=[qN 4 D=true]) (by kernel_rfl) ⟨h,trivial⟩
theorem zRF:(ev (cl b P D.la l) 33).x (zCr b P) (yO b P) (lwI b P D E ln 4 T B N (kvI 4 3 u0))=zH9 b P l D 4 1000 0 (lwI b P D E ln 4 T B N (kvI 4 3 u0)):=by kernel_rfl
theorem zSk {wE:Bool}(hq:qN 4 D=q)(h0:pU 4 0 b P l D E wE):kK (ev (cl b P D.la l) 33) (qP (qE b P)) (yU (qE b P)) (yO b P) 28 (nxR 1 8 1) 3 (lwV b P D E T B N (kvI 3 3 u0) ln [])=some (.next,lwV b P D E (T && wE) (B && wE) (if q then false else N) (kvI 4 0 wE) ln []):=by
 refine wN (v:= .int 4) (σ₁:=lwV b P D E T B N (kvI 4 3 u0) ln []) (σ₂:=lwI b P D E ln 4 (T && wE) (B && wE) (if q then false else N) (kvI 4 0 wE)) (by kernel_rfl) (by kernel_rfl) ?_ (by kernel_rfl);rw [zDF,zG (zTz hq),zO,zRF];exact (zC (fu:=999) (zOX h0)).trans (zV (fu:=998) (by kernel_rfl))
theorem zSE (h:qN 5 D=q):evs (ev (cl b P D.la l) 33) ((yU (qE b P)).take 1) (yO b P) (lwV b P D E T B N (kvI 5 0 u0) ln [])=some (.next,lwI b P D E ln 5 T B (if q then false else N) (kvI 5 0 u0)):=by
 cases q
 ·exact zD (ds:=[.ans 5 false]) (ps:=[qN 5 D=false]) (by kernel_rfl) ⟨h,trivial⟩
 ·exact zD (ds:=[.ans 5 true]) (ps:=[qN 5 D=true]) (by kernel_rfl) ⟨h,trivial⟩
theorem zSo:(ev (cl b P D.la l) 33).x (zCr b P) (yO b P) (lwI b P D E ln 5 T B N (kvI 5 0 u0))=zH9 b P l D 5 1000 0 (lwI b P D E ln 5 T B N (kvI 5 0 u0)):=by kernel_rfl
theorem zRd {xX:Bool}(hq:qN 5 D=q)(h0:pU 5 0 b P l D E xX):kK (ev (cl b P D.la l) 33) (qP (qE b P)) (yU (qE b P)) (yO b P) 28 (nxR 1 8 1) 4 (lwV b P D E T B N (kvI 4 0 u0) ln [])=some (.next,lwV b P D E (T && xX) (B && xX) (if q then false else N) (kvI 5 0 xX) ln []):=by
 refine wN (v:= .int 5) (σ₁:=lwV b P D E T B N (kvI 5 0 u0) ln []) (σ₂:=lwI b P D E ln 5 (T && xX) (B && xX) (if q then false else N) (kvI 5 0 xX)) (by kernel_rfl) (by kernel_rfl) ?_ (by kernel_rfl);rw [zDF,zG (zSE hq),zO,zSo];exact (zC (fu:=999) (zQJ h0)).trans (zV (fu:=998) (by kernel_rfl))
theorem zST (h:qN 6 D=q):evs (ev (cl b P D.la l) 33) ((yU (qE b P)).take 1) (yO b P) (lwV b P D E T B N (kvI 6 0 u0) ln [])=some (.next,lwI b P D E ln 6 T B (if q then false else N) (kvI 6 0 u0)):=by
 cases q
 ·exact zD (ds:=[.ans 5 false]) (ps:=[qN 6 D=false]) (by kernel_rfl) ⟨h,trivial⟩
 ·exact zD (ds:=[.ans 5 true]) (ps:=[qN 6 D=true]) (by kernel_rfl) ⟨h,trivial⟩
theorem zSt:(ev (cl b P D.la l) 33).x (zCr b P) (yO b P) (lwI b P D E ln 6 T B N (kvI 6 0 u0))=zH9 b P l D 6 1000 0 (lwI b P D E ln 6 T B N (kvI 6 0 u0)):=by kernel_rfl
theorem zR2 {wC:Bool}(hq:qN 6 D=q)(h0:pU 6 0 b P l D E wC):kK (ev (cl b P D.la l) 33) (qP (qE b P)) (yU (qE b P)) (yO b P) 28 (nxR 1 8 1) 5 (lwV b P D E T B N (kvI 5 0 u0) ln [])=some (.next,lwV b P D E (T && wC) (B && wC) (if q then false else N) (kvI 6 0 wC) ln []):=by
 refine wN (v:= .int 6) (σ₁:=lwV b P D E T B N (kvI 6 0 u0) ln []) (σ₂:=lwI b P D E ln 6 (T && wC) (B && wC) (if q then false else N) (kvI 6 0 wC)) (by kernel_rfl) (by kernel_rfl) ?_ (by kernel_rfl);rw [zDF,zG (zST hq),zO,zSt];exact (zC (fu:=999) (zQh h0)).trans (zV (fu:=998) (by kernel_rfl))
theorem zTx (h:qN 7 D=q):evs (ev (cl b P D.la l) 33) ((yU (qE b P)).take 1) (yO b P) (lwV b P D E T B N (kvI 7 0 u0) ln [])=some (.next,lwI b P D E ln 7 T B (if q then false else N) (kvI 7 0 u0)):=by
 cases q
 ·exact zD (ds:=[.ans 5 false]) (ps:=[qN 7 D=false]) (by kernel_rfl) ⟨h,trivial⟩
 ·exact zD (ds:=[.ans 5 true]) (ps:=[qN 7 D=true]) (by kernel_rfl) ⟨h,trivial⟩
theorem zSm:(ev (cl b P D.la l) 33).x (zCr b P) (yO b P) (lwI b P D E ln 7 T B N (kvI 7 0 u0))=zH9 b P l D 7 1000 0 (lwI b P D E ln 7 T B N (kvI 7 0 u0)):=by kernel_rfl
theorem zRX {xJ:Bool}(hq:qN 7 D=q)(h0:pU 7 0 b P l D E xJ):kK (ev (cl b P D.la l) 33) (qP (qE b P)) (yU (qE b P)) (yO b P) 28 (nxR 1 8 1) 6 (lwV b P D E T B N (kvI 6 0 u0) ln [])=some (.next,lwV b P D E (T && xJ) (B && xJ) (if q then false else N) (kvI 7 0 xJ) ln []):=by
 refine wN (v:= .int 7) (σ₁:=lwV b P D E T B N (kvI 7 0 u0) ln []) (σ₂:=lwI b P D E ln 7 (T && xJ) (B && xJ) (if q then false else N) (kvI 7 0 xJ)) (by kernel_rfl) (by kernel_rfl) ?_ (by kernel_rfl);rw [zDF,zG (zTx hq),zO,zSm];exact (zC (fu:=999) (zQE h0)).trans (zV (fu:=998) (by kernel_rfl))
theorem xlp:(ev (cl b P D.la l) 34).x (qE b P) (yO b P) (lwV b P D E T B N [] ln [])=yD (ev (cl b P D.la l) 33) (qP (qE b P)) (yU (qE b P)) (yO b P) 28 (nxR 1 8 1) 1000 0 (lwV b P D E T B N [] ln []):=by kernel_rfl
theorem zSz {vX zBX zCh zCf zCg zCe uW uJ zB4 uY vU zAh wE xX wC xJ q1 q2 q3 q4 q5 q6 q7:Bool}(hq1:qN 1 D=q1)(hq2:qN 2 D=q2)(hq3:qN 3 D=q3)(hq4:qN 4 D=q4)(hq5:qN 5 D=q5)(hq6:qN 6 D=q6)(hq7:qN 7 D=q7)(h_1_0:pU 1 0 b P l D E vX)(h_1_1:pU 1 1 b P l D E zBX)(h_1_2:pU 1 2 b P l D E zCh)(h_1_3:pU 1 3 b P l D E zCf)(h_1_4:pU 1 4 b P l D E zCg)(h_1_5:pU 1 5 b P l D E zCe)(h_1_6:pU 1 6 b P l D E uW)(h_2_0:pU 2 0 b P l D E uJ)(h_2_2:pU 2 2 b P l D E zB4)(h_2_4:pU 2 4 b P l D E uY)(h_3_0:pU 3 0 b P l D E vU)(h_3_3:pU 3 3 b P l D E zAh)(h_4_0:pU 4 0 b P l D E wE)(h_5_0:pU 5 0 b P l D E xX)(h_6_0:pU 6 0 b P l D E wC)(h_7_0:pU 7 0 b P l D E xJ):(ev (cl b P D.la l) 34).x (qE b P) (yO b P) (lwV b P D E true true true [] ln [])=some (.next,lwV b P D E (((((((true && vX) && uJ) && vU) && wE) && xX) && wC) && xJ) ((((((((((((((((true && vX) && zBX) && zCh) && zCf) && zCg) && zCe) && uW) && uJ) && zB4) && uY) && vU) && zAh) && wE) && xX) && wC) && xJ) (if q7 then false else (if q6 then false else (if q5 then false else (if q4 then false else (if q3 then false else (if q2 then false else (if q1 then false else true))))))) [(S "size",.int 7),(S "start",.int 0),(S "unlike",.bool xJ)] ln []):=by
 rw [xlp];exact (zC (fu:=999) (zRn hq1 h_1_0 h_1_1 h_1_2 h_1_3 h_1_4 h_1_5 h_1_6)).trans ((zC (fu:=998) (zRN hq2 h_2_0 h_2_2 h_2_4)).trans ((zC (fu:=997) (zRx hq3 h_3_0 h_3_3)).trans ((zC (fu:=996) (zSk hq4 h_4_0)).trans ((zC (fu:=995) (zRd hq5 h_5_0)).trans ((zC (fu:=994) (zR2 hq6 h_6_0)).trans ((zC (fu:=993) (zRX hq7 h_7_0)).trans (zV (fu:=992) (by kernel_rfl))))))))
end
end Mine
end
end
section
noncomputable section
namespace Mine
theorem wB:∀{n k:Nat},k < n->k∈zW n
 | 0,_,h=>absurd h (Nat.not_lt_zero _)
 | n + 1,k,h=>by
  unfold zW;rw [List.mem_append,List.mem_singleton]
  by_cases e:k=n
  ·exact .inr e
  ·exact .inl (wB (by omega))
theorem yT {α:Type}{f g:Nat->α}{n k:Nat}(h:(zW n).map f=(zW n).map g)(hk:k < n):f k=g k:=List.map_inj_left.mp h k (wB hk)
section
variable {b:Bool} {P:Params} {l:List Int} {D:LD} {E:LE}
theorem s_3 {k:Nat}(hk:k < 42)(hD:kC D k=D):exL b P l D 3 (lw3 D)=some (.next,lw4 D):=by
 have z:exL b P l (kC D k) 3 (lw3 (kC D k))=some (.next,lw4 (kC D k)):=yT (f:=fun k=>exL b P l (kC D k) 3 (lw3 (kC D k))) (g:=fun k=>some (.next,lw4 (kC D k))) zTb hk;rw [hD] at z;exact z
theorem zTo {T B N v:Bool}{ln:Int}{u0:Bool}(hT:T=v)(hB:B=v)(hN:N=v)
  (h:yH b P D.la l 347 [.trk 1,.trk 2] [.ctab 332 true,.list D.dk,.list [.str (E.h 0),.str (E.h 1),.str (E.h 2),.str (E.h 3),.str (E.h 4),.str (E.h 5),.str (E.h 6)]]=some (.bool v,[.ctab 332 true,.list D.dk,.list [.str (E.h 0),.str (E.h 1),.str (E.h 2),.str (E.h 3),.str (E.h 4),.str (E.h 5),.str (E.h 6)]])):
  exL b P l D 16 (lwV b P D E T B N [(S "size",.int 7),(S "start",.int 0),(S "unlike",.bool u0)] ln [])=some (.ret (.bool true),lwV b P D E T B N [(S "size",.int 7),(S "start",.int 0),(S "unlike",.bool u0)] ln []):=by
 subst hT hB hN;cases N
 ·exact zD (ds:=[.val 2 (.bool false) [.ctab 332 true,.list D.dk,.list [.str (E.h 0),.str (E.h 1),.str (E.h 2),.str (E.h 3),.str (E.h 4),.str (E.h 5),.str (E.h 6)]]]) (ps:=[_]) (by kernel_rfl) ⟨h,trivial⟩
 ·exact zD (ds:=[.val 2 (.bool true) [.ctab 332 true,.list D.dk,.list [.str (E.h 0),.str (E.h 1),.str (E.h 2),.str (E.h 3),.str (E.h 4),.str (E.h 5),.str (E.h 6)]]]) (ps:=[_]) (by kernel_rfl) ⟨h,trivial⟩
theorem zLE:(ev (cl b P D.la l) 35).c (.val (.ref 357)) [.val (.ref D.la)] [] [.ctab 332 false]=yR (ev (cl b P D.la l) 34) 1 (lwB b P) (yO b P) (lw1 D):=by kernel_rfl
theorem zN7:lwB b P=(lwB b P).take 3 ++ (((lwB b P).drop 3).take 1 ++ (((lwB b P).drop 4).take 1 ++ (((lwB b P).drop 5).take 2 ++ (((lwB b P).drop 7).take 1 ++ (((lwB b P).drop 8).take 1 ++ (((lwB b P).drop 9).take 1 ++ (((lwB b P).drop 10).take 1 ++ (((lwB b P).drop 11).take 1 ++ (((lwB b P).drop 12).take 3 ++ (qE b P::((lwB b P).drop 16).take 1)))))))))):=by kernel_rfl
theorem zNK {T B N:Bool}{ln:Int}{kv:List (Str×V)}:gcv 1 (.bool true) (lwV b P D E T B N kv ln [])=(.bool true,[.ctab 332 true]):=by kernel_rfl
end
end Mine
end
end
section
namespace Mine
def rowsK:Nat->List (List Nat)
 | 0=>[[]]
 | k + 1=>(rowsK k).flatMap fun l=>((zB 0 7).filter fun y=>!yE y l).map fun y=>l ++ [y]
def uB (s t:Nat)(r:List Nat):Bool:=zAk (((r.drop t).take s).map (· % s))
def mxN:List Nat->Nat
 | []=>0
 | x::l=>match Nat.ble (mxN l) x with | true=>x | false=>mxN l
def mnN:List Nat->Nat
 | []=>100
 | x::l=>match Nat.ble x (mnN l) with | true=>x | false=>mnN l
def qB (s:Nat)(r:List Nat):Bool:=Nat.ble (s + mnN (r.take s)) (mxN (r.take s))
def tB (r:List Nat):Bool:=(((((((true && uB 1 0 r) && uB 2 0 r) && uB 3 0 r) && uB 4 0 r) && uB 5 0 r) && uB 6 0 r) && uB 7 0 r)
def bB (r:List Nat):Bool:=((((((((((((((((true && uB 1 0 r) && uB 1 1 r) && uB 1 2 r) && uB 1 3 r) && uB 1 4 r) && uB 1 5 r) && uB 1 6 r) && uB 2 0 r) && uB 2 2 r) && uB 2 4 r) && uB 3 0 r) && uB 3 3 r) && uB 4 0 r) && uB 5 0 r) && uB 6 0 r) && uB 7 0 r)
def nB (r:List Nat):Bool:=if qB 7 r then false else if qB 6 r then false else if qB 5 r then false else if qB 4 r then false else if qB 3 r then false else if qB 2 r then false else if qB 1 r then false else true
def gB (r:List Nat):Bool:=(zB 0 8).any fun c=>eqN ((r.filter fun x=>Nat.blt x c).reverse ++ r.filter fun x=>!Nat.blt x c) (zB 0 7)
def zG7 (f:Nat->List Nat->Bool):Nat->List (List Nat)
 | 0=>[[]]
 | k + 1=>((zG7 f k).flatMap fun l=>((zB 0 7).filter fun y=>!yE y l).map fun y=>l ++ [y]).filter (f (k + 1))
theorem uM:∀{k:Nat} {r:List Nat},r∈rowsK k->r.length=k
 | 0,r,h=>by
  unfold rowsK at h;rw [List.mem_singleton.mp h]; rfl
 | k + 1,r,h=>by
  unfold rowsK at h;obtain ⟨l,hl,h2⟩:=List.mem_flatMap.mp h;obtain ⟨y,_,rfl⟩:=List.mem_map.mp h2;rw [List.length_append,uM hl]; rfl
theorem zHE {f:Nat->List Nat->Bool}:∀{k:Nat} {r:List Nat},r∈rowsK k->(∀s,1<=s->s<=k->f s (r.take s)=true)->r∈zG7 f k
 | 0,r,h,_=>h
 | k + 1,r,h,hf=>by
  have hlen:=uM h;unfold rowsK at h;obtain ⟨l,hl,h2⟩:=List.mem_flatMap.mp h;obtain ⟨y,hy,rfl⟩:=List.mem_map.mp h2;have hk:=uM hl;have z:=hf (k + 1) (by omega) (Nat.le_refl _);rw [List.take_of_length_le (by omega)] at z;unfold zG7;refine List.mem_filter.mpr ⟨List.mem_flatMap.mpr ⟨l,zHE hl fun s h1 h2=>?_,List.mem_map.mpr ⟨y,hy,rfl⟩⟩,z⟩;have q:=hf s h1 (by omega);rw [List.take_append_of_le_length (by omega)] at q;exact q
def shR:Nat->List Nat->List Nat->List (List Nat)
 | 0,_,_=>[[]]
 | n + 1,A,B=>(match A with | a::l=>(shR n l B).map (a::·) | []=>[]) ++ (match B with | b::m=>(shR n A m).map (b::·) | []=>[])
theorem zJS (p:Nat->Bool):∀r:List Nat,r∈shR r.length (r.filter p) (r.filter fun x=>!p x)
 | []=>List.mem_singleton.mpr rfl
 | x::r=>by
  have ih:=zJS p r;show x::r∈shR (r.length + 1) _ _;unfold shR;cases hp:p x with
  | true=>
   rw [List.filter_cons_of_pos hp,List.filter_cons_of_neg (by simp [hp])];exact List.mem_append_left _ (List.mem_map.mpr ⟨r,ih,rfl⟩)
  | false=>
   rw [List.filter_cons_of_neg (by simp [hp]),List.filter_cons_of_pos (by simp [hp])];exact List.mem_append_right _ (List.mem_map.mpr ⟨r,ih,rfl⟩)
def shC (c:Nat):List (List Nat):=shR 7 ((zB 0 c).reverse) (zB c (7 - c))
theorem zLp:(zG7 (fun s r=>zAk (r.map (· % s))) 7).all gB=true:=by decide +kernel
theorem zKp:(zG7 (fun s r=>!(Nat.ble (s + mnN r) (mxN r))) 7).all gB=true:=by decide +kernel
theorem zKG:(zB 0 8).all (fun c=>(shC c).all fun r=>bB r && nB r)=true:=by decide +kernel
theorem zGI:∀(m n i:Nat),zB i (m + n)=zB i m ++ zB (i + m) n
 | 0,n,i=>by rw [Nat.zero_add]; rfl
 | m + 1,n,i=>by
  rw [show m + 1 + n=(m + n) + 1 by omega];show i::zB (i + 1) (m + n)=i::(zB (i + 1) m ++ zB (i + (m + 1)) n);rw [zGI m n (i + 1),show i + 1 + m=i + (m + 1) by omega]
theorem zNY {r:List Nat}(h:bB r=true):tB r=true:=by
 unfold bB at h;unfold tB;simp only [Bool.and_eq_true,Bool.true_and] at h ⊢;simp only [h,and_self]
theorem zNS {r:List Nat}(h:r∈rowsK 7)(ht:tB r=true):gB r=true:=by
 refine List.all_eq_true.mp zLp r (zHE h fun s h1 h2=>?_);unfold tB at ht;simp only [Bool.and_eq_true,Bool.true_and] at ht;have:s=1\/s=2\/s=3\/s=4\/s=5\/s=6\/s=7:=by omega
 rcases this with rfl | rfl | rfl | rfl | rfl | rfl | rfl
 ·exact ht.1.1.1.1.1.1
 ·exact ht.1.1.1.1.1.2
 ·exact ht.1.1.1.1.2
 ·exact ht.1.1.1.2
 ·exact ht.1.1.2
 ·exact ht.1.2
 ·exact ht.2
theorem zRU {r:List Nat}(h:r∈rowsK 7)(ht:nB r=true):gB r=true:=by
 refine List.all_eq_true.mp zKp r (zHE h fun s h1 h2=>?_);show (!qB s r)=true;unfold nB at ht;have:s=1\/s=2\/s=3\/s=4\/s=5\/s=6\/s=7:=by omega
 by_cases k7:qB 7 r=true
 ·rw [if_pos k7] at ht; cases ht
 rw [if_neg k7] at ht
 by_cases k6:qB 6 r=true
 ·rw [if_pos k6] at ht; cases ht
 rw [if_neg k6] at ht
 by_cases k5:qB 5 r=true
 ·rw [if_pos k5] at ht; cases ht
 rw [if_neg k5] at ht
 by_cases k4:qB 4 r=true
 ·rw [if_pos k4] at ht; cases ht
 rw [if_neg k4] at ht
 by_cases k3:qB 3 r=true
 ·rw [if_pos k3] at ht; cases ht
 rw [if_neg k3] at ht
 by_cases k2:qB 2 r=true
 ·rw [if_pos k2] at ht; cases ht
 rw [if_neg k2] at ht
 by_cases k1:qB 1 r=true
 ·rw [if_pos k1] at ht; cases ht
 rw [if_neg k1] at ht;rcases this with rfl | rfl | rfl | rfl | rfl | rfl | rfl
 ·simpa using k1
 ·simpa using k2
 ·simpa using k3
 ·simpa using k4
 ·simpa using k5
 ·simpa using k6
 ·simpa using k7
theorem zOf {r:List Nat}(h:r∈rowsK 7)(hg:gB r=true):bB r=true/\nB r=true:=by
 unfold gB at hg;obtain ⟨c,hc,e⟩:=List.any_eq_true.mp hg;have e:=zHS e;have hr:=uM h;have hc8:c < 8:=by
  obtain ⟨i,hi⟩:=List.mem_iff_getElem?.mp hc;have hi8:i < 8:=by
   have:=(List.getElem?_eq_some_iff.mp hi).1;rw [zH] at this; exact this
  rw [zR 8 0 i hi8] at hi;have:=Option.some.inj hi;omega
 have e2:(r.filter fun x=>Nat.blt x c)=(zB 0 c).reverse/\(r.filter fun x=>!Nat.blt x c)=zB c (7 - c):=by
  have s7:zB 0 7=zB 0 c ++ zB c (7 - c):=by
   have:=zGI c (7 - c) 0;rw [show c + (7 - c)=7 by omega,Nat.zero_add] at this;exact this
  rw [s7] at e;have lc:(r.filter fun x=>Nat.blt x c).reverse.length=(zB 0 c).length:=by
   have z:=congrArg (fun l=>(l.filter fun x=>Nat.blt x c).length) e;simp only [List.filter_append,List.length_append] at z;have z1:((r.filter fun x=>Nat.blt x c).reverse.filter fun x=>Nat.blt x c)=(r.filter fun x=>Nat.blt x c).reverse:=List.filter_eq_self.mpr fun x hx=>by
    exact (List.mem_filter.mp (List.mem_reverse.mp hx)).2
   have z2:((r.filter fun x=>!Nat.blt x c).filter fun x=>Nat.blt x c)=[]:=List.filter_eq_nil_iff.mpr fun x hx=>by
    have:=(List.mem_filter.mp hx).2;intro q;rw [q] at this;cases this
   have z3:((zB 0 c).filter fun x=>Nat.blt x c)=zB 0 c:=List.filter_eq_self.mpr fun x hx=>by
    obtain ⟨i,hi⟩:=List.mem_iff_getElem?.mp hx;have hi8:i < c:=by
     have:=(List.getElem?_eq_some_iff.mp hi).1;rw [zH] at this; exact this
    rw [zR c 0 i hi8] at hi;have:=Option.some.inj hi;rw [Nat.blt_eq]; omega
   have z4:((zB c (7 - c)).filter fun x=>Nat.blt x c)=[]:=List.filter_eq_nil_iff.mpr fun x hx=>by
    obtain ⟨i,hi⟩:=List.mem_iff_getElem?.mp hx;have hi8:i < 7 - c:=by
     have:=(List.getElem?_eq_some_iff.mp hi).1;rw [zH] at this; exact this
    rw [zR (7 - c) c i hi8] at hi;have:=Option.some.inj hi;rw [Nat.blt_eq]; omega
   rw [z1,z2,z3,z4] at z
   simpa using z
  obtain ⟨a1,a2⟩:=List.append_inj e lc;exact ⟨by rw [<-a1,List.reverse_reverse],a2⟩
 have m:=zJS (fun x=>Nat.blt x c) r;rw [hr,e2.1,e2.2] at m;have z:=List.all_eq_true.mp (List.all_eq_true.mp zKG c hc) r m;rw [Bool.and_eq_true] at z;exact z
theorem zMZ {r:List Nat}(h:r∈rowsK 7):tB r=gB r/\bB r=gB r/\nB r=gB r:=by
 cases hg:gB r with
 | true=>
  obtain ⟨h1,h2⟩:=zOf h hg;exact ⟨zNY h1,h1,h2⟩
 | false=>
  have no:∀{b:Bool},(b=true->gB r=true)->b=false:=fun {b} k=>by
   cases b
   ·rfl
   ·rw [k rfl] at hg; cases hg
  exact ⟨no (zNS h),no (fun q=>zNS h (zNY q)),no (zRU h)⟩
end Mine
end
section
namespace Mine
def zDE {α:Type}(n:Nat)(P:α->Bool):KasT α->Bool
 | .ret a=>P a
 | .ask i j k=>Nat.blt i n && Nat.blt j n && zDE n P (k true) && zDE n P (k false)
theorem zAx {α:Type}{n:Nat}{P:α->Bool}{lt:Nat->Nat->Option Bool}(hl:∀i j,i < n->j < n->(lt i j).isSome=true):∀(t:KasT α),zDE n P t=true->∃a,zKJ lt t=some a/\P a=true
 | .ret a,h=>⟨a,rfl,h⟩
 | .ask i j k,h=>by
  unfold zDE at h;simp only [Bool.and_eq_true,Nat.blt_eq] at h;obtain ⟨⟨⟨h1,h2⟩,h3⟩,h4⟩:=h;unfold zKJ;obtain ⟨b,hb⟩:=Option.isSome_iff_exists.mp (hl i j h1 h2);rw [hb];cases b with
  | true=>exact zAx hl _ h3
  | false=>exact zAx hl _ h4
def zNO (n:Nat)(l:List Nat):Bool:=Nat.beq l.length n && l.all (fun i=>Nat.blt i n) && (zB 0 n).all fun i=>l.any (Nat.beq i)
def wZ (n:Nat):Bool:=zDE n (fun p:Array Nat=>zNO n p.toList) (kas_sort n)
theorem zPR:wZ 2=true:=by decide +kernel
theorem zQe:wZ 3=true:=by decide +kernel
theorem zN4:wZ 4=true:=by decide +kernel
theorem zPq:wZ 5=true:=by decide +kernel
theorem zO3:wZ 6=true:=by decide +kernel
def uS (x y:Nat->Int)(i:Nat):V:= .tup [.int (x i),.int (y i)]
theorem zNv (x y:Nat->Int)(i j:Nat):(ltL [.int (x i),.int (y i)] [.int (x j),.int (y j)]).isSome=true:=by
 unfold ltL;split
 ·unfold ltL
  split
  ·rfl
  ·rfl
 ·rfl
theorem zL:∀(n i k:Nat),k∈zB i n ↔ i<=k/\k < i + n
 | 0,i,k=>by simp [zB]
 | n + 1,i,k=>by
  simp only [zB,List.mem_cons,zL n (i + 1) k];omega
theorem zMh {n:Nat}(h2:2<=n)(h6:n < 64)(hs:wZ n=true)(x y:Nat->Int):∃q:List Nat,q.length=n/\(∀i∈q,i < n)/\(∀k,k < n->k∈q)/\zA6 ((zB 0 n).map (uS x y))=some (q.map (uS x y)):=by
 have hlen:((zB 0 n).map (uS x y)).length=n:=by rw [List.length_map,zH]
 have hget:∀i,i < n->((zB 0 n).map (uS x y))[i]? =some (uS x y i):=fun i hi=>by rw [List.getElem?_map,zR n 0 i hi]; simp
 have hlt:∀i j,i < n->j < n->(zEM ((zB 0 n).map (uS x y)) i j).isSome=true:=fun i j hi hj=>by
  unfold zEM;rw [hget i hi,hget j hj];exact zNv x y i j
 obtain ⟨p,hp,hP⟩:=zAx hlt _ hs;unfold zNO at hP;simp only [Bool.and_eq_true,Nat.beq_eq,List.all_eq_true,Nat.blt_eq,List.any_eq_true,zL] at hP;obtain ⟨⟨hP1,hP2⟩,hP3⟩:=hP;refine ⟨p.toList,hP1,hP2,fun k hk=>?_,?_⟩
 ·obtain ⟨z,hz,e⟩:=hP3 k ⟨Nat.zero_le _,by omega⟩
  rw [e]; exact hz
 ·unfold zA6
  rw [if_neg (by rw [hlen]; omega)];have hsame:(zCL ((zB 0 n).map (uS x y))).isSome=true:=by
   obtain ⟨m,rfl⟩:∃m,n=m + 1:=⟨n - 1,by omega⟩;have e:zCL ((zB 0 (m + 1)).map (uS x y))=if ((zB 1 m).map (uS x y)).all (fun u=>vA u==some "int") then some "int" else none:=rfl;rw [e,if_pos]
   ·rfl
   ·rw [List.all_eq_true]
    intro u hu;obtain ⟨i,_,rfl⟩:=List.mem_map.mp hu;rfl
  rw [if_pos (by rw [hlen,hsame]; simp; omega),hlen,hp];simp only [Option.map_some,Option.some.injEq];apply List.map_congr_left;intro i hi;rw [List.getD_eq_getElem?_getD,hget i (hP2 i hi)];rfl
end Mine
end
section
namespace Mine
open Builtin Builtin.Str StrLaws
theorem zGe (x:Str)(c:Nat):∀(m i:Nat) (st:Array Nat×Nat),st.2<=i->st.1.size<=i->i + m=x.length + 1->
  (forIn (List.range' i m) st (occBody x ⟨#[c]⟩ x.length (x.length + 1))).run.fst.size=st.1.size + (x.cps.toList.drop i).count c
 | 0,i,st,h1,h2,h3=>by
  have:x.cps.toList.length<=i:=by
   have e:x.length=x.cps.toList.length:=by simp [Str.length]
   omega
  rw [List.drop_eq_nil_of_le this];simp
 | m + 1,i,st,h1,h2,h3=>by
  have e:x.length=x.cps.toList.length:=by simp [Str.length]
  rw [List.range'_succ,List.forIn_cons];unfold occBody
  by_cases hc:i + (⟨#[c]⟩:Str).length<=x.length/\subAt x ⟨#[c]⟩ i=true
  ·have hg:=(subAt_one x c i).mp hc
   have hi:i < x.cps.toList.length:=(List.getElem?_eq_some_iff.mp hg).1;rw [if_pos ⟨⟨⟨by omega,h1⟩,hc.1⟩,hc.2⟩];have ih:=zGe x c m (i + 1) (st.1.push i,i + (⟨#[c]⟩:Str).length) (by show i + 1<=i + 1; omega) (by simp; omega) (by omega);refine Eq.trans ih ?_;rw [List.drop_eq_getElem_cons hi];have hx:x.cps.toList[i]=c:=by
    rw [List.getElem?_eq_getElem hi] at hg;exact Option.some.inj hg
   rw [hx,List.count_cons_self];simp;omega
  ·rw [if_neg (fun h=>hc ⟨h.1.2,h.2⟩)]
   have ih:=zGe x c m (i + 1) (st.1,st.2) (by show st.2<=i + 1; omega) (by show st.1.size<=i + 1; omega) (by omega);refine Eq.trans ih ?_
   by_cases hi:i < x.cps.toList.length
   ·rw [List.drop_eq_getElem_cons hi]
    have hx:x.cps.toList[i]≠c:=fun q=>hc ((subAt_one x c i).mpr (by rw [List.getElem?_eq_getElem hi,q]));rw [List.count_cons_of_ne hx]
   ·rw [List.drop_eq_nil_of_le (by omega),List.drop_eq_nil_of_le (by omega)]
theorem zKs (x:Str)(c:Nat):(occurrences x ⟨#[c]⟩ 0 x.length (x.length + 1)).length=x.cps.toList.count c:=by
 rw [occ_eq];have z:=zGe x c (x.length + 1) 0 (#[],0) (Nat.le_refl _) (by simp) (by omega);simp only [Array.length_toList];refine Eq.trans z ?_;simp
end Mine
end
section
noncomputable section
namespace Mine
def zM4 (b:Bool)(P:Params):FuncData:=qQ (zFC b P)
def rfB (b:Bool)(P:Params):List Stmt:=(wU (zM4 b P).body).getD []
def vO (b:Bool)(P:Params):AE:={scope:=(zM4 b P).scope,loc:=3,cells:=[(S "rest",5),(S "dealt",4)],qual:=(zM4 b P).qualname ++ ".<locals>.",code:=(zM4 b P).code}
def zG2 (b:Bool)(P:Params):Stmt:=(rfB b P).getD 0 default
def zCn (b:Bool)(P:Params):List Stmt:=yU (zG2 b P)
def zAP (b:Bool)(P:Params):Stmt:=(zCn b P).getD 2 default
end Mine
end
end
section
noncomputable section
namespace Mine
def whT:Stmt->Expr
 | .While t _ _ _=>t
 | _=>default
def whB:Stmt->List Stmt
 | .While _ b _ _=>b
 | _=>[]
def zM0 (b:Bool)(P:Params):FuncData:=qQ (zFq b P)
def ulB (b:Bool)(P:Params):List Stmt:=(wU (zM0 b P).body).getD []
def zD2 (b:Bool)(P:Params):AE:={scope:=(zM0 b P).scope,loc:=3,cells:=[(S "name",4)],qual:=(zM0 b P).qualname ++ ".<locals>.",code:=(zM0 b P).code}
def zHd (b:Bool)(P:Params):Stmt:=(ulB b P).getD 2 default
def zAR (b:Bool)(P:Params):List Stmt:=yU (zHd b P)
def zNm (b:Bool)(P:Params):FuncData:=qQ (zFH b P)
def rwB (b:Bool)(P:Params):List Stmt:=(wU (zNm b P).body).getD []
def zCj (b:Bool)(P:Params):AE:={scope:=(zNm b P).scope,loc:=2,cells:=[(S "row",3)],qual:=(zNm b P).qualname ++ ".<locals>.",code:=(zNm b P).code}
def zKk (b:Bool)(P:Params):Stmt:=(rwB b P).getD 1 default
def zHj (b:Bool)(P:Params):List Stmt:=whB (zKk b P)
end Mine
end
end
section
noncomputable section
namespace Mine
abbrev dkL (d:Nat->Str):List V:=[.str (d 0),.str (d 1),.str (d 2),.str (d 3),.str (d 4),.str (d 5),.str (d 6)]
abbrev dW (k:Nat):List (Str×V):=[(S "lineno",.int 1),(S "instream",.none),(S "whitespace",.str wsS),(S "pushback",.trk k)]
section
variable {b:Bool} {P:Params} {d h:Nat->Str}
abbrev rf0 (d h:Nat->Str)(kv:List (Str×V))(A B:List V):Sto:=[.ctab 332 true,.list (dkL d),.list (dkL h),.ns ((S "deck",.trk 1)::(S "heard",.trk 2)::(S "cut",.int 0)::kv),.cell (some (.trk 7)),.cell (some (.trk 10)),.dict (dW 8),.inst 226 6,.list A,.dict (dW 11),.inst 226 9,.list B]
abbrev rf1 (d h:Nat->Str)(kb:Nat)(c:Int)(sg:Str)(bk A B:List V):Sto:=[.ctab 332 true,.list (dkL d),.list (dkL h),.ns [(S "deck",.trk 1),(S "heard",.trk 2),(S "cut",.int c),(S "sign",.str sg),(S "back",.trk kb)],.cell (some (.trk 14)),.cell (some (.trk 17)),.list bk,.inst 226 8,.dict (dW 9),.list [],.inst 226 11,.dict (dW 12),.list [],.dict (dW 15),.inst 226 13,.list A,.dict (dW 18),.inst 226 16,.list B]
abbrev zIG (d h:Nat->Str)(kv:List (Str×V)):Sto:=[.ctab 332 true,.list (dkL d),.list (dkL h),.ns ((S "deck",.trk 1)::(S "heard",.trk 2)::kv),.cell none,.cell none]
abbrev zGx (d h:Nat->Str)(c:Int)(sg:Str)(bk:List V):Sto:=[.ctab 332 true,.list (dkL d),.list (dkL h),.ns [(S "deck",.trk 1),(S "heard",.trk 2),(S "cut",.int c),(S "sign",.str sg),(S "back",.trk 6)],.cell (some (.trk 7)),.cell (some (.trk 10)),.list bk,.inst 226 8,.dict (dW 9),.list [],.inst 226 11,.dict (dW 12),.list []]
abbrev zSL (b:Bool)(P:Params)(m i:Nat)(σ:Sto):=kK (ev (cf b P) 17) (qP (zAP b P)) (yU (zAP b P)) (vO b P) m (nxL (.trk 2)) i σ
abbrev zLQ (b:Bool)(P:Params)(m fu i:Nat)(σ:Sto):=yD (ev (cf b P) 17) (qP (zAP b P)) (yU (zAP b P)) (vO b P) m (nxL (.trk 2)) fu i σ
def zHG (d:Nat->Str)(c:Nat)(x:Str):Bool:=((zB 0 c).map fun i=>PyData.str (d i)).any fun y=>PyData.eqv y (.str x)
def shD (d:Nat->Str)(c:Nat)(x:Str):Bool:=SeqAt.shaped (.str x) && SeqAt.shaped (.list ((zB 0 c).map fun i=>PyData.str (d i)))
def shL (l r:List Str):Bool:=SeqAt.shaped (.list (l.map .str)) && SeqAt.shaped (.list (r.map .str))
def zMK (l r:List Str):Bool:=PyData.eqv (.list (l.map .str)) (.list (r.map .str))
theorem zLz:∀l:List Str,(∀x∈l,PyData.strOk x=true)->PyData.canLayAll0 (l.map .str)=true/\PyData.depthAll (l.map .str)<=1
 | [],_=>by simp [PyData.canLayAll0,PyData.depthAll]
 | x::l,hx=>by
  obtain ⟨h1,h2⟩:=zLz l fun y hy=>hx y (List.mem_cons_of_mem _ hy);have h3:=hx x (List.mem_cons_self ..);simp only [List.map_cons,PyData.canLayAll0,PyData.depthAll,PyData.canLay0,PyData.depth,h1,h3,Bool.and_self,true_and];omega
theorem uH {l:List Str}(hx:∀x∈l,PyData.strOk x=true):SeqAt.shaped (.list (l.map .str))=true:=by
 obtain ⟨h1,h2⟩:=zLz l hx;unfold SeqAt.shaped;simp only [PyData.canLay0,PyData.depth,h1,Bool.true_and];exact decide_eq_true (by omega)
theorem zIr {x:Str}(hx:PyData.strOk x=true):SeqAt.shaped (.str x)=true:=by
 unfold SeqAt.shaped;simp [PyData.canLay0,PyData.depth,hx]
theorem zPf (hd:∀i,PyData.strOk (d i)=true)(hh:∀i,PyData.strOk (h i)=true)(c i:Nat):shD d c (h i)=true:=by
 unfold shD;rw [zIr (hh i)];have e:((zB 0 c).map fun i=>PyData.str (d i))=(((zB 0 c).map d).map .str):=by rw [List.map_map]; rfl
 rw [e,uH]
 ·rfl
 ·intro x hx
  obtain ⟨j,_,rfl⟩:=List.mem_map.mp hx;exact hd j
theorem zQD {l r:List Str}(hl:∀x∈l,PyData.strOk x=true)(hr:∀x∈r,PyData.strOk x=true):shL l r=true:=by
 unfold shL;rw [uH hl,uH hr]; rfl
end
def sel (q:Bool):List Bool->List Str->List Str
 | p::ps,x::xs=>match p,q with
  | true,true=>x::sel q ps xs
  | false,false=>x::sel q ps xs
  | _,_=>sel q ps xs
 | _,_=>[]
def cnt:List Bool->Nat
 | []=>0
 | true::l=>cnt l + 1
 | false::l=>cnt l
section
variable {b:Bool} {P:Params} {d h:Nat->Str}
abbrev zMY (b:Bool)(P:Params)(c:Nat)(σ:Sto):=kK (ev (cf b P) 18) (qP (zG2 b P)) (zCn b P) (vO b P) 6 (nxR 0 8 1) c σ
abbrev rfE (d h:Nat->Str):Sto:=[.ctab 332 true,.list (dkL d),.list (dkL h)]
abbrev dl7 (d:Nat->Str):List Str:=[d 0,d 1,d 2,d 3,d 4,d 5,d 6]
theorem zMm {r:Rec}{t:Expr}{body:List Stmt}{ae:AE}{m k:Nat}{nx:Sto->Nat->Option (Option V)}{σ σ₁ σ₂:Sto}{v u:V}(h1:nx σ k=some (some v))(h2:qD t v ae σ=some σ₁)(h3:evs r body ae σ₁=some (.ret u,σ₂)):kK r t body ae m nx k σ=some (.ret u,σ₂):=by
 unfold kK;rw [h1];dsimp only;rw [h2];dsimp only;rw [h3]
theorem zA8 {r:Rec}{t:Expr}{body:List Stmt}{ae:AE}{m k:Nat}{nx:Sto->Nat->Option (Option V)}{σ σ₁ σ₂ σ₃:Sto}{v:V}(h1:nx σ k=some (some v))(h2:qD t v ae σ=some σ₁)(h3:evs r body ae σ₁=some (.next,σ₂))(h4:gc m σ₂=σ₃):kK r t body ae m nx k σ=some (.next,σ₃):=by
 unfold kK;rw [h1];dsimp only;rw [h2];dsimp only;rw [h3];dsimp only;rw [h4]
end
theorem kY:∀(k:Nat) (l:List Nat),l∈rowsK k->l.length=k/\∃qC:List Nat,(l ++ qC).Perm (zB 0 7)
 | 0,l,h=>by
  simp only [rowsK,List.mem_singleton] at h;subst h;exact ⟨rfl,zB 0 7,List.Perm.refl _⟩
 | k + 1,l,h=>by
  simp only [rowsK,List.mem_flatMap,List.mem_map,List.mem_filter] at h;obtain ⟨l0,h0,y,⟨hy,hn⟩,rfl⟩:=h;obtain ⟨hlen,qC,hp⟩:=kY k l0 h0;refine ⟨by simp [hlen],?_⟩;have hm:y∈l0 ++ qC:=hp.mem_iff.mpr hy;rcases List.mem_append.mp hm with hm | hm
  ·rw [(yN y l0).mpr hm] at hn; cases hn
  ·obtain ⟨a,bb,rfl⟩:=List.append_of_mem hm
   refine ⟨a ++ bb,?_⟩;refine List.Perm.trans ?_ hp;rw [List.append_assoc];exact List.Perm.append_left l0 (show (y::(a ++ bb)).Perm (a ++ y::bb) from List.perm_middle.symm)
theorem zGG {l:List Nat}(h:l∈rowsK 7):l.Perm (zB 0 7):=by
 obtain ⟨h1,qC,h2⟩:=kY 7 l h;have e:=h2.length_eq;rw [List.length_append,h1] at e;have e7:(zB 0 7).length=7:=rfl;rw [e7] at e;have:qC=[]:=List.eq_nil_of_length_eq_zero (by omega);subst this
 simpa using h2
structure Deck (d:Nat->Str):Prop where
 inj:∀i j,i < 7->j < 7->d i=d j->i=j
 ok:∀i,PyData.strOk (d i)=true
theorem zPe (a b:Str):PyData.eqv (.str a) (.str b)=(a==b):=by
 simp [PyData.eqv]
theorem zAv {d:Nat->Str}(D:Deck d){r c:Nat}(hr:r < 7)(hc:c<=7):zHG d c (d r)=Nat.blt r c:=by
 unfold zHG;rw [Bool.eq_iff_iff,List.any_eq_true,Nat.blt_eq];constructor
 ·rintro ⟨y,hy,e⟩
  obtain ⟨i,hi,rfl⟩:=List.mem_map.mp hy;rw [zL] at hi;rw [zPe,beq_iff_eq] at e;have:=D.inj i r (by omega) hr e;omega
 ·intro h
  exact ⟨.str (d r),List.mem_map.mpr ⟨r,(zL c 0 r).mpr (by omega),rfl⟩,by rw [zPe]; simp⟩
theorem zQt {d:Nat->Str}(D:Deck d):∀(l m:List Nat),(∀x∈l,x < 7)->(∀x∈m,x < 7)->zMK (l.map d) (m.map d)=eqN l m:=by
 have key:∀(l m:List Nat),(∀x∈l,x < 7)->(∀x∈m,x < 7)->PyData.eqvAll ((l.map d).map .str) ((m.map d).map .str)=eqN l m:=by
  intro l
  induction l with
  | nil=>intro m _ _; cases m <;>simp [PyData.eqvAll,eqN]
  | cons x l ih=>
   intro m hl hm;cases m with
   | nil=>simp [PyData.eqvAll,eqN]
   | cons y m=>
    have hx:=hl x (List.mem_cons_self ..);have hy:=hm y (List.mem_cons_self ..);have z:=ih m (fun x h=>hl x (List.mem_cons_of_mem _ h)) (fun x h=>hm x (List.mem_cons_of_mem _ h));simp only [List.map_cons,PyData.eqvAll,z,zPe];show _=(match Nat.beq x y with | true=>eqN l m | false=>false)
    by_cases e:x=y
    ·subst e
     simp
    ·have h1:(d x==d y)=false:=by
      rw [beq_eq_false_iff_ne];exact fun q=>e (D.inj x y hx hy q)
     have h2:Nat.beq x y=false:=by
      cases hb:Nat.beq x y with
      | false=>rfl
      | true=>exact absurd (Nat.eq_of_beq_eq_true hb) e
     rw [h1,h2]; rfl
 intro l m hl hm;unfold zMK;simp only [PyData.eqv];exact key l m hl hm
def zEn (r:List Nat)(c:Nat):Bool:=eqN ((r.filter fun x=>Nat.blt x c).reverse ++ r.filter fun x=>!Nat.blt x c) (zB 0 7)
theorem zAD (c:Nat):∀r:List Nat,cnt (r.map fun x=>Nat.blt x c)=(r.filter fun x=>Nat.blt x c).length
 | []=>rfl
 | x::r=>by
  simp only [List.map_cons,List.filter_cons];cases Nat.blt x c with
  | true=>simp [cnt,zAD c r]
  | false=>simp [cnt,zAD c r]
theorem zL1 (d:Nat->Str)(c:Nat):∀r:List Nat,sel true (r.map fun x=>Nat.blt x c) (r.map d)=(r.filter fun x=>Nat.blt x c).map d
 | []=>rfl
 | x::r=>by
  simp only [List.map_cons,List.filter_cons];cases Nat.blt x c with
  | true=>simp [sel,zL1 d c r]
  | false=>simp [sel,zL1 d c r]
theorem zLn (d:Nat->Str)(c:Nat):∀r:List Nat,sel false (r.map fun x=>Nat.blt x c) (r.map d)=(r.filter fun x=>!Nat.blt x c).map d
 | []=>rfl
 | x::r=>by
  simp only [List.map_cons,List.filter_cons];cases Nat.blt x c with
  | true=>simp [sel,zLn d c r]
  | false=>simp [sel,zLn d c r]
def vF (n:Nat)(x:Nat->Str):List V:=(zB 0 n).map fun i=> .str (x i)
theorem zEV (l:List Str){n:Nat}(hn:l.length=n):l.map V.str=vF n (fun i=>l.getD i (S "")):=by
 subst hn;unfold vF;apply List.ext_getElem?;intro i;rw [List.getElem?_map,List.getElem?_map]
 by_cases h:i < l.length
 ·rw [zR l.length 0 i h,List.getElem?_eq_getElem h]
  simp [List.getD_eq_getElem?_getD,List.getElem?_eq_getElem h]
 ·rw [List.getElem?_eq_none (by omega),List.getElem?_eq_none (by rw [zH]; omega)]
  rfl
def wK:List Nat:=[0,1,2,3,4,5,6,7]
theorem zFm:∀n,n < 9->∀a,a < n->a∈wK.take n:=by decide +kernel
theorem wQ {f g:Nat->α}(h:wK.map f=wK.map g){c:Nat}(hc:c<=7):f c=g c:=List.map_inj_left.mp h c (zFm 8 (by decide) c (by omega))
def rfI (c:Nat)(f:Bool)(d h:Nat->Str)(sg:Str)(bk A B:List V):Sto:=match c with
 | 0=>rf0 d h (match f with | true=>[] | false=>[(S "sign",.str sg)]) A B
 | m + 1=>rf1 d h 6 (Int.ofNat (m + 1)) sg bk A B
def rfM (c:Nat):Nat:=match c with | 0=>12 | _=>19
def rfO (c:Nat)(d h:Nat->Str)(sg:Str)(bk:List V):Sto:=match c with
 | 0=>zIG d h []
 | m + 1=>zGx d h (Int.ofNat m) sg bk
def rfC (c:Nat)(d h:Nat->Str)(sg:Str)(bk:List V):Sto:=match c with
 | 0=>zIG d h [(S "cut",.int 0)]
 | m + 1=>zGx d h (Int.ofNat (m + 1)) sg bk
def puQ (c:Nat):List (Nat×Nat×Bool):=(wK.take (c + 1)).flatMap fun a=>(wK.take (8 - c)).flatMap fun e=>match Nat.ble (a + e) 6 with
 | true=>(match Nat.blt a c with | true=>[(a,e,true)] | false=>[]) ++ (match Nat.blt e (7 - c) with | true=>[(a,e,false)] | false=>[])
 | false=>[]
theorem zNn {c a e:Nat}{q:Bool}(hc:c<=7)(h6:a + e<=6)(h1:q=true->a < c)(h2:q=false->e < 7 - c)(ha:a<=c)(he:e<=7 - c):(a,e,q)∈puQ c:=by
 refine List.mem_flatMap.mpr ⟨a,zFm _ (by omega) a (by omega),List.mem_flatMap.mpr ⟨e,zFm _ (by omega) e (by omega),?_⟩⟩;rw [Nat.ble_eq.mpr h6];cases q with
 | true=>rw [show Nat.blt a c=true from Nat.ble_eq.mpr (h1 rfl)]; exact List.mem_append_left _ (List.mem_singleton.mpr rfl)
 | false=>rw [show Nat.blt e (7 - c)=true from Nat.ble_eq.mpr (h2 rfl)]; exact List.mem_append_right _ (List.mem_singleton.mpr rfl)
def puD (c:Nat)(q:Bool):List Dec:=match c with | 0=>[.ans 1 true] | _=>[.ans 1 true,.ans 0 q]
def puP (c i:Nat)(q:Bool)(d h:Nat->Str):List Prop:=match c with | 0=>[shD d c (h i)=true] | _=>[shD d c (h i)=true,zHG d c (h i)=q]
def puA (q:Bool)(l:List V)(x:Str):List V:=match q with | true=>l ++ [.str x] | false=>l
def puB (q:Bool)(l:List V)(x:Str):List V:=match q with | true=>l | false=>l ++ [.str x]
def puL (c:Nat)(b:Bool)(P:Params)(d h x y z:Nat->Str)(sg:Str):List (Option (List Prop×V×Sto)):=(puQ c).map fun q=>zP (goT (cf b P) 17 (qP (zAP b P)) (yU (zAP b P)) (vO b P) (rfM c) (nxL (.trk 2)) (q.1 + q.2.1) (rfI c (Nat.beq (q.1 + q.2.1) 0) d h sg (vF (c - 1) z) (vF q.1 x) (vF q.2.1 y))) (puD c q.2.2)
def puR (c:Nat)(d h x y z:Nat->Str)(sg:Str):List (Option (List Prop×V×Sto)):=(puQ c).map fun q=>some (puP c (q.1 + q.2.1) q.2.2 d h,kJ .next,rfI c false d h (h (q.1 + q.2.1)) (vF (c - 1) z) (puA q.2.2 (vF q.1 x) (h (q.1 + q.2.1))) (puB q.2.2 (vF q.2.1 y) (h (q.1 + q.2.1))))
def taW (c:Nat)(x y:Nat->Str):List Str:=((zB 0 c).map x).reverse ++ (zB 0 (7 - c)).map y
def taT (c:Nat)(d h x y z:Nat->Str):Sto:=match c with
 | 0=>rf0 d h [(S "sign",.str (h 6)),(S "back",.trk 12)] [] [] ++ [.list [],.list (vF 7 y),.list (vF 7 y)]
 | m + 1=>rf1 d h 19 (Int.ofNat (m + 1)) (h 6) (vF m z) [] [] ++ [.list (vF (m + 1) x).reverse,.list (vF (7 - (m + 1)) y),.list ((vF (m + 1) x).reverse ++ vF (7 - (m + 1)) y)]
def taF (q:Bool):Fl:=match q with | true=> .ret (.bool true) | false=> .next
def taL (c:Nat)(q:Bool)(b:Bool)(P:Params)(d h x y z:Nat->Str):Option (List Prop×V×Sto):=zP (goS (cf b P) 18 ((zCn b P).drop 3) (vO b P) (rfI c false d h (h 6) (vF (c - 1) z) (vF c x) (vF (7 - c) y))) [.ans 38 true,.ans 0 q]
def taR (c:Nat)(q:Bool)(d h x y z:Nat->Str):Option (List Prop×V×Sto):=some ([shL (taW c x y) (dl7 d)=true,zMK (taW c x y) (dl7 d)=q],kJ (taF q),taT c d h x y z)
section
variable {b:Bool} {P:Params} {d h x y z:Nat->Str} {sg:Str}
theorem zS6:puL 0 b P d h x y z sg=puR 0 d h x y z sg:=by kernel_rfl
theorem zSU:puL 1 b P d h x y z sg=puR 1 d h x y z sg:=by kernel_rfl
theorem zSA:puL 2 b P d h x y z sg=puR 2 d h x y z sg:=by kernel_rfl
theorem zSX:puL 3 b P d h x y z sg=puR 3 d h x y z sg:=by kernel_rfl
theorem zTR:puL 4 b P d h x y z sg=puR 4 d h x y z sg:=by kernel_rfl
theorem zTU:puL 5 b P d h x y z sg=puR 5 d h x y z sg:=by kernel_rfl
theorem zTs:puL 6 b P d h x y z sg=puR 6 d h x y z sg:=by kernel_rfl
theorem zTC:puL 7 b P d h x y z sg=puR 7 d h x y z sg:=by kernel_rfl
theorem zPy {c:Nat}(hc:c<=7):puL c b P d h x y z sg=puR c d h x y z sg:=by
 have:c=0\/c=1\/c=2\/c=3\/c=4\/c=5\/c=6\/c=7:=by omega
 rcases this with rfl | rfl | rfl | rfl | rfl | rfl | rfl | rfl
 ·exact zS6
 ·exact zSU
 ·exact zSA
 ·exact zSX
 ·exact zTR
 ·exact zTU
 ·exact zTs
 ·exact zTC
theorem zSJ:wK.map (fun c=>taL c true b P d h x y z)=wK.map fun c=>taR c true d h x y z:=by kernel_rfl
theorem zTj:wK.map (fun c=>taL c false b P d h x y z)=wK.map fun c=>taR c false d h x y z:=by kernel_rfl
theorem zS0:wK.map (fun c=>gc 6 (taT c d h x y z))=wK.map fun c=>zGx d h (Int.ofNat c) (h 6) (vF c x).reverse:=by kernel_rfl
theorem zTB:wK.map (fun c=>gcv 3 (.bool true) (taT c d h x y z))=wK.map fun c=>(.bool true,rfE d h):=by kernel_rfl
theorem zS5:wK.map (fun c=>zP (goS (cf b P) 18 ((zCn b P).take 2) (vO b P) (rfC c d h sg (vF (c - 1) z))) [])=wK.map fun c=>some ([],kJ .next,rfI c true d h sg (vF (c - 1) z) [] []):=by kernel_rfl
def zQA:Stmt->Expr
 | .For _ it _ _ _=>it
 | _=>default
def zS2:Stmt->Pos
 | .For _ _ _ _ p=>p
 | _=>default
theorem zRD {C:Cf}{n:Nat}{st:Stmt}{t it:Expr}{body:List Stmt}{p:Pos}{ae:AE}{σ σ₁:Sto}{v:V}{nx:Sto->Nat->Option (Option V)}{m:Nat}(hs:st= .For t it body [] p)(h0:yB it=false)(h1:(ev C n).e it ae σ=some (v,σ₁))(h2:zEU v σ₁= .other)(h3:xF v σ₁=some nx)(h4:σ₁.length=m):(ev C (n + 1)).x st ae σ=yD (ev C n) t body ae m nx 1000 0 σ₁:=by
 subst hs h4;show zAI C.kf (ev C n) t it body [] ae σ=_;unfold zAI;rw [h0,h1];dsimp only;rw [h2];dsimp only;rw [h3];rfl
theorem zJv:zAP b P= .For (qP (zAP b P)) (zQA (zAP b P)) (yU (zAP b P)) [] (zS2 (zAP b P))/\yB (zQA (zAP b P))=false:=⟨by kernel_rfl,by kernel_rfl⟩
theorem zTI:wK.map (fun c=>(ev (cf b P) 17).e (zQA (zAP b P)) (vO b P) (rfI c true d h sg (vF (c - 1) z) [] []))=wK.map fun c=>some (.trk 2,rfI c true d h sg (vF (c - 1) z) [] []):=by kernel_rfl
theorem zTJ {c:Nat}(hc:c<=7):(ev (cf b P) 18).x (zAP b P) (vO b P) (rfI c true d h sg (vF (c - 1) z) [] [])=zLQ b P (rfM c) 1000 0 (rfI c true d h sg (vF (c - 1) z) [] []):=
 zRD zJv.1 zJv.2 (wQ zTI hc) (by cases c <;>rfl) (by cases c <;>rfl) (by cases c <;>rfl)
theorem zSR:wK.map (fun c=>(nxR 0 8 1 (rfO c d h sg (vF (c - 1) z)) c,qD (qP (zG2 b P)) (.int (Int.ofNat c)) (vO b P) (rfO c d h sg (vF (c - 1) z))))=wK.map fun c=>(some (some (.int (Int.ofNat c))),some (rfC c d h sg (vF (c - 1) z))):=by kernel_rfl
theorem zNL:zCn b P=(zCn b P).take 2 ++ (zAP b P::(zCn b P).drop 3):=by kernel_rfl
theorem vS:∀(ps:List Bool) (hs:List Str),ps.length=hs.length->(sel true ps hs).length=cnt ps
 | [],[],_=>rfl
 | true::ps,x::hs,e=>by
  show (sel true ps hs).length + 1=cnt ps + 1;rw [vS ps hs (Nat.succ.inj e)]
 | false::ps,x::hs,e=>by
  show (sel true ps hs).length=cnt ps;exact vS ps hs (Nat.succ.inj e)
theorem zC8:∀(ps:List Bool) (hs:List Str),ps.length=hs.length->(sel false ps hs).length + cnt ps=hs.length
 | [],[],_=>rfl
 | true::ps,x::hs,e=>by
  have:=zC8 ps hs (Nat.succ.inj e);show (sel false ps hs).length + (cnt ps + 1)=hs.length + 1;omega
 | false::ps,x::hs,e=>by
  have:=zC8 ps hs (Nat.succ.inj e);show (sel false ps hs).length + 1 + cnt ps=hs.length + 1;omega
theorem zId:∀ps:List Bool,cnt ps<=ps.length
 | []=>Nat.le_refl _
 | true::ps=>Nat.succ_le_succ (zId ps)
 | false::ps=>Nat.le_succ_of_le (zId ps)
theorem zGr (l:List Str){n:Nat}(hn:l.length=n):(zB 0 n).map (fun i=>l.getD i (S ""))=l:=by
 subst hn;apply List.ext_getElem?;intro i;rw [List.getElem?_map]
 by_cases h:i < l.length
 ·rw [zR l.length 0 i h,List.getElem?_eq_getElem h]
  simp [List.getD_eq_getElem?_getD,List.getElem?_eq_getElem h]
 ·rw [List.getElem?_eq_none (by rw [zH]; omega),List.getElem?_eq_none (by omega)]
  rfl
theorem fo {c:Nat}(hc:c<=7)(hs:∀i,shD d c (h i)=true):∀(ps:List Bool) (i fu:Nat) (sg:Str) (xs ys:List Str),i + ps.length=7->xs.length + ys.length=i->xs.length + cnt ps=c->(∀j,j < ps.length->zHG d c (h (i + j))=ps.getD j false)->(0 < i->sg=h (i - 1))->ps.length < fu->
  zLQ b P (rfM c) fu i (rfI c (Nat.beq i 0) d h sg (vF (c - 1) z) (xs.map .str) (ys.map .str))=some (.next,rfI c false d h (h 6) (vF (c - 1) z) ((xs ++ sel true ps ((zB i ps.length).map h)).map .str) ((ys ++ sel false ps ((zB i ps.length).map h)).map .str))
 | [],i,fu,sg,xs,ys,h1,h2,h3,h4,h5,h6=>by
  obtain ⟨fu,rfl⟩:∃g,fu=g + 1:=⟨fu - 1,by omega⟩;have h1:i=7:=h1;subst h1;obtain rfl:=h5 (by decide);have e:sel true [] ((zB 7 0).map h)=[]/\sel false [] ((zB 7 0).map h)=[]:=⟨rfl,rfl⟩;show zLQ b P (rfM c) (fu + 1) 7 (rfI c false d h (h 6) (vF (c - 1) z) (xs.map .str) (ys.map .str))=some (.next,rfI c false d h (h 6) (vF (c - 1) z) ((xs ++ []).map .str) ((ys ++ []).map .str));rw [List.append_nil,List.append_nil];exact zV (by cases c <;>rfl)
 | q::ps,i,fu,sg,xs,ys,h1,h2,h3,h4,h5,h6=>by
  obtain ⟨fu,rfl⟩:∃g,fu=g + 1:=⟨fu - 1,by omega⟩;have hl:ps.length + 1 + i=7:=by rw [List.length_cons] at h1; omega
  have h6:ps.length + 1 < fu + 1:=h6;have hcl:cnt ps<=ps.length:=zId ps;have hq:cnt (q::ps)=cnt ps + (if q then 1 else 0):=by cases q <;>rfl
  rw [hq] at h3;have hm:=h4 0 (by simp);have hm:zHG d c (h i)=q:=hm;have hmem:(xs.length,ys.length,q)∈puQ c:=by
   refine zNn hc (by omega) (fun e=>?_) (fun e=>?_) (by omega) (by split at h3 <;>omega)
   ·rw [e] at h3; simp only [if_true] at h3; omega
   ·rw [e] at h3; simp only [Bool.false_eq_true,if_false] at h3; omega
  have T:=List.map_inj_left.mp (zPy (b:=b) (P:=P) (d:=d) (h:=h) (x:=fun i=>xs.getD i (S "")) (y:=fun i=>ys.getD i (S "")) (z:=z) (sg:=sg) hc) _ hmem;dsimp only at T;rw [h2,<-zEV xs rfl,<-zEV ys rfl] at T;have T2:=zJ T (by
   unfold puP;cases c with
   | zero=>exact ⟨hs i,trivial⟩
   | succ m=>exact ⟨hs i,hm,trivial⟩)
  refine (zC T2).trans ?_;have R:=fun xs' ys' a1 a2=>fo hc hs ps (i + 1) fu (h i) xs' ys' (by omega) a1 a2 (fun j hj=>by
   have z:=h4 (j + 1) (by rw [List.length_cons]; omega);rw [show i + (j + 1)=i + 1 + j by omega] at z;exact z) (fun _=>rfl) (by omega)
  cases q with
  | true=>
   have R:=R (xs ++ [h i]) ys (by rw [List.length_append]; show xs.length + 1 + ys.length=_; omega) (by rw [List.length_append]; show xs.length + 1 + cnt ps=c; simp only [if_true] at h3; omega);rw [List.map_append,List.append_assoc] at R;exact R
  | false=>
   have R:=R xs (ys ++ [h i]) (by rw [List.length_append]; show xs.length + (ys.length + 1)=_; omega) (by simp only [Bool.false_eq_true,if_false] at h3; omega);rw [List.map_append (l₁:=ys),List.append_assoc] at R;exact R
theorem tn {c:Nat}(hc:c<=7){ps:List Bool}{bk:List Str}(hbk:bk.length=c - 1)(h7:ps.length=7)(hs:∀i,shD d c (h i)=true)(hm:∀j,j < 7->zHG d c (h j)=ps.getD j false)(hcn:cnt ps=c){q:Bool}(hL:shL ((sel true ps ((zB 0 7).map h)).reverse ++ sel false ps ((zB 0 7).map h)) (dl7 d)=true)(hq:zMK ((sel true ps ((zB 0 7).map h)).reverse ++ sel false ps ((zB 0 7).map h)) (dl7 d)=q):
  (q=true->∃σ,zMY b P c (rfO c d h sg (bk.map .str))=some (.ret (.bool true),σ)/\gcv 3 (.bool true) σ=(.bool true,rfE d h))/\(q=false->zMY b P c (rfO c d h sg (bk.map .str))=some (.next,zGx d h (Int.ofNat c) (h 6) ((sel true ps ((zB 0 7).map h)).reverse.map .str))):=by
 have hbv:=zEV bk hbk;generalize (fun i=>bk.getD i (S ""))=z at hbv;have F:=fo (b:=b) (P:=P) (z:=z) hc hs ps 0 1000 sg [] [] (by omega) rfl (by simpa using hcn) (fun j hj=>by rw [Nat.zero_add]; exact hm j (by omega)) (fun h=>absurd h (by decide)) (by omega);rw [h7,List.nil_append,List.nil_append] at F;have hl7:((zB 0 7).map h).length=7:=rfl;have lx:(sel true ps ((zB 0 7).map h)).length=c:=by rw [vS _ _ (by rw [h7,hl7]),hcn]
 have ly:(sel false ps ((zB 0 7).map h)).length=7 - c:=by
  have:=zC8 ps ((zB 0 7).map h) (by rw [h7,hl7]);rw [hl7] at this; omega
 have vx:=zEV _ lx;have vy:=zEV _ ly;have wx:=zGr _ lx;have wy:=zGr _ ly;generalize sel true ps ((zB 0 7).map h)=X at *;generalize sel false ps ((zB 0 7).map h)=Y at *;generalize (fun i=>X.getD i (S ""))=x at vx wx;generalize (fun i=>Y.getD i (S ""))=y at vy wy;rw [vx,vy] at F;have hW:taW c x y=X.reverse ++ Y:=by unfold taW; rw [wx,wy]
 have A1:=wQ (zSR (b:=b) (P:=P) (d:=d) (h:=h) (sg:=sg) (z:=z)) hc;have H1:=zD (wQ (zS5 (b:=b) (P:=P) (d:=d) (h:=h) (sg:=sg) (z:=z)) hc) trivial;have X1:=zTJ (b:=b) (P:=P) (d:=d) (h:=h) (sg:=sg) (z:=z) hc;have hb:∀f σ₂,evs (ev (cf b P) 18) ((zCn b P).drop 3) (vO b P) (rfI c false d h (h 6) (vF (c - 1) z) (vF c x) (vF (7 - c) y))=some (f,σ₂)->evs (ev (cf b P) 18) (zCn b P) (vO b P) (rfC c d h sg (vF (c - 1) z))=some (f,σ₂):=fun f σ₂ e=>by
  rw [zNL];exact (zG H1).trans ((zDl (X1.trans F)).trans e)
 rw [hbv];refine ⟨fun e=>?_,fun e=>?_⟩ <;>subst e
 ·have T:=zD (f:= .ret (.bool true)) (wQ (zSJ (b:=b) (P:=P) (d:=d) (h:=h) (x:=x) (y:=y) (z:=z)) hc) ⟨hW▸hL,hW▸hq,trivial⟩
  exact ⟨_,zMm (congrArg Prod.fst A1) (congrArg Prod.snd A1) (hb _ _ T),wQ (zTB (d:=d) (h:=h) (x:=x) (y:=y) (z:=z)) hc⟩
 ·have T:=zD (f:= .next) (wQ (zTj (b:=b) (P:=P) (d:=d) (h:=h) (x:=x) (y:=y) (z:=z)) hc) ⟨hW▸hL,hW▸hq,trivial⟩
  have G:=wQ (zS0 (d:=d) (h:=h) (x:=x) (y:=y) (z:=z)) hc;rw [List.map_reverse,vx];exact zA8 (congrArg Prod.fst A1) (congrArg Prod.snd A1) (hb _ _ T) G
end
section
variable {b:Bool} {P:Params} {d h:Nat->Str} {r0 r1 r2 r3 r4 r5 r6:Nat}
abbrev rl (r0 r1 r2 r3 r4 r5 r6:Nat):List Nat:=[r0,r1,r2,r3,r4,r5,r6]
structure Heard (d h:Nat->Str) (r0 r1 r2 r3 r4 r5 r6:Nat):Prop where
 row:rl r0 r1 r2 r3 r4 r5 r6∈rowsK 7
 e0:h 0=d r0
 e1:h 1=d r1
 e2:h 2=d r2
 e3:h 3=d r3
 e4:h 4=d r4
 e5:h 5=d r5
 e6:h 6=d r6
 ok:∀i,PyData.strOk (h i)=true
theorem zMG {l:List Nat}(h:l∈rowsK 7):∀x∈l,x < 7:=fun x hx=>by
 have:=(zL 7 0 x).mp ((zGG h).mem_iff.mp hx);omega
theorem zJG {l:List Nat}(h:l∈rowsK 7){c:Nat}(hc:c<=7):(l.filter fun x=>Nat.blt x c).length=c:=by
 rw [((zGG h).filter _).length_eq];have:c=0\/c=1\/c=2\/c=3\/c=4\/c=5\/c=6\/c=7:=by omega
 rcases this with rfl | rfl | rfl | rfl | rfl | rfl | rfl | rfl <;>rfl
def rfP (d h:Nat->Str):Nat->Sto->Prop
 | 0,σ=>σ=zIG d h []
 | c + 1,σ=>∃(sg:Str) (bk:List Str),bk.length=c/\σ=zGx d h (Int.ofNat c) sg (bk.map .str)
theorem hh (H:Heard d h r0 r1 r2 r3 r4 r5 r6):(zB 0 7).map h=(rl r0 r1 r2 r3 r4 r5 r6).map d:=by
 show [h 0,h 1,h 2,h 3,h 4,h 5,h 6]=[d r0,d r1,d r2,d r3,d r4,d r5,d r6];rw [H.e0,H.e1,H.e2,H.e3,H.e4,H.e5,H.e6]
def zPc (b:Bool)(P:Params)(d h:Nat->Str)(g:Bool)(c:Nat)(σ:Sto):Prop:=(g=true->∃σ',zMY b P c σ=some (.ret (.bool true),σ')/\gcv 3 (.bool true) σ'=(.bool true,rfE d h))/\(g=false->∃σ',zMY b P c σ=some (.next,σ')/\rfP d h (c + 1) σ')
theorem zOd (D:Deck d)(H:Heard d h r0 r1 r2 r3 r4 r5 r6){c:Nat}(hc:c < 8){σ:Sto}(hP:rfP d h c σ):zPc b P d h (zEn (rl r0 r1 r2 r3 r4 r5 r6) c) c σ:=by
 obtain ⟨sg,bk,hbk,rfl⟩:∃(sg:Str) (bk:List Str),bk.length=c - 1/\σ=rfO c d h sg (bk.map .str):=by
  cases c with
  | zero=>exact ⟨S "",[],rfl,hP⟩
  | succ m=>obtain ⟨sg,bk,hl,rfl⟩:=hP; exact ⟨sg,bk,hl,rfl⟩
 have L:=zMG H.row;have e1:=zL1 d c (rl r0 r1 r2 r3 r4 r5 r6);have e2:=zLn d c (rl r0 r1 r2 r3 r4 r5 r6);rw [<-hh H] at e1 e2;have eA:(sel true ((rl r0 r1 r2 r3 r4 r5 r6).map fun x=>Nat.blt x c) ((zB 0 7).map h)).reverse ++ sel false ((rl r0 r1 r2 r3 r4 r5 r6).map fun x=>Nat.blt x c) ((zB 0 7).map h)=(((rl r0 r1 r2 r3 r4 r5 r6).filter fun x=>Nat.blt x c).reverse ++ (rl r0 r1 r2 r3 r4 r5 r6).filter fun x=>!Nat.blt x c).map d:=by
  rw [e1,e2,List.map_append,List.map_reverse]
 have hm:∀j,j < 7->zHG d c (h j)=((rl r0 r1 r2 r3 r4 r5 r6).map fun x=>Nat.blt x c).getD j false:=fun j hj=>by
  have:j=0\/j=1\/j=2\/j=3\/j=4\/j=5\/j=6:=by omega
  rcases this with rfl | rfl | rfl | rfl | rfl | rfl | rfl
  ·rw [H.e0]; exact zAv D (L _ (by simp [rl])) (by omega)
  ·rw [H.e1]; exact zAv D (L _ (by simp [rl])) (by omega)
  ·rw [H.e2]; exact zAv D (L _ (by simp [rl])) (by omega)
  ·rw [H.e3]; exact zAv D (L _ (by simp [rl])) (by omega)
  ·rw [H.e4]; exact zAv D (L _ (by simp [rl])) (by omega)
  ·rw [H.e5]; exact zAv D (L _ (by simp [rl])) (by omega)
  ·rw [H.e6]; exact zAv D (L _ (by simp [rl])) (by omega)
 have T:=tn (b:=b) (P:=P) (sg:=sg) (by omega) hbk (ps:=(rl r0 r1 r2 r3 r4 r5 r6).map fun x=>Nat.blt x c) rfl (fun i=>zPf D.ok H.ok c i) hm ((zAD c _).trans (zJG H.row (by omega))) (q:=zEn (rl r0 r1 r2 r3 r4 r5 r6) c) (by
   rw [eA];refine zQD (fun x hx=>?_) (fun x hx=>?_)
   ·obtain ⟨i,_,rfl⟩:=List.mem_map.mp hx; exact D.ok i
   ·have hx:x∈(zB 0 7).map d:=hx
    obtain ⟨i,_,rfl⟩:=List.mem_map.mp hx; exact D.ok i) (by
   rw [eA];refine zQt D _ (zB 0 7) (fun x hx=>?_) (fun x hx=>by have:=(zL 7 0 x).mp hx; omega);rcases List.mem_append.mp hx with hx | hx
   ·rw [List.mem_reverse] at hx
    exact L x (List.mem_filter.mp hx).1
   ·exact L x (List.mem_filter.mp hx).1)
 refine ⟨T.1,fun e=>⟨_,T.2 e,h 6,_,?_,rfl⟩⟩;rw [List.length_reverse,e1,List.length_map,zJG H.row (by omega)]
theorem zJI (D:Deck d)(H:Heard d h r0 r1 r2 r3 r4 r5 r6):∀(n c:Nat) (σ:Sto) (fu:Nat),c + n=8->n < fu->rfP d h c σ->
  ((zB c n).any (zEn (rl r0 r1 r2 r3 r4 r5 r6))=true->∃σ',yD (ev (cf b P) 18) (qP (zG2 b P)) (zCn b P) (vO b P) 6 (nxR 0 8 1) fu c σ=some (.ret (.bool true),σ')/\gcv 3 (.bool true) σ'=(.bool true,rfE d h))/\
  ((zB c n).any (zEn (rl r0 r1 r2 r3 r4 r5 r6))=false->∃σ',yD (ev (cf b P) 18) (qP (zG2 b P)) (zCn b P) (vO b P) 6 (nxR 0 8 1) fu c σ=some (.next,σ')/\rfP d h 8 σ')
 | 0,c,σ,fu,hc,hf,hP=>by
  obtain ⟨fu,rfl⟩:∃g,fu=g + 1:=⟨fu - 1,by omega⟩;obtain rfl:c=8:=by omega
  refine ⟨fun e=>(by cases e),fun _=>⟨σ,zV (by rfl),hP⟩⟩
 | n + 1,c,σ,fu,hc,hf,hP=>by
  obtain ⟨fu,rfl⟩:∃g,fu=g + 1:=⟨fu - 1,by omega⟩;obtain ⟨T1,T2⟩:=zOd (b:=b) (P:=P) D H (by omega) hP;have e:(zB c (n + 1)).any (zEn (rl r0 r1 r2 r3 r4 r5 r6))=(zEn (rl r0 r1 r2 r3 r4 r5 r6) c || (zB (c + 1) n).any (zEn (rl r0 r1 r2 r3 r4 r5 r6))):=rfl;rw [e];cases hg:zEn (rl r0 r1 r2 r3 r4 r5 r6) c with
  | true=>
   obtain ⟨σ',h1,h2⟩:=T1 hg;exact ⟨fun _=>⟨σ',zKh h1,h2⟩,fun e=>by cases e⟩
  | false=>
   obtain ⟨σ',h1,h2⟩:=T2 hg;have R:=zJI D H n (c + 1) σ' fu (by omega) (by omega) h2;rw [zC h1];exact R
theorem zNG:(ev (cf b P) 20).c (.val (.ref 347)) [.trk 1,.trk 2] [] (rfE d h)=yR (ev (cf b P) 19) 3 (rfB b P) (vO b P) (zIG d h []):=by kernel_rfl
theorem zTm:(ev (cf b P) 19).x (zG2 b P) (vO b P) (zIG d h [])=yD (ev (cf b P) 18) (qP (zG2 b P)) (zCn b P) (vO b P) 6 (nxR 0 8 1) 1000 0 (zIG d h []):=by kernel_rfl
theorem zO7:rfB b P=[zG2 b P,(rfB b P).getD 1 default]:=by kernel_rfl
theorem zNa {sg:Str}{z:Nat->Str}:evs (ev (cf b P) 19) [(rfB b P).getD 1 default] (vO b P) (zGx d h (Int.ofNat 7) sg (vF 7 z))=some (.ret (.bool false),zGx d h (Int.ofNat 7) sg (vF 7 z)):=zD (ds:=[]) (ps:=[]) (by kernel_rfl) trivial
theorem zN2 {sg:Str}{z:Nat->Str}:gcv 3 (.bool false) (zGx d h (Int.ofNat 7) sg (vF 7 z))=(.bool false,rfE d h):=by kernel_rfl
theorem zFu {r:Rec}{a c:Stmt}{ae:AE}{σ:Sto}:evs r [a,c] ae σ=match r.x a ae σ with
  | some (.next,σ₁)=>evs r [c] ae σ₁
  | some (f,σ₁)=>some (f,σ₁)
  | none=>none:=rfl
theorem zMU (D:Deck d)(H:Heard d h r0 r1 r2 r3 r4 r5 r6):(ev (cf b P) 20).c (.val (.ref 347)) [.trk 1,.trk 2] [] (rfE d h)=some (.bool (gB (rl r0 r1 r2 r3 r4 r5 r6)),rfE d h):=by
 rw [zNG];unfold yR;obtain ⟨R1,R2⟩:=zJI (b:=b) (P:=P) D H 8 0 (zIG d h []) 1000 rfl (by decide) rfl;rw [zO7,zFu,zTm];have hgB:gB (rl r0 r1 r2 r3 r4 r5 r6)=(zB 0 8).any (zEn (rl r0 r1 r2 r3 r4 r5 r6)):=rfl;rw [hgB];cases hg:(zB 0 8).any (zEn (rl r0 r1 r2 r3 r4 r5 r6)) with
 | true=>
  obtain ⟨σ',h1,h2⟩:=R1 hg;rw [h1];dsimp only;rw [h2]
 | false=>
  obtain ⟨σ',h1,sg,bk,hl,rfl⟩:=R2 hg;rw [h1];dsimp only;rw [zEV bk hl,zNa];dsimp only;rw [zN2]
end
end Mine
end
end
section
noncomputable section
namespace Mine
abbrev csL (c:Nat->Int):List V:=[.int (c 0),.int (c 1),.int (c 2),.int (c 3),.int (c 4),.int (c 5),.int (c 6),.int (c 7),.int (c 8)]
def niB (rs:List Int)(c:Nat):Bool:=!((rs.map PyData.int).any fun y=>PyData.eqv y (.int (Int.ofNat c)))
def xI (c:Nat)(rs:List Int):Int:=zAd (fun x b=>decide (x < b)) (rs.map fun r=>if Int.ofNat c - r < 0 then -(Int.ofNat c - r) else Int.ofNat c - r)
def lfV (rs:List Int)(c:Nat):V:= .tup [.int (xI c rs),.int (Int.ofNat c)]
abbrev zBw (c:Nat->Int)(kv:List (Str×V))(row:List V)(tl:Sto):Sto:= .ctab 332 false:: .list (csL c):: .ns ((S "cells",.trk 1)::kv):: .cell (some (.trk 4)):: .list row::tl
abbrev zLM (dr:Int)(lf:Nat)(pk:Int):List (Str×V):=[(S "draw",.int dr),(S "left",.trk lf),(S "pick",.int pk)]
def zJO (l l2:List V):Prop:=(zA6 l).map (fun l'=>((V.tup l'),([]:Sto)))=some (.tup l2,[])
def zSl (l:List V)(i:Int)(v:V):Prop:=(wH (.tup l) (.int i) []).map (fun v=>(v,([]:Sto)))=some (v,[])
theorem zDq:∀(n i:Nat),(zB i n).Nodup
 | 0,_=>List.nodup_nil
 | n + 1,i=>List.nodup_cons.mpr ⟨fun h=>by have:=(zL n (i + 1) i).mp h; omega,zDq n (i + 1)⟩
def yA (l:List Nat):List Nat:=(zB 0 7).filter fun y=>!yE y l
theorem zLH {k:Nat}{l:List Nat}(h:l∈rowsK k)(hk:k<=7):(yA l).length=7 - k:=by
 obtain ⟨h1,qC,hp⟩:=kY k l h;have nd:(l ++ qC).Nodup:=hp.nodup_iff.mpr (zDq 7 0);have e1:=(hp.filter fun y=>!yE y l).length_eq;have e2:=hp.length_eq;have e7:(zB 0 7).length=7:=rfl;rw [List.length_append,e7,h1] at e2;unfold yA;rw [<-e1,List.filter_append];have f1:l.filter (fun y=>!yE y l)=[]:=by
  rw [List.filter_eq_nil_iff];intro a ha;rw [(yN a l).mpr ha]; simp
 have f2:qC.filter (fun y=>!yE y l)=qC:=by
  rw [List.filter_eq_self];intro a ha;have hn:a ∉ l:=fun q=>(List.nodup_append.mp nd).2.2 a q a ha rfl;cases hm:yE a l with
  | false=>rfl
  | true=>exact absurd ((yN a l).mp hm) hn
 rw [f1,f2,List.nil_append];omega
theorem zQZ (l:List Nat)(c:Nat):niB (l.map Int.ofNat) c=!yE c l:=by
 unfold niB
 congr 1
 rw [Bool.eq_iff_iff,List.any_eq_true,yN];constructor
 ·rintro ⟨y,hy,e⟩
  simp only [List.map_map,List.mem_map] at hy;obtain ⟨i,hi,rfl⟩:=hy;have e:(Int.ofNat i==Int.ofNat c)=true:=by simpa [PyData.eqv] using e
  have:=Int.ofNat.inj (eq_of_beq e);subst this; exact hi
 ·intro h
  refine ⟨.int (Int.ofNat c),?_,by simp [PyData.eqv]⟩;simp only [List.map_map,List.mem_map];exact ⟨c,h,rfl⟩
def zKE:List Bool->Nat
 | []=>0
 | true::l=>zKE l + 1
 | false::l=>zKE l
theorem zC2 (l:List Nat):∀u:List Nat,zKE (u.map fun y=>!yE y l)=(u.filter fun y=>!yE y l).length
 | []=>rfl
 | x::u=>by
  simp only [List.map_cons,List.filter_cons];cases (!yE x l) with
  | true=>simp [zKE,zC2 l u]
  | false=>simp [zKE,zC2 l u]
theorem zLh {n:Nat}(h1:1<=n)(h6:n<=6)(x y:Nat->Int):∃q:List Nat,q.length=n/\(∀i∈q,i < n)/\zJO ((zB 0 n).map (uS x y)) (q.map (uS x y)):=by
 have:n=1\/n=2\/n=3\/n=4\/n=5\/n=6:=by omega
 have gen:∀{n:Nat},2<=n->n<=6->wZ n=true->∃q:List Nat,q.length=n/\(∀i∈q,i < n)/\zJO ((zB 0 n).map (uS x y)) (q.map (uS x y)):=fun h2 h6 hs=>by
  obtain ⟨q,a1,a2,_,a4⟩:=zMh h2 (by omega) hs x y;exact ⟨q,a1,a2,by unfold zJO; rw [a4]; rfl⟩
 rcases this with rfl | rfl | rfl | rfl | rfl | rfl
 ·exact ⟨[0],rfl,by simp,rfl⟩
 ·exact gen (by decide) (by decide) zPR
 ·exact gen (by decide) (by decide) zQe
 ·exact gen (by decide) (by decide) zN4
 ·exact gen (by decide) (by decide) zPq
 ·exact gen (by decide) (by decide) zO3
theorem zNf {n:Nat}(h1:1<=n)(h6:n<=6)(f:Nat->V)(i:Int):∃j,j < n/\zSl ((zB 0 n).map f) (Int.fmod i n) (f j):=by
 have hn:(0:Int) < n:=by omega
 have e:Int.fmod i n=Int.emod i n:=Int.fmod_eq_emod_of_nonneg i (by omega);have b1:=Int.emod_nonneg i (show (n:Int)≠0 by omega);have b2:=Int.emod_lt_of_pos i hn;obtain ⟨j,hj⟩:=Int.eq_ofNat_of_zero_le b1;have hjn:j < n:=by
  have:(j:Int) < n:=by rw [<-hj]; exact b2
  omega
 refine ⟨j,hjn,?_⟩;rw [e];show (wH (.tup ((zB 0 n).map f)) (.int (i % n)) []).map _=_;rw [hj];have hlen:((zB 0 n).map f).length=n:=by rw [List.length_map,zH]
 unfold wH;dsimp only;have g1:(decide ((j:Int) < -(2 ^ 63:Int)) || decide ((j:Int) ≥ 2 ^ 63))=false:=by
  simp only [Bool.or_eq_false_iff,decide_eq_false_iff_not];omega
 rw [g1];simp only [Bool.false_eq_true,if_false];have g2:seqIndex? (j:Int) ((zB 0 n).map f).length=some j:=by
  rw [hlen];unfold seqIndex?;have c1:¬((j:Int) < 0):=by omega
  dsimp only;rw [if_neg c1];have c2:(decide (0<=(j:Int)) && decide ((j:Int) < (n:Int)))=true:=by simp; omega
  rw [if_pos c2];simp
 rw [g2];simp only [Option.bind_some];rw [List.getElem?_map,zR n 0 j hjn];simp
def zKl:List Bool->List Nat->List Nat
 | true::ps,x::xs=>x::zKl ps xs
 | false::ps,_::xs=>zKl ps xs
 | _,_=>[]
theorem zBL (l:List Nat):∀u:List Nat,zKl (u.map fun y=>!yE y l) u=u.filter fun y=>!yE y l
 | []=>rfl
 | x::u=>by
  simp only [List.map_cons,List.filter_cons];cases (!yE x l) with
  | true=>simp [zKl,zBL l u]
  | false=>simp [zKl,zBL l u]
def rr (l:List Nat)(i:Nat):Int:=Int.ofNat (l.getD i 0)
def zLv (d:Bool)(dr:Int):Int:=match d with
 | true=>Int.fmod dr 2
 | false=>dr - 3
theorem zG9 (f:Nat->V):∀(cs:List Nat),(zB 0 cs.length).map (fun i=>f (cs.getD i 0))=cs.map f:=by
 intro cs;apply List.ext_getElem?;intro i;rw [List.getElem?_map,List.getElem?_map]
 by_cases h:i < cs.length
 ·rw [zR cs.length 0 i h,List.getElem?_eq_getElem h]
  simp [List.getD_eq_getElem?_getD,List.getElem?_eq_getElem h]
 ·rw [List.getElem?_eq_none (by rw [zH]; omega),List.getElem?_eq_none (by omega)]
  rfl
abbrev zCi (k:Nat)(r:Nat->Int):List V:=(zB 0 k).map fun i=> .int (r i)
abbrev tuF (n:Nat)(x y:Nat->Int):List V:=(zB 0 n).map (uS x y)
def rwF (k:Nat)(c r x y:Nat->Int)(dr pk:Int):Sto:=match k with
 | 1=>zBw c [] (zCi 1 r) []
 | k=>zBw c (zLM dr 5 pk) (zCi k r) [.list (tuF (8 - k) x y)]
def rwA (k:Nat)(c r x y:Nat->Int)(dr pk:Int)(lf:List V):Sto:=match k with
 | 1=>zBw c [(S "draw",.int dr),(S "left",.trk 5)] (zCi 1 r) [.list lf]
 | k=>zBw c (zLM dr 6 pk) (zCi k r) [.list (tuF (8 - k) x y),.list lf]
def rwE (k:Nat)(c r x y:Nat->Int)(dr pk Y:Int)(lf:List V):Sto:=match k with
 | 1=>zBw c [(S "draw",.int dr),(S "left",.trk 5),(S "pick",.int pk)] (zCi 1 r ++ [.int Y]) [.list lf]
 | k=>zBw c (zLM dr 6 pk) (zCi k r ++ [.int Y]) [.list (tuF (8 - k) x y),.list lf]
def boL:Nat->List (List Bool)
 | 0=>[[]]
 | n + 1=>(boL n).flatMap fun l=>[false::l,true::l]
theorem zJe:∀l:List Bool,l∈boL l.length
 | []=>List.mem_singleton.mpr rfl
 | q::l=>List.mem_flatMap.mpr ⟨l,zJe l,by cases q <;>simp⟩
def raQ (k:Nat):List (List Bool):=(boL 7).filter fun l=>Nat.beq (zKE l) (7 - k)
def raD (k:Nat):Nat->List Bool->List Dec
 | _,[]=>[]
 | n,false::l=> .ans n false::raD k 2 l
 | n,true::l=> .ans n true::raD k (5 + 4 * k) l
def raP (rs:List Int):Nat->List Bool->List Prop
 | _,[]=>[]
 | i,q::l=>(niB rs i=q)::raP rs (i + 1) l
abbrev rsF (k:Nat)(r:Nat->Int):List Int:=(zB 0 k).map r
def raL (k:Nat)(b:Bool)(P:Params)(c r x y:Nat->Int)(dr pk:Int):List (Option (List Prop×V×Sto)):=(raQ k).map fun q=>zP (goS (cf b P) 18 ((zHj b P).take 2) (zCj b P) (rwF k c r x y dr pk)) (raD k 5 q)
def raR (k:Nat)(c r x y:Nat->Int)(pk:Int):List (Option (List Prop×V×Sto)):=(raQ k).map fun q=>some (raP (rsF k r) 0 q,kJ .next,rwA k c r x y (Int.fmod (c (k + 1)) 8) pk ((zKl q (zB 0 7)).map (lfV (rsF k r))))
def zKn:List Nat:=[1,2,3,4,5,6]
theorem zGQ {f g:Nat->α}(h:zKn.map f=zKn.map g){k:Nat}(h1:1<=k)(h6:k<=6):f k=g k:=List.map_inj_left.mp h k (by
 have:k=1\/k=2\/k=3\/k=4\/k=5\/k=6:=by omega
 rcases this with rfl | rfl | rfl | rfl | rfl | rfl <;>decide)
section
variable {b:Bool} {P:Params} {c r x y x2 y2 x3 y3:Nat->Int} {dr pk X0 Y0:Int}
theorem zTM:raL 1 b P c r x y dr pk=raR 1 c r x y pk:=by kernel_rfl
theorem zSw:raL 2 b P c r x y dr pk=raR 2 c r x y pk:=by kernel_rfl
theorem zTv:raL 3 b P c r x y dr pk=raR 3 c r x y pk:=by kernel_rfl
theorem zTG:raL 4 b P c r x y dr pk=raR 4 c r x y pk:=by kernel_rfl
theorem zTS:raL 5 b P c r x y dr pk=raR 5 c r x y pk:=by kernel_rfl
theorem zSO:raL 6 b P c r x y dr pk=raR 6 c r x y pk:=by kernel_rfl
theorem zPP {k:Nat}(h1:1<=k)(h6:k<=6):raL k b P c r x y dr pk=raR k c r x y pk:=by
 have:k=1\/k=2\/k=3\/k=4\/k=5\/k=6:=by omega
 rcases this with rfl | rfl | rfl | rfl | rfl | rfl
 ·exact zTM
 ·exact zSw
 ·exact zTv
 ·exact zTG
 ·exact zTS
 ·exact zSO
def rbL (k:Nat)(d:Bool)(b:Bool)(P:Params)(c r x y x2 y2 x3 y3:Nat->Int)(dr pk X0 Y0:Int):Option (List Prop×V×Sto):=zP (goS (cf b P) 18 ((zHj b P).drop 2) (zCj b P) (rwA k c r x y dr pk (tuF (7 - k) x3 y3))) [.val 1 (.tup (tuF (7 - k) x2 y2)) [],.ans 0 d,.val 3 (.tup [.int X0,.int Y0]) []]
def rbR (k:Nat)(d:Bool)(c r x y x2 y2 x3 y3:Nat->Int)(dr pk X0 Y0:Int):Option (List Prop×V×Sto):=some ([zJO (tuF (7 - k) x3 y3) (tuF (7 - k) x2 y2),decide (dr < 5)=d,zSl (tuF (7 - k) x2 y2) (Int.fmod (zLv d dr) (Int.ofNat (7 - k))) (.tup [.int X0,.int Y0])],kJ .next,rwE k c r x y dr (zLv d dr) Y0 (tuF (7 - k) x2 y2))
def zQ3:List Nat:=[0,1,2,3,4,5,6]
theorem zLd:∀a,a < 7->a∈zQ3:=by decide
def rbA (k:Nat)(d:Bool)(b:Bool)(P:Params)(c r x y x2 y2 x3 y3:Nat->Int)(dr pk X0:Int):List (Option (List Prop×V×Sto)):=zQ3.map fun z=>rbL k d b P c r x y x2 y2 x3 y3 dr pk X0 (Int.ofNat z)
def rbB (k:Nat)(d:Bool)(c r x y x2 y2 x3 y3:Nat->Int)(dr pk X0:Int):List (Option (List Prop×V×Sto)):=zQ3.map fun z=>rbR k d c r x y x2 y2 x3 y3 dr pk X0 (Int.ofNat z)
theorem zKa:rbA 1 true b P c r x y x2 y2 x3 y3 dr pk X0=rbB 1 true c r x y x2 y2 x3 y3 dr pk X0:=by kernel_rfl
theorem zIX:rbA 1 false b P c r x y x2 y2 x3 y3 dr pk X0=rbB 1 false c r x y x2 y2 x3 y3 dr pk X0:=by kernel_rfl
theorem zJ9:rbA 2 true b P c r x y x2 y2 x3 y3 dr pk X0=rbB 2 true c r x y x2 y2 x3 y3 dr pk X0:=by kernel_rfl
theorem zHX:rbA 2 false b P c r x y x2 y2 x3 y3 dr pk X0=rbB 2 false c r x y x2 y2 x3 y3 dr pk X0:=by kernel_rfl
theorem zKR:rbA 3 true b P c r x y x2 y2 x3 y3 dr pk X0=rbB 3 true c r x y x2 y2 x3 y3 dr pk X0:=by kernel_rfl
theorem zH0:rbA 3 false b P c r x y x2 y2 x3 y3 dr pk X0=rbB 3 false c r x y x2 y2 x3 y3 dr pk X0:=by kernel_rfl
theorem zJ4:rbA 4 true b P c r x y x2 y2 x3 y3 dr pk X0=rbB 4 true c r x y x2 y2 x3 y3 dr pk X0:=by kernel_rfl
theorem zIs:rbA 4 false b P c r x y x2 y2 x3 y3 dr pk X0=rbB 4 false c r x y x2 y2 x3 y3 dr pk X0:=by kernel_rfl
theorem zKm:rbA 5 true b P c r x y x2 y2 x3 y3 dr pk X0=rbB 5 true c r x y x2 y2 x3 y3 dr pk X0:=by kernel_rfl
theorem zH8:rbA 5 false b P c r x y x2 y2 x3 y3 dr pk X0=rbB 5 false c r x y x2 y2 x3 y3 dr pk X0:=by kernel_rfl
theorem zKf:rbA 6 true b P c r x y x2 y2 x3 y3 dr pk X0=rbB 6 true c r x y x2 y2 x3 y3 dr pk X0:=by kernel_rfl
theorem zIH:rbA 6 false b P c r x y x2 y2 x3 y3 dr pk X0=rbB 6 false c r x y x2 y2 x3 y3 dr pk X0:=by kernel_rfl
theorem zPQ {k:Nat}(h1:1<=k)(h6:k<=6){d:Bool}:rbA k d b P c r x y x2 y2 x3 y3 dr pk X0=rbB k d c r x y x2 y2 x3 y3 dr pk X0:=by
 have:k=1\/k=2\/k=3\/k=4\/k=5\/k=6:=by omega
 rcases this with rfl | rfl | rfl | rfl | rfl | rfl <;>cases d
 ·exact zIX
 ·exact zKa
 ·exact zHX
 ·exact zJ9
 ·exact zH0
 ·exact zKR
 ·exact zIs
 ·exact zJ4
 ·exact zH8
 ·exact zKm
 ·exact zIH
 ·exact zKf
theorem zTd:zKn.map (fun k=>gc 5 (rwE k c r x y dr pk Y0 (tuF (7 - k) x2 y2)))=zKn.map fun k=>zBw c (zLM dr 5 pk) (zCi k r ++ [.int Y0]) [.list (tuF (7 - k) x2 y2)]:=by kernel_rfl
theorem zS3:zKn.map (fun k=>zP (goQ (cf b P) 18 (whT (zKk b P)) (zCj b P) (rwF k c r x y dr pk)) [])=zKn.map fun k=>some ([],.bool true,rwF k c r x y dr pk):=by kernel_rfl
theorem zTe:(ev (cf b P) 18).t (whT (zKk b P)) (zCj b P) (rwF 7 c r x y dr pk)=some (false,rwF 7 c r x y dr pk):=zHL (ds:=[]) (ps:=[]) (by kernel_rfl) trivial
theorem zNr:zHj b P=(zHj b P).take 2 ++ (zHj b P).drop 2:=(List.take_append_drop 2 _).symm
theorem zI5 {rs:List Int}:∀(l:List Bool) (i:Nat),(∀j,j < l.length->niB rs (i + j)=l.getD j false)->zAJ (raP rs i l)
 | [],_,_=>trivial
 | q::l,i,h=>⟨h 0 (by simp),zI5 l (i + 1) fun j hj=>by
  have z:=h (j + 1) (by rw [List.length_cons]; omega);rw [show i + (j + 1)=i + 1 + j by omega] at z;exact z⟩
theorem zIf {l:List Nat}{k:Nat}(hk:l.length=k):rsF k (rr l)=l.map Int.ofNat:=by
 subst hk;apply List.ext_getElem?;intro i;rw [List.getElem?_map,List.getElem?_map]
 by_cases h:i < l.length
 ·rw [zR l.length 0 i h,List.getElem?_eq_getElem h]
  simp [rr,List.getD_eq_getElem?_getD,List.getElem?_eq_getElem h]
 ·rw [List.getElem?_eq_none (by rw [zH]; omega),List.getElem?_eq_none (by omega)]
  rfl
theorem zMF {l:List Nat}{k m:Nat}(hk:l.length=k):zCi k (rr l) ++ [.int (Int.ofNat m)]=zCi (k + 1) (rr (l ++ [m])):=by
 have e:∀(k:Nat) (f:Nat->Int),zCi k f=(rsF k f).map V.int:=fun k f=>by
  unfold zCi rsF;rw [List.map_map]; rfl
 rw [e,e,zIf hk,zIf (by rw [List.length_append,hk]; rfl),List.map_append,List.map_append];rfl
theorem zMp {k:Nat}(h1:1<=k):zBw c (zLM dr 5 pk) (zCi (k + 1) r) [.list (tuF (7 - k) x y)]=rwF (k + 1) c r x y dr pk:=by
 obtain ⟨m,rfl⟩:∃m,k=m + 1:=⟨k - 1,by omega⟩;show _=zBw c _ _ [.list (tuF (8 - (m + 1 + 1)) _ _)];rw [show 8 - (m + 1 + 1)=7 - (m + 1) by omega]
theorem zRR {k:Nat}(h1:1<=k)(h6:k<=6){l:List Nat}(hl:l∈rowsK k):∃(nl:List Nat) (dr2 pk2:Int) (x2 y2:Nat->Int) (σ₂:Sto),nl∈rowsK (k + 1)/\evs (ev (cf b P) 18) (zHj b P) (zCj b P) (rwF k c (rr l) x y dr pk)=some (.next,σ₂)/\gc 5 σ₂=rwF (k + 1) c (rr nl) x2 y2 dr2 pk2:=by
 have hlen:=(kY _ _ hl).1;have hfl:=zLH hl (by omega);have hcn:=zC2 l (zB 0 7);have hsf:=zBL l (zB 0 7);have hrs:=zIf hlen;have hq:((zB 0 7).map fun y=>!yE y l)∈raQ k:=by
  refine List.mem_filter.mpr ⟨zJe _,?_⟩;rw [hcn,Nat.beq_eq];exact hfl
 have hA:=zD (List.map_inj_left.mp (zPP (b:=b) (P:=P) (c:=c) (r:=rr l) (x:=x) (y:=y) (dr:=dr) (pk:=pk) h1 h6) _ hq) (zI5 _ 0 fun j hj=>by
  rw [List.length_map,zH] at hj;rw [hrs,zQZ,List.getD_eq_getElem?_getD,List.getElem?_map,zR 7 0 j hj];rfl)
 rw [hsf] at hA;have hsf:((zB 0 7).filter fun y=>!yE y l)=yA l:=rfl;rw [hsf] at hA;generalize hX:rsF k (rr l)=rs at hA;obtain ⟨q,hq1,hq2,hq3⟩:=zLh (n:=7 - k) (by omega) (by omega) (fun i=>xI ((yA l).getD i 0) rs) (fun i=>Int.ofNat ((yA l).getD i 0));generalize hd:Int.fmod (c (k + 1)) 8=dr1 at hA;obtain ⟨j,hj,hg⟩:=zNf (n:=7 - k) (by omega) (by omega) (fun i=>uS (fun i=>xI ((yA l).getD i 0) rs) (fun i=>Int.ofNat ((yA l).getD i 0)) (q.getD i 0)) (zLv (decide (dr1 < 5)) dr1);have hqj:q.getD j 0 < 7 - k:=hq2 _ (by rw [List.getD_eq_getElem?_getD,List.getElem?_eq_getElem (by omega)]; exact List.getElem_mem ..);have hmem:(yA l).getD (q.getD j 0) 0∈yA l:=by rw [List.getD_eq_getElem?_getD,List.getElem?_eq_getElem (by omega)]; exact List.getElem_mem ..
 have hm1:=zG9 (uS (fun i=>xI ((yA l).getD i 0) rs) (fun i=>Int.ofNat ((yA l).getD i 0))) q;have hm2:=zG9 (lfV rs) (yA l);rw [hq1] at hm1;rw [hfl] at hm2;rw [<-hm2] at hA;rw [<-hm1] at hq3;have hB:evs (ev (cf b P) 18) ((zHj b P).drop 2) (zCj b P) (rwA k c (rr l) x y dr1 pk (tuF (7 - k) (fun i=>xI ((yA l).getD i 0) rs) (fun i=>Int.ofNat ((yA l).getD i 0))))=some (.next,rwE k c (rr l) x y dr1 (zLv (decide (dr1 < 5)) dr1) (Int.ofNat ((yA l).getD (q.getD j 0) 0)) (tuF (7 - k) (fun i=>xI ((yA l).getD (q.getD i 0) 0) rs) (fun i=>Int.ofNat ((yA l).getD (q.getD i 0) 0)))):=by
  have hlt:(yA l).getD (q.getD j 0) 0 < 7:=by have:=(zL 7 0 _).mp (List.mem_filter.mp hmem).1; omega
  exact zD (f:= .next) (List.map_inj_left.mp (zPQ (b:=b) (P:=P) (c:=c) (r:=rr l) (x:=x) (y:=y) (x2:=fun i=>xI ((yA l).getD (q.getD i 0) 0) rs) (y2:=fun i=>Int.ofNat ((yA l).getD (q.getD i 0) 0)) (x3:=fun i=>xI ((yA l).getD i 0) rs) (y3:=fun i=>Int.ofNat ((yA l).getD i 0)) (dr:=dr1) (pk:=pk) (X0:=xI ((yA l).getD (q.getD j 0) 0) rs) h1 h6) _ (zLd _ hlt)) ⟨hq3,rfl,hg,trivial⟩
 have hG:=zGQ (zTd (c:=c) (r:=rr l) (x:=x) (y:=y) (dr:=dr1) (pk:=zLv (decide (dr1 < 5)) dr1) (Y0:=Int.ofNat ((yA l).getD (q.getD j 0) 0)) (x2:=fun i=>xI ((yA l).getD (q.getD i 0) 0) rs) (y2:=fun i=>Int.ofNat ((yA l).getD (q.getD i 0) 0))) h1 h6;rw [zMF hlen,zMp h1] at hG;exact ⟨_,_,_,_,_,_,List.mem_flatMap.mpr ⟨_,hl,List.mem_map.mpr ⟨_,hmem,rfl⟩⟩,(congrArg (fun z=>evs (ev (cf b P) 18) z (zCj b P) (rwF k c (rr l) x y dr pk)) zNr).trans ((zG hA).trans hB),hG⟩
theorem zFL {r:Rec}{t:Expr}{body:List Stmt}{ae:AE}{m fu:Nat}{σ σ₁ σ₂ σ₃:Sto}(h1:r.t t ae σ=some (true,σ₁))(h2:evs r body ae σ₁=some (.next,σ₂))(h3:gc m σ₂=σ₃):yF r t body ae m (fu + 1) σ=yF r t body ae m fu σ₃:=by
 conv=>lhs; unfold yF
 rw [h1];dsimp only;rw [h2];dsimp only;rw [h3]
theorem zGq {r:Rec}{t:Expr}{body:List Stmt}{ae:AE}{m fu:Nat}{σ σ₁:Sto}(h1:r.t t ae σ=some (false,σ₁)):yF r t body ae m (fu + 1) σ=some (.next,σ₁):=by
 conv=>lhs; unfold yF
 rw [h1]
abbrev zOR (b:Bool)(P:Params)(fu:Nat)(σ:Sto):=yF (ev (cf b P) 18) (whT (zKk b P)) (zHj b P) (zCj b P) 5 fu σ
theorem zMt:∀(n k:Nat) (l:List Nat) (fu:Nat) (dr pk:Int) (x y:Nat->Int),k + n=7->1<=k->l∈rowsK k->n < fu->∃(l7:List Nat) (dr7 pk7:Int) (x7 y7:Nat->Int),l7∈rowsK 7/\zOR b P fu (rwF k c (rr l) x y dr pk)=some (.next,rwF 7 c (rr l7) x7 y7 dr7 pk7)
 | 0,k,l,fu,dr,pk,x,y,hk,h1,hl,hf=>by
  obtain ⟨fu,rfl⟩:∃g,fu=g + 1:=⟨fu - 1,by omega⟩;have hk:k=7:=hk;subst hk;exact ⟨l,dr,pk,x,y,hl,zGq zTe⟩
 | n + 1,k,l,fu,dr,pk,x,y,hk,h1,hl,hf=>by
  obtain ⟨fu,rfl⟩:∃g,fu=g + 1:=⟨fu - 1,by omega⟩;obtain ⟨nl,dr2,pk2,x2,y2,σ₂,g1,g2,g3⟩:=zRR (b:=b) (P:=P) (c:=c) (x:=x) (y:=y) (dr:=dr) (pk:=pk) h1 (by omega) hl;obtain ⟨l7,dr7,pk7,x7,y7,e1,e2⟩:=zMt n (k + 1) nl fu dr2 pk2 x2 y2 (by omega) (by omega) g1 (by omega);exact ⟨l7,dr7,pk7,x7,y7,e1,(zFL (zHL (zGQ (zS3 (b:=b) (P:=P) (c:=c) (r:=rr l) (x:=x) (y:=y) (dr:=dr) (pk:=pk)) h1 (by omega)) trivial) g2 g3).trans e2⟩
abbrev rwO (c:Nat->Int):Sto:=[.ctab 332 false,.list (csL c),.ns [(S "cells",.trk 1)],.cell none]
theorem zMT:(ev (cf b P) 20).c (.val (.ref 309)) [.trk 1] [] [.ctab 332 false,.list (csL c)]=yR (ev (cf b P) 19) 2 (rwB b P) (zCj b P) (rwO c):=by kernel_rfl
theorem zQc:rwB b P=(rwB b P).take 1 ++ [zKk b P,(rwB b P).getD 2 default]:=by kernel_rfl
theorem zLV:evs (ev (cf b P) 19) ((rwB b P).take 1) (zCj b P) (rwO c)=some (.next,zBw c [] [.int (Int.fmod (c 1) 7)] []):=zD (ds:=[]) (ps:=[]) (by kernel_rfl) trivial
theorem zSH {i:Int}:(ev (cf b P) 19).x (zKk b P) (zCj b P) (zBw c [] [.int i] [])=zOR b P 1000 (zBw c [] [.int i] []):=by kernel_rfl
theorem zNE:evs (ev (cf b P) 19) [(rwB b P).getD 2 default] (zCj b P) (rwF 7 c r x y dr pk)=some (.ret (.trk 4),rwF 7 c r x y dr pk):=zD (ds:=[]) (ps:=[]) (by kernel_rfl) trivial
theorem zPX:gcv 2 (.trk 4) (rwF 7 c r x y dr pk)=(.trk 2,[.ctab 332 false,.list (csL c),.list [.int (r 0),.int (r 1),.int (r 2),.int (r 3),.int (r 4),.int (r 5),.int (r 6)]]):=by kernel_rfl
theorem zOF (c:Nat->Int):∃l7:List Nat,l7∈rowsK 7/\(ev (cf b P) 20).c (.val (.ref 309)) [.trk 1] [] [.ctab 332 false,.list (csL c)]=some (.trk 2,[.ctab 332 false,.list (csL c),.list [.int (rr l7 0),.int (rr l7 1),.int (rr l7 2),.int (rr l7 3),.int (rr l7 4),.int (rr l7 5),.int (rr l7 6)]]):=by
 have e:Int.fmod (c 1) 7=Int.emod (c 1) 7:=Int.fmod_eq_emod_of_nonneg _ (by decide);have b1:=Int.emod_nonneg (c 1) (show (7:Int)≠0 by decide);have b2:=Int.emod_lt_of_pos (c 1) (show (0:Int) < 7 by decide);obtain ⟨j,hj⟩:=Int.eq_ofNat_of_zero_le b1;have hj7:j < 7:=by
  have:(j:Int) < 7:=by rw [<-hj]; exact b2
  omega
 have hl:[j]∈rowsK 1:=by
  refine List.mem_flatMap.mpr ⟨[],List.mem_singleton.mpr rfl,List.mem_map.mpr ⟨j,List.mem_filter.mpr ⟨(zL 7 0 j).mpr (by omega),rfl⟩,rfl⟩⟩
 have hj0:Int.fmod (c 1) 7=rr [j] 0:=e.trans hj;obtain ⟨l7,dr7,pk7,x7,y7,g1,g2⟩:=zMt (b:=b) (P:=P) (c:=c) 6 1 [j] 1000 0 0 (fun _=>0) (fun _=>0) rfl (by decide) hl (by decide);refine ⟨l7,g1,?_⟩;rw [zMT];unfold yR;have g2:zOR b P 1000 (zBw c [] [.int (rr [j] 0)] [])=_:=g2;rw [zQc,zG zLV,hj0,zFu,zSH,g2];dsimp only;rw [zNE (r:=rr l7)];dsimp only;rw [zPX (r:=rr l7)]
end
end Mine
end
end
section
noncomputable section
namespace Mine
abbrev ulS (sz:Int)(sg nm:List V)(kv:List (Str×V))(cv:Option V)(hd kp:List V)(tl:Sto):Sto:= .ctab 332 true:: .list sg:: .list nm:: .ns ((S "signs",.trk 1)::(S "numbers",.trk 2)::(S "size",.int sz)::(S "rests",.trk 6)::(S "kept",.trk 8)::kv):: .cell cv:: .dict [(S "_headers",.trk 7)]:: .inst 184 5:: .list hd:: .list kp::tl
abbrev ulK (p:Int)(mk:Str):List (Str×V):=[(S "place",.int p),(S "mark",.str mk),(S "due",.trk 9)]
def aF (c:Nat):Bool:=zAo ⟨#[c]⟩
def eLo (x y:Nat):Bool:=[loF x]==[loF y]
def rN (x:Str):Bool:=zAO #[14,10,4,1,1,22,0,31,16,127,0,13,7,22,0,31,16,127,0,1] && zGg #[14,10,4,1,1,22,0,31,16,127,0,13,7,22,0,31,16,127,0,1] x.cps.toList && decide (x.cps.size < 2 ^ 62)
def rV (x:Str):Bool:=zAO #[14,14,4,1,1,9,4294966783,0,0,2147483648,0,0,0,0,0,13,11,9,4294966783,0,0,2147483648,0,0,0,0,0,1] && zGg #[14,14,4,1,1,9,4294966783,0,0,2147483648,0,0,0,0,0,13,11,9,4294966783,0,0,2147483648,0,0,0,0,0,1] x.cps.toList && decide (x.cps.size < 2 ^ 62)
def neS (x:Str):Bool:=!(x.cps.toList==x.cps.toList)
theorem zNX (x:Str):neS x=false:=by simp [neS]
def tpV (e:Nat)(a:Str):V:= .tup [.str ⟨#[e]⟩,.str a]
abbrev ulX (b:Bool)(P:Params)(l:List Stmt)(σ:Sto):=evs (ev (cf b P) 18) l (zD2 b P) σ
section
variable {b:Bool} {P:Params} {g a:Nat->Str} {n:Nat->Int} {ch:Nat} {e:Nat->Nat} {mk u0 u1:Str} {sz pl nv:Int} {sg nm hd kp:List V} {tl:Sto} {cv:Option V}
def pCh (b:Bool)(P:Params)(x:Int)(ch:Nat)(σ:Sto):Prop:=zA (cf b P) "chr" [.int x] σ=some (.str ⟨#[ch]⟩,σ)
def pNm (l:List V)(i:Int)(v:V):Prop:=(wH (.tup l) (.int i) []).map (fun v=>(v,([]:Sto)))=some (v,[])
def zEb (q:Bool)(ch:Nat):Nat:=match q with
 | true=>upF ch
 | false=>ch
theorem zRi {q:Bool}(h1:pNm nm pl (.int nv))(h2:(!(sz==0))=true)(h3:pCh b P (97 + Int.fmod nv sz) ch (ulS sz sg nm [(S "place",.int pl)] cv hd kp tl))(h4:(!(sz==0 || Builtin.divisionGoesByPylong nv sz))=true)(h5:(Int.fmod (Int.fdiv nv sz) 2 !=0)=q)(h6:aF ch=true):ulX b P ((zAR b P).take 2) (ulS sz sg nm [(S "place",.int pl)] cv hd kp tl)=some (.next,ulS sz sg nm [(S "place",.int pl)] (some (.str ⟨#[zEb q ch]⟩)) hd kp tl):=by
 cases q
 ·exact zD (ds:=[.val 0 (.int nv) [],.ans 0 true,.val 1 (.str ⟨#[ch]⟩) (ulS sz sg nm [(S "place",.int pl)] cv hd kp tl),.val 0 (.int nv) [],.ans 0 true,.ans 1 false]) (ps:=[pNm nm pl (.int nv),(!(sz==0))=true,pCh b P (97 + Int.fmod nv sz) ch (ulS sz sg nm [(S "place",.int pl)] cv hd kp tl),pNm nm pl (.int nv),(!(sz==0 || Builtin.divisionGoesByPylong nv sz))=true,(Int.fmod (Int.fdiv nv sz) 2 !=0)=false]) (by kernel_rfl) ⟨h1,h2,h3,h1,h4,h5,trivial⟩
 ·exact zD (ds:=[.val 0 (.int nv) [],.ans 0 true,.val 1 (.str ⟨#[ch]⟩) (ulS sz sg nm [(S "place",.int pl)] cv hd kp tl),.val 0 (.int nv) [],.ans 0 true,.ans 1 true,.ans 0 true]) (ps:=[pNm nm pl (.int nv),(!(sz==0))=true,pCh b P (97 + Int.fmod nv sz) ch (ulS sz sg nm [(S "place",.int pl)] cv hd kp tl),pNm nm pl (.int nv),(!(sz==0 || Builtin.divisionGoesByPylong nv sz))=true,(Int.fmod (Int.fdiv nv sz) 2 !=0)=true,aF ch=true]) (by kernel_rfl) ⟨h1,h2,h3,h1,h4,h5,h6,trivial⟩
theorem zQ9 {q:Bool}(h1:pNm nm pl (.int nv))(h2:(!(sz==0))=true)(h3:pCh b P (97 + Int.fmod nv sz) ch (ulS sz sg nm (ulK pl mk) cv hd kp tl))(h4:(!(sz==0 || Builtin.divisionGoesByPylong nv sz))=true)(h5:(Int.fmod (Int.fdiv nv sz) 2 !=0)=q)(h6:aF ch=true):ulX b P ((zAR b P).take 2) (ulS sz sg nm (ulK pl mk) cv hd kp tl)=some (.next,ulS sz sg nm (ulK pl mk) (some (.str ⟨#[zEb q ch]⟩)) hd kp tl):=by
 cases q
 ·exact zD (ds:=[.val 0 (.int nv) [],.ans 0 true,.val 1 (.str ⟨#[ch]⟩) (ulS sz sg nm (ulK pl mk) cv hd kp tl),.val 0 (.int nv) [],.ans 0 true,.ans 1 false]) (ps:=[pNm nm pl (.int nv),(!(sz==0))=true,pCh b P (97 + Int.fmod nv sz) ch (ulS sz sg nm (ulK pl mk) cv hd kp tl),pNm nm pl (.int nv),(!(sz==0 || Builtin.divisionGoesByPylong nv sz))=true,(Int.fmod (Int.fdiv nv sz) 2 !=0)=false]) (by kernel_rfl) ⟨h1,h2,h3,h1,h4,h5,trivial⟩
 ·exact zD (ds:=[.val 0 (.int nv) [],.ans 0 true,.val 1 (.str ⟨#[ch]⟩) (ulS sz sg nm (ulK pl mk) cv hd kp tl),.val 0 (.int nv) [],.ans 0 true,.ans 1 true,.ans 0 true]) (ps:=[pNm nm pl (.int nv),(!(sz==0))=true,pCh b P (97 + Int.fmod nv sz) ch (ulS sz sg nm (ulK pl mk) cv hd kp tl),pNm nm pl (.int nv),(!(sz==0 || Builtin.divisionGoesByPylong nv sz))=true,(Int.fmod (Int.fdiv nv sz) 2 !=0)=true,aF ch=true]) (by kernel_rfl) ⟨h1,h2,h3,h1,h4,h5,h6,trivial⟩
theorem zRT:ulX b P (((zAR b P).drop 2).take 1) (ulS sz sg nm [(S "place",.int 0)] cv hd kp tl)=some (.next,ulS sz sg nm [(S "place",.int 0),(S "mark",.str (S ""))] cv hd kp tl):=zD (ds:=[]) (ps:=[]) (by kernel_rfl) trivial
theorem zR5 {m0:Str}(h0:(pl !=0)=true)(h1:pNm sg pl (.str mk)):ulX b P (((zAR b P).drop 2).take 1) (ulS sz sg nm (ulK pl m0) cv hd kp tl)=some (.next,ulS sz sg nm (ulK pl mk) cv hd kp tl):=zD (ds:=[.ans 0 true,.val 0 (.str mk) []]) (ps:=[(pl !=0)=true,pNm sg pl (.str mk)]) (by kernel_rfl) ⟨h0,h1,trivial⟩
end
def tpl (k:Nat)(e:Nat->Nat)(a:Nat->Str):List V:=(zB 0 k).map fun i=>tpV (e i) (a i)
def e2 (k:Nat)(e:Nat->Nat)(ch:Nat)(i:Nat):Nat:=match Nat.beq i k with | true=>ch | false=>e i
def a2 (k:Nat)(a:Nat->Str)(mk:Str)(i:Nat):Str:=match Nat.beq i k with | true=>mk | false=>a i
abbrev sgF (s:Nat)(g:Nat->Str):List V:=(zB 0 s).map fun i=> .str (g i)
abbrev nmF (s:Nat)(n:Nat->Int):List V:=(zB 0 s).map fun i=> .int (n i)
def duF (d:Nat)(x y:Str):List V:=match d with | 1=>[.str x] | _=>[.str x,.str y]
def tlF (k:Nat)(du:List V):Sto:=match k with | 0=>[] | _=>[.list du]
def kvF (k:Nat)(pl:Int)(mk:Str):List (Str×V):=match k with | 0=>[(S "place",.int pl),(S "mark",.str mk)] | _=>ulK pl mk
def kkF (k j:Nat):Nat:=match Nat.beq j k with | true=>k + 1 | false=>k
def usD (k j:Nat):List Dec:=(zB 0 k).flatMap (fun i=>[.ans (match i with | 0=>0 | m + 1=>match Nat.beq m j with | true=>2 | false=>1) true,.ans 0 true,.ans 0 (Nat.beq i j)]) ++
 (.ans (match k with | 0=>2 | m + 1=>match Nat.beq m j with | true=>4 | false=>3) true:: .ans 2 true::((zB 0 (match Nat.beq j k with | true=>k | false=>j + 1)).flatMap (fun i=>[.ans (match i with | 0=>1 | _=>0) true,.ans 0 (Nat.beq i j)]) ++
 (match Nat.beq j k with | true=>[.ans (match k with | 0=>4 | _=>3) true,.ans 3 true,.ans 4 false] | false=>[.ans 2 false])))
def usP (k j:Nat)(e:Nat->Nat)(a:Nat->Str)(ch:Nat)(mk:Str):List Prop:=(zB 0 k).flatMap (fun i=>[aF (e i)=true,aF ch=true,eLo (e i) ch=Nat.beq i j]) ++
 ((aF ch=true)::(rN ⟨#[loF ch]⟩=true)::((zB 0 (match Nat.beq j k with | true=>k | false=>j + 1)).flatMap (fun i=>[aF (e i)=true,eLo (e i) ch=Nat.beq i j]) ++
 (match Nat.beq j k with | true=>[rN ⟨#[ch]⟩=true,rV mk=true,neS mk=false] | false=>[neS (a j)=false])))
section
variable {b:Bool} {P:Params} {g a:Nat->Str} {n:Nat->Int} {ch:Nat} {e:Nat->Nat} {mk x y:Str} {sz pl:Int}
def uJD (k:Nat):List (Nat×Nat):=([0,1,2,3,4,5,6].take (k + 1)).flatMap fun j=>[(j,1),(j,2)]
theorem zNw:∀k,k < 7->∀j,j < k + 1->(j,1)∈uJD k/\(j,2)∈uJD k:=by decide +kernel
def usS (s k d:Nat)(g a:Nat->Str)(n:Nat->Int)(ch:Nat)(e:Nat->Nat)(mk x y:Str)(sz pl:Int):Sto:=ulS sz (sgF s g) (nmF s n) (kvF k pl mk) (some (.str ⟨#[ch]⟩)) (tpl k e a) (tpl k e a) (tlF k (duF d x y))
def usE (s k j d:Nat)(g a:Nat->Str)(n:Nat->Int)(ch:Nat)(e:Nat->Nat)(mk x y:Str)(sz pl:Int):Sto:=ulS sz (sgF s g) (nmF s n) [(S "place",.int pl),(S "mark",.str mk),(S "due",.trk (match k with | 0=>11 | _=>12))] (some (.str ⟨#[ch]⟩)) (tpl (kkF k j) (e2 k e ch) (a2 k a mk)) (tpl (kkF k j) (e2 k e ch) (a2 k a mk))
 (tlF k (duF d x y) ++ (match Nat.beq j k with | true=>[.list [],.list [.str mk],.list [.str mk]] | false=>[.list [.str (a j)],.list [.str mk],.list [.str (a j),.str mk]]))
def usG (s k j d:Nat)(g a:Nat->Str)(n:Nat->Int)(ch:Nat)(e:Nat->Nat)(mk x y:Str)(sz pl:Int):Sto:=ulS sz (sgF s g) (nmF s n) (ulK pl mk) (some (.str ⟨#[ch]⟩)) (tpl (kkF k j) (e2 k e ch) (a2 k a mk)) (tpl (kkF k j) (e2 k e ch) (a2 k a mk)) [.list (match Nat.beq j k with | true=>[.str mk] | false=>[.str (a j),.str mk])]
def usL (s k:Nat)(b:Bool)(P:Params)(g a:Nat->Str)(n:Nat->Int)(ch:Nat)(e:Nat->Nat)(mk x y:Str)(sz pl:Int):List (Option (List Prop×V×Sto)×Sto):=(uJD k).map fun q=>(zP (goS (cf b P) 18 ((zAR b P).drop 3) (zD2 b P) (usS s k q.2 g a n ch e mk x y sz pl)) (usD k q.1),gc 9 (usE s k q.1 q.2 g a n ch e mk x y sz pl))
def usR (s k:Nat)(g a:Nat->Str)(n:Nat->Int)(ch:Nat)(e:Nat->Nat)(mk x y:Str)(sz pl:Int):List (Option (List Prop×V×Sto)×Sto):=(uJD k).map fun q=>(some (usP k q.1 e a ch mk,kJ .next,usE s k q.1 q.2 g a n ch e mk x y sz pl),usG s k q.1 q.2 g a n ch e mk x y sz pl)
def US (s k:Nat)(b:Bool)(P:Params)(g a:Nat->Str)(n:Nat->Int)(ch:Nat)(e:Nat->Nat)(mk x y:Str)(sz pl:Int):Prop:=usL s k b P g a n ch e mk x y sz pl=usR s k g a n ch e mk x y sz pl
theorem zPN:usL 1 0 b P g a n ch e mk x y sz pl=usR 1 0 g a n ch e mk x y sz pl:=by kernel_rfl
theorem zQC:usL 2 0 b P g a n ch e mk x y sz pl=usR 2 0 g a n ch e mk x y sz pl:=by kernel_rfl
theorem zPt:usL 2 1 b P g a n ch e mk x y sz pl=usR 2 1 g a n ch e mk x y sz pl:=by kernel_rfl
theorem zQp:usL 3 0 b P g a n ch e mk x y sz pl=usR 3 0 g a n ch e mk x y sz pl:=by kernel_rfl
theorem zQy:usL 3 1 b P g a n ch e mk x y sz pl=usR 3 1 g a n ch e mk x y sz pl:=by kernel_rfl
theorem zOY:usL 3 2 b P g a n ch e mk x y sz pl=usR 3 2 g a n ch e mk x y sz pl:=by kernel_rfl
theorem zPM:usL 4 0 b P g a n ch e mk x y sz pl=usR 4 0 g a n ch e mk x y sz pl:=by kernel_rfl
theorem zOp:usL 4 1 b P g a n ch e mk x y sz pl=usR 4 1 g a n ch e mk x y sz pl:=by kernel_rfl
theorem zN5:usL 4 2 b P g a n ch e mk x y sz pl=usR 4 2 g a n ch e mk x y sz pl:=by kernel_rfl
theorem zQs:usL 4 3 b P g a n ch e mk x y sz pl=usR 4 3 g a n ch e mk x y sz pl:=by kernel_rfl
theorem zPG:usL 5 0 b P g a n ch e mk x y sz pl=usR 5 0 g a n ch e mk x y sz pl:=by kernel_rfl
theorem zN1:usL 5 1 b P g a n ch e mk x y sz pl=usR 5 1 g a n ch e mk x y sz pl:=by kernel_rfl
theorem zPs:usL 5 2 b P g a n ch e mk x y sz pl=usR 5 2 g a n ch e mk x y sz pl:=by kernel_rfl
theorem zQa:usL 5 3 b P g a n ch e mk x y sz pl=usR 5 3 g a n ch e mk x y sz pl:=by kernel_rfl
theorem zOT:usL 5 4 b P g a n ch e mk x y sz pl=usR 5 4 g a n ch e mk x y sz pl:=by kernel_rfl
theorem zOZ:usL 6 0 b P g a n ch e mk x y sz pl=usR 6 0 g a n ch e mk x y sz pl:=by kernel_rfl
theorem zPv:usL 6 1 b P g a n ch e mk x y sz pl=usR 6 1 g a n ch e mk x y sz pl:=by kernel_rfl
theorem zOh:usL 6 2 b P g a n ch e mk x y sz pl=usR 6 2 g a n ch e mk x y sz pl:=by kernel_rfl
theorem zPk:usL 6 3 b P g a n ch e mk x y sz pl=usR 6 3 g a n ch e mk x y sz pl:=by kernel_rfl
theorem zP0:usL 6 4 b P g a n ch e mk x y sz pl=usR 6 4 g a n ch e mk x y sz pl:=by kernel_rfl
theorem zQQ:usL 6 5 b P g a n ch e mk x y sz pl=usR 6 5 g a n ch e mk x y sz pl:=by kernel_rfl
theorem zPm:usL 7 0 b P g a n ch e mk x y sz pl=usR 7 0 g a n ch e mk x y sz pl:=by kernel_rfl
theorem zOw:usL 7 1 b P g a n ch e mk x y sz pl=usR 7 1 g a n ch e mk x y sz pl:=by kernel_rfl
theorem zOt:usL 7 2 b P g a n ch e mk x y sz pl=usR 7 2 g a n ch e mk x y sz pl:=by kernel_rfl
theorem zP3:usL 7 3 b P g a n ch e mk x y sz pl=usR 7 3 g a n ch e mk x y sz pl:=by kernel_rfl
theorem zOV:usL 7 4 b P g a n ch e mk x y sz pl=usR 7 4 g a n ch e mk x y sz pl:=by kernel_rfl
theorem zQo:usL 7 5 b P g a n ch e mk x y sz pl=usR 7 5 g a n ch e mk x y sz pl:=by kernel_rfl
theorem zQH:usL 7 6 b P g a n ch e mk x y sz pl=usR 7 6 g a n ch e mk x y sz pl:=by kernel_rfl
theorem zPE {s k:Nat}(hs:s<=7)(hk:k < s):usL s k b P g a n ch e mk x y sz pl=usR s k g a n ch e mk x y sz pl:=by
 have:s=1\/s=2\/s=3\/s=4\/s=5\/s=6\/s=7:=by omega
 rcases this with rfl | rfl | rfl | rfl | rfl | rfl | rfl
 ·obtain rfl:k=0:=by omega
  exact zPN
 ·have:k=0\/k=1:=by omega
  rcases this with rfl | rfl
  ·exact zQC
  ·exact zPt
 ·have:k=0\/k=1\/k=2:=by omega
  rcases this with rfl | rfl | rfl
  ·exact zQp
  ·exact zQy
  ·exact zOY
 ·have:k=0\/k=1\/k=2\/k=3:=by omega
  rcases this with rfl | rfl | rfl | rfl
  ·exact zPM
  ·exact zOp
  ·exact zN5
  ·exact zQs
 ·have:k=0\/k=1\/k=2\/k=3\/k=4:=by omega
  rcases this with rfl | rfl | rfl | rfl | rfl
  ·exact zPG
  ·exact zN1
  ·exact zPs
  ·exact zQa
  ·exact zOT
 ·have:k=0\/k=1\/k=2\/k=3\/k=4\/k=5:=by omega
  rcases this with rfl | rfl | rfl | rfl | rfl | rfl
  ·exact zOZ
  ·exact zPv
  ·exact zOh
  ·exact zPk
  ·exact zP0
  ·exact zQQ
 ·have:k=0\/k=1\/k=2\/k=3\/k=4\/k=5\/k=6:=by omega
  rcases this with rfl | rfl | rfl | rfl | rfl | rfl | rfl
  ·exact zPm
  ·exact zOw
  ·exact zOt
  ·exact zP3
  ·exact zOV
  ·exact zQo
  ·exact zQH
theorem zBo:∀{l m:List Prop},zAJ l->zAJ m->zAJ (l ++ m)
 | [],_,_,h=>h
 | _::_,_,h,h2=>⟨h.1,zBo h.2 h2⟩
theorem zBy {f:Nat->List Prop}:∀{l:List Nat},(∀i∈l,zAJ (f i))->zAJ (l.flatMap f)
 | [],_=>trivial
 | i::l,h=>by
  rw [List.flatMap_cons];exact zBo (h i (List.mem_cons_self ..)) (zBy fun j hj=>h j (List.mem_cons_of_mem _ hj))
theorem kW (i j:Nat):Nat.beq i j=decide (i=j):=by
 rw [Bool.eq_iff_iff,Nat.beq_eq,decide_eq_true_eq]
def mt (e:Nat->Nat)(ch k:Nat):Bool:=(zB 0 k).any fun i=>eLo (e i) ch
inductive Due:List V->Prop
 | one (x:Str):Due [.str x]
 | two (x y:Str):Due [.str x,.str y]
theorem zCx (x y:Nat):eLo x y=true ↔ loF x=loF y:=by simp [eLo]
theorem zQY {x y:Nat}(h:loF x≠loF y):eLo x y=false:=by
 cases hb:eLo x y with
 | false=>rfl
 | true=>exact absurd ((zCx x y).mp hb) h
theorem zR6 {s k j d:Nat}(hs:s<=7)(hk:k < s)(hj:j<=k)(hd:d=1\/d=2)(ha:∀i,i < k->aF (e i)=true)(hm:∀i,i < k->eLo (e i) ch=Nat.beq i j)(hc:aF ch=true)(hl:rN ⟨#[loF ch]⟩=true)(hn:rN ⟨#[ch]⟩=true)(hv:rV mk=true):
  ulX b P ((zAR b P).drop 3) (usS s k d g a n ch e mk x y sz pl)=some (.next,usE s k j d g a n ch e mk x y sz pl)/\gc 9 (usE s k j d g a n ch e mk x y sz pl)=usG s k j d g a n ch e mk x y sz pl:=by
 have hq:(j,d)∈uJD k:=by
  have z:=zNw k (by omega) j (by omega);rcases hd with rfl | rfl
  ·exact z.1
  ·exact z.2
 have z:=List.map_inj_left.mp (zPE (b:=b) (P:=P) (g:=g) (a:=a) (n:=n) (ch:=ch) (e:=e) (mk:=mk) (x:=x) (y:=y) (sz:=sz) (pl:=pl) hs hk) _ hq;refine ⟨zD (congrArg Prod.fst z) ?_,congrArg Prod.snd z⟩;unfold usP;refine zBo (zBy fun i hi=>?_) ⟨hc,hl,zBo (zBy fun i hi=>?_) ?_⟩
 ·have:=(zL _ _ _).mp hi
  exact ⟨ha i (by omega),hc,hm i (by omega),trivial⟩
 ·have:=(zL _ _ _).mp hi
  have:i < k:=by
   rw [kW] at this
   by_cases q:j=k
   ·rw [decide_eq_true q] at this; dsimp only at this; omega
   ·rw [decide_eq_false q] at this; dsimp only at this; omega
  exact ⟨ha i this,hm i this,trivial⟩
 ·cases Nat.beq j k
  ·exact ⟨zNX _,trivial⟩
  ·exact ⟨hn,hv,zNX _,trivial⟩
theorem zMd (k:Nat)(e:Nat->Nat)(a:Nat->Str)(ch:Nat)(mk:Str):tpl k (e2 k e ch) (a2 k a mk)=tpl k e a:=by
 unfold tpl;refine List.map_inj_left.mpr fun i hi=>?_;have:=(zL _ _ _).mp hi;unfold e2 a2;rw [kW,decide_eq_false (by omega)]
theorem zMx {s k:Nat}{du:List V}(hs:s<=7)(hk:k < s)(hdu:Due du)(ha:∀i,i < k->aF (e i)=true)(hd:∀i j,i < k->j < k->i≠j->loF (e i)≠loF (e j))(hc:aF ch=true)(hl:rN ⟨#[loF ch]⟩=true)(hn:rN ⟨#[ch]⟩=true)(hv:rV mk=true):
  ∃σ₂ du2,ulX b P ((zAR b P).drop 3) (ulS sz (sgF s g) (nmF s n) (kvF k pl mk) (some (.str ⟨#[ch]⟩)) (tpl k e a) (tpl k e a) (tlF k du))=some (.next,σ₂)/\Due du2/\(mt e ch k=true->gc 9 σ₂=ulS sz (sgF s g) (nmF s n) (ulK pl mk) (some (.str ⟨#[ch]⟩)) (tpl k e a) (tpl k e a) [.list du2])/\
   (mt e ch k=false->gc 9 σ₂=ulS sz (sgF s g) (nmF s n) (ulK pl mk) (some (.str ⟨#[ch]⟩)) (tpl (k + 1) (e2 k e ch) (a2 k a mk)) (tpl (k + 1) (e2 k e ch) (a2 k a mk)) [.list du2]):=by
 obtain ⟨d,x,y,hd12,rfl⟩:∃d x y,(d=1\/d=2)/\du=duF d x y:=by
  cases hdu with
  | one x=>exact ⟨1,x,x,.inl rfl,rfl⟩
  | two x y=>exact ⟨2,x,y,.inr rfl,rfl⟩
 cases hm:mt e ch k with
 | true=>
  obtain ⟨j,hj,hl2⟩:=List.any_eq_true.mp hm;have hj:=(zL _ _ _).mp hj;have hjk:Nat.beq j k=false:=by rw [kW]; exact decide_eq_false (by omega)
  obtain ⟨q1,q2⟩:=zR6 (b:=b) (P:=P) (g:=g) (a:=a) (n:=n) (x:=x) (y:=y) (sz:=sz) (pl:=pl) hs hk (j:=j) (by omega) hd12 ha (fun i hi=>by
   rw [kW]
   by_cases q:i=j
   ·subst q; rw [hl2]; simp
   ·rw [decide_eq_false q]
    exact zQY fun z=>hd i j hi (by omega) q (z.trans ((zCx _ _).mp hl2).symm)) hc hl hn hv
  refine ⟨_,_,q1,.two (a j) mk,fun _=>q2.trans ?_,(fun q=>by cases q)⟩;unfold usG kkF;rw [hjk];dsimp only;rw [zMd]
 | false=>
  have hkk:Nat.beq k k=true:=by rw [kW]; simp
  obtain ⟨q1,q2⟩:=zR6 (b:=b) (P:=P) (g:=g) (a:=a) (n:=n) (x:=x) (y:=y) (sz:=sz) (pl:=pl) hs hk (j:=k) (Nat.le_refl _) hd12 ha (fun i hi=>by
   rw [kW,decide_eq_false (by omega)];cases q:eLo (e i) ch with
   | false=>rfl
   | true=>
    have:mt e ch k=true:=List.any_eq_true.mpr ⟨i,(zL _ _ _).mpr (by omega),q⟩;rw [hm] at this; cases this) hc hl hn hv
  refine ⟨_,_,q1,.one mk,(fun q=>by cases q),fun _=>q2.trans ?_⟩;unfold usG kkF;rw [hkk]
structure UlIn (g:Nat->Str) (n:Nat->Int) (nn:Nat->Nat):Prop where
 num:∀i,n i=Int.ofNat (nn i)
 rv:∀i,rV (g i)=true
 ok:∀i,PyData.strOk (g i)=true
theorem zOG:∀r,r < 7->∀q:Bool,aF (zEb q (97 + r))=true/\rN ⟨#[loF (zEb q (97 + r))]⟩=true/\rN ⟨#[zEb q (97 + r)]⟩=true/\loF (zEb q (97 + r))=97 + r/\aF (97 + r)=true:=by decide +kernel
theorem zL7 {r:Nat}(hr:r < 7){x:Int}(hx:x=Int.ofNat (97 + r))(σ:Sto):pCh b P x (97 + r) σ:=by
 subst hx;have:r=0\/r=1\/r=2\/r=3\/r=4\/r=5\/r=6:=by omega
 rcases this with rfl | rfl | rfl | rfl | rfl | rfl | rfl <;>(unfold pCh; kernel_rfl)
theorem zJf:PyData.strOk (S "")=true:=by decide +kernel
theorem zSq:rV (S "")=true:=by decide +kernel
theorem zRv (m s:Nat)(hs:0 < s):(97:Int) + Int.fmod (Int.ofNat m) (Int.ofNat s)=Int.ofNat (97 + m % s):=by
 rw [Int.fmod_eq_emod_of_nonneg _ (by simp)];rfl
structure Kept (nn:Nat->Nat) (s p k:Nat) (e:Nat->Nat) (a:Nat->Str):Prop where
 le:k<=p
 pos:0 < p->0 < k
 af:∀i,i < k->aF (e i)=true
 ok:∀i,i < k->PyData.strOk (a i)=true
 dis:∀i j,i < k->j < k->i≠j->loF (e i)≠loF (e j)
 all:∀i,i < p->∃j,j < k/\loF (e j)=97 + nn i % s
 from':∀j,j < k->∃i,i < p/\loF (e j)=97 + nn i % s
 inj:k=p ↔ ∀i j,i < p->j < p->nn i % s=nn j % s->i=j
theorem zMv {e:Nat->Nat}{ch k:Nat}:mt e ch k=true ↔ ∃j,j < k/\loF (e j)=loF ch:=by
 unfold mt;rw [List.any_eq_true];constructor
 ·rintro ⟨j,hj,h⟩
  have:=(zL k 0 j).mp hj;exact ⟨j,by omega,(zCx _ _).mp h⟩
 ·rintro ⟨j,hj,h⟩
  exact ⟨j,(zL k 0 j).mpr (by omega),(zCx _ _).mpr h⟩
theorem Kept.same {nn:Nat->Nat}{s p k:Nat}{e:Nat->Nat}{a:Nat->Str}{ch:Nat}(K:Kept nn s p k e a)(hch:loF ch=97 + nn p % s)(h:mt e ch k=true):Kept nn s (p + 1) k e a:=by
 obtain ⟨j,hj,hl⟩:=zMv.mp h;rw [hch] at hl;obtain ⟨i0,hi0,hl0⟩:=K.from' j hj;refine ⟨by have:=K.le; omega,fun _=>by omega,K.af,K.ok,K.dis,fun i hi=>?_,fun j hj=>?_,⟨fun q=>by have:=K.le; omega,fun q=>?_⟩⟩
 ·by_cases z:i < p
  ·exact K.all i z
  ·obtain rfl:i=p:=by omega
   exact ⟨j,hj,hl⟩
 ·obtain ⟨i,hi,h⟩:=K.from' j hj
  exact ⟨i,by omega,h⟩
 ·have:=q i0 p (by omega) (by omega) (by omega)
  omega
theorem Kept.more {nn:Nat->Nat}{s p k:Nat}{e:Nat->Nat}{a:Nat->Str}{ch:Nat}{mk:Str}(K:Kept nn s p k e a)(hch:loF ch=97 + nn p % s)(h:mt e ch k=false)(hc:aF ch=true)(hm:PyData.strOk mk=true):Kept nn s (p + 1) (k + 1) (e2 k e ch) (a2 k a mk):=by
 have hno:∀j,j < k->loF (e j)≠97 + nn p % s:=fun j hj q=>by
  have:=zMv.mpr ⟨j,hj,q.trans hch.symm⟩;rw [h] at this; cases this
 have ek:e2 k e ch k=ch:=by unfold e2; rw [kW]; simp
 have ei:∀i,i < k->e2 k e ch i=e i:=fun i hi=>by unfold e2; rw [kW,decide_eq_false (by omega)]
 have ak:a2 k a mk k=mk:=by unfold a2; rw [kW]; simp
 have ai:∀i,i < k->a2 k a mk i=a i:=fun i hi=>by unfold a2; rw [kW,decide_eq_false (by omega)]
 refine ⟨by have:=K.le; omega,fun _=>by omega,fun i hi=>?_,fun i hi=>?_,fun i j hi hj hne=>?_,fun i hi=>?_,fun j hj=>?_,⟨fun q=>?_,fun q=>?_⟩⟩
 ·by_cases z:i=k
  ·subst z; rw [ek]; exact hc
  ·rw [ei i (by omega)]; exact K.af i (by omega)
 ·by_cases z:i=k
  ·subst z; rw [ak]; exact hm
  ·rw [ai i (by omega)]; exact K.ok i (by omega)
 ·by_cases z:i=k
  ·subst z
   rw [ek,ei j (by omega),hch];exact fun q=>hno j (by omega) q.symm
  ·by_cases z2:j=k
   ·subst z2
    rw [ek,ei i (by omega),hch];exact hno i (by omega)
   ·rw [ei i (by omega),ei j (by omega)]
    exact K.dis i j (by omega) (by omega) hne
 ·by_cases z:i < p
  ·obtain ⟨j,hj,q⟩:=K.all i z
   exact ⟨j,by omega,by rw [ei j hj]; exact q⟩
  ·obtain rfl:i=p:=by omega
   exact ⟨k,by omega,by rw [ek,hch]⟩
 ·by_cases z:j=k
  ·subst z; exact ⟨p,by omega,by rw [ek,hch]⟩
  ·obtain ⟨i,hi,q⟩:=K.from' j (by omega)
   exact ⟨i,by omega,by rw [ei j (by omega)]; exact q⟩
 ·have hinj:=K.inj.mp (by omega)
  intro i j hi hj hq
  by_cases z:i < p
  ·by_cases z2:j < p
   ·exact hinj i j z z2 hq
   ·obtain rfl:j=p:=by omega
    obtain ⟨t,ht,hl⟩:=K.all i z;exact absurd (by rw [hl,hq]) (hno t ht)
  ·obtain rfl:i=p:=by omega
   by_cases z2:j < i
   ·obtain ⟨t,ht,hl⟩:=K.all j z2
    exact absurd (by rw [hl,<-hq]) (hno t ht)
   ·omega
 ·have:k=p:=K.inj.mpr fun i j hi hj hq=>q i j (by omega) (by omega) hq
  omega
def ulP (g:Nat->Str)(n:Nat->Int)(nn:Nat->Nat)(s:Nat)(sg nm:List V):Nat->Sto->Prop
 | 0,σ=>σ=ulS (Int.ofNat s) sg nm [] none [] [] []
 | p + 1,σ=>∃k e a mk c du,Kept nn s (p + 1) k e a/\Due du/\σ=ulS (Int.ofNat s) sg nm (ulK (Int.ofNat p) mk) (some (.str ⟨#[c]⟩)) (tpl k e a) (tpl k e a) [.list du]
theorem zJn:zAR b P=(zAR b P).take 2 ++ (((zAR b P).drop 2).take 1 ++ (zAR b P).drop 3):=by kernel_rfl
abbrev zTL (b:Bool)(P:Params)(s p:Nat)(σ:Sto):=kK (ev (cf b P) 18) (qP (zHd b P)) (zAR b P) (zD2 b P) 9 (nxR 0 (Int.ofNat s) 1) p σ
theorem zNW:∀s,s < 9->Builtin.Range.rangeSize 0 (Int.ofNat s) 1=s:=by decide
theorem zIQ {s p:Nat}{σ:Sto}(hs:s < 9)(hp:p < s):nxR 0 (Int.ofNat s) 1 σ p=some (some (.int (Int.ofNat p))):=by
 unfold nxR;rw [zNW s hs,if_pos (by omega)]
 congr 3
 show (0:Int) + p * 1=p;omega
theorem zNs {s:Nat}{σ:Sto}(hs:s < 9):nxR 0 (Int.ofNat s) 1 σ s=some none:=by
 unfold nxR;rw [zNW s hs,if_neg (by omega)]
theorem zIb {s p:Nat}(f:Nat->V)(hs:s<=7)(hp:p < s):pNm ((zB 0 s).map f) (Int.ofNat p) (f p):=by
 have hlen:((zB 0 s).map f).length=s:=by rw [List.length_map,zH]
 unfold pNm wH;dsimp only;have g1:(decide ((Int.ofNat p) < -(2 ^ 63:Int)) || decide ((Int.ofNat p) ≥ 2 ^ 63))=false:=by
  have e:Int.ofNat p=(p:Int):=rfl;rw [e];simp only [Bool.or_eq_false_iff,decide_eq_false_iff_not];omega
 rw [g1];simp only [Bool.false_eq_true,if_false];have g2:seqIndex? (Int.ofNat p) ((zB 0 s).map f).length=some p:=by
  rw [hlen];have e:Int.ofNat p=(p:Int):=rfl;rw [e];unfold seqIndex?;have c1:¬((p:Int) < 0):=by omega
  dsimp only;rw [if_neg c1];have c2:(decide (0<=(p:Int)) && decide ((p:Int) < (s:Int)))=true:=by simp; omega
  rw [if_pos c2];simp
 rw [g2];simp only [Option.bind_some];rw [List.getElem?_map,zR s 0 p hp];simp
theorem zOq {s:Nat}(h0:0 < s)(hs:s<=7)(nv:Int):(!(Int.ofNat s==0))=true/\(!(Int.ofNat s==0 || Builtin.divisionGoesByPylong nv (Int.ofNat s)))=true:=by
 have:s=1\/s=2\/s=3\/s=4\/s=5\/s=6\/s=7:=by omega
 rcases this with rfl | rfl | rfl | rfl | rfl | rfl | rfl <;>exact ⟨rfl,by kernel_rfl⟩
theorem zTc {sg nm hd kp:List V}{tl:Sto}:qD (qP (zHd b P)) (.int pl) (zD2 b P) (ulS sz sg nm [] none hd kp tl)=some (ulS sz sg nm [(S "place",.int pl)] none hd kp tl):=by kernel_rfl
theorem zRu {sg nm hd kp:List V}{tl:Sto}{q:Int}{cv:Option V}:qD (qP (zHd b P)) (.int pl) (zD2 b P) (ulS sz sg nm (ulK q mk) cv hd kp tl)=some (ulS sz sg nm (ulK pl mk) cv hd kp tl):=by kernel_rfl
theorem ut {nn:Nat->Nat}{s p:Nat}(hs:s<=7)(hp:p < s)(U:UlIn g n nn){σ:Sto}(h:ulP g n nn s (sgF s g) (nmF s n) p σ):∃σ',zTL b P s p σ=some (.next,σ')/\ulP g n nn s (sgF s g) (nmF s n) (p + 1) σ':=by
 have hr:nn p % s < 7:=Nat.lt_of_lt_of_le (Nat.mod_lt _ (by omega)) hs;obtain ⟨q,hq⟩:∃q,(Int.fmod (Int.fdiv (n p) (Int.ofNat s)) 2 !=0)=q:=⟨_,rfl⟩;obtain ⟨c1,c2,c3,c4,c5⟩:=zOG (nn p % s) hr q;have hx:(97:Int) + Int.fmod (n p) (Int.ofNat s)=Int.ofNat (97 + nn p % s):=by rw [U.num]; exact zRv (nn p) s (by omega)
 obtain ⟨d1,d2⟩:=zOq (by omega) hs (n p);cases p with
 | zero=>
  have h:σ=_:=h;subst h;have g1:=zRi (b:=b) (P:=P) (ch:=97 + nn 0 % s) (nv:=n 0) (sz:=Int.ofNat s) (pl:=Int.ofNat 0) (sg:=sgF s g) (nm:=nmF s n) (hd:=[]) (kp:=[]) (tl:=[]) (cv:=none) (q:=q) (zIb (fun i=> .int (n i)) hs hp) d1 (zL7 hr hx _) d2 hq c5;have g2:=zRT (b:=b) (P:=P) (sz:=Int.ofNat s) (sg:=sgF s g) (nm:=nmF s n) (cv:=some (.str ⟨#[zEb q (97 + nn 0 % s)]⟩)) (hd:=[]) (kp:=[]) (tl:=[]);have K0:Kept nn s 0 0 (fun _=>0) (fun _=>S ""):=⟨Nat.le_refl _,fun q=>absurd q (by decide),fun i hi=>absurd hi (by omega),fun i hi=>absurd hi (by omega),fun i j hi=>absurd hi (by omega),fun i hi=>absurd hi (by omega),fun j hj=>absurd hj (by omega),⟨fun _ i j hi=>absurd hi (by omega),fun _=>rfl⟩⟩;obtain ⟨σ₂,du2,g3,hdu,_,g4⟩:=zMx (b:=b) (P:=P) (g:=g) (n:=n) (e:=fun _=>0) (a:=fun _=>S "") (mk:=S "") (sz:=Int.ofNat s) (pl:=Int.ofNat 0) (ch:=zEb q (97 + nn 0 % s)) (k:=0) hs hp (.one (S "")) (fun i hi=>absurd hi (by omega)) (fun i j hi=>absurd hi (by omega)) c1 c2 c3 zSq;refine ⟨_,zA8 (zIQ (by omega) hp) zTc (by rw [zJn]; exact (zG g1).trans ((zG g2).trans g3)) (g4 rfl),?_⟩;exact ⟨1,_,_,S "",_,du2,K0.more c4 rfl c1 zJf,hdu,rfl⟩
 | succ p=>
  obtain ⟨k,e,a,mk,c,du,K,hdu,rfl⟩:=h;have hk1:k<=p + 1:=K.le;obtain ⟨m,rfl⟩:∃m,k=m + 1:=⟨k - 1,by have:=K.pos (by omega); omega⟩;have g1:=zQ9 (b:=b) (P:=P) (ch:=97 + nn (p + 1) % s) (nv:=n (p + 1)) (sz:=Int.ofNat s) (pl:=Int.ofNat (p + 1)) (mk:=mk) (sg:=sgF s g) (nm:=nmF s n) (hd:=tpl (m + 1) e a) (kp:=tpl (m + 1) e a) (tl:=[.list du]) (cv:=some (.str ⟨#[c]⟩)) (q:=q) (zIb (fun i=> .int (n i)) hs hp) d1 (zL7 hr hx _) d2 hq c5;have g2:=zR5 (b:=b) (P:=P) (sz:=Int.ofNat s) (pl:=Int.ofNat (p + 1)) (m0:=mk) (mk:=g (p + 1)) (sg:=sgF s g) (nm:=nmF s n) (cv:=some (.str ⟨#[zEb q (97 + nn (p + 1) % s)]⟩)) (hd:=tpl (m + 1) e a) (kp:=tpl (m + 1) e a) (tl:=[.list du]) (by show (((p + 1:Nat):Int) !=0)=true; rw [bne_iff_ne]; omega) (zIb (fun i=> .str (g i)) hs hp);obtain ⟨σ₂,du2,g3,hdu2,g4,g5⟩:=zMx (b:=b) (P:=P) (g:=g) (n:=n) (e:=e) (a:=a) (mk:=g (p + 1)) (sz:=Int.ofNat s) (pl:=Int.ofNat (p + 1)) (ch:=zEb q (97 + nn (p + 1) % s)) (k:=m + 1) hs (by omega) hdu K.af K.dis c1 c2 c3 (U.rv (p + 1));have hb:ulX b P (zAR b P) (ulS (Int.ofNat s) (sgF s g) (nmF s n) (ulK (Int.ofNat (p + 1)) mk) (some (.str ⟨#[c]⟩)) (tpl (m + 1) e a) (tpl (m + 1) e a) [.list du])=some (.next,σ₂):=by
   rw [zJn];exact (zG g1).trans ((zG g2).trans g3)
  cases hm:mt e (zEb q (97 + nn (p + 1) % s)) (m + 1) with
  | true=>exact ⟨_,zA8 (zIQ (by omega) hp) zRu hb (g4 hm),m + 1,e,a,g (p + 1),_,du2,K.same c4 hm,hdu2,rfl⟩
  | false=>exact ⟨_,zA8 (zIQ (by omega) hp) zRu hb (g5 hm),m + 1 + 1,_,_,g (p + 1),_,du2,K.more c4 hm c1 (U.ok (p + 1)),hdu2,rfl⟩
theorem zCu (f:Nat->Nat):∀(m i:Nat),zAk ((zB i m).map f)=true ↔ ∀x y,i<=x->x < i + m->i<=y->y < i + m->f x=f y->x=y
 | 0,i=>⟨fun _ x y h1 h2=>by omega,fun _=>rfl⟩
 | m + 1,i=>by
  show (match yE (f i) ((zB (i + 1) m).map f) with | true=>false | false=>zAk ((zB (i + 1) m).map f))=true ↔ _;cases hm:yE (f i) ((zB (i + 1) m).map f) with
  | true=>
   refine ⟨fun h=>(by cases h),fun h=>?_⟩;obtain ⟨y,hy,e⟩:=List.mem_map.mp ((yN _ _).mp hm);have:=(zL m (i + 1) y).mp hy;have:=h i y (by omega) (by omega) (by omega) (by omega) e.symm;omega
  | false=>
   show zAk _=true ↔ _;rw [zCu f m (i + 1)];have hno:∀y,i < y->y < i + (m + 1)->f i≠f y:=fun y h1 h2 e=>by
    have:yE (f i) ((zB (i + 1) m).map f)=true:=(yN _ _).mpr (List.mem_map.mpr ⟨y,(zL m (i + 1) y).mpr (by omega),e.symm⟩);rw [hm] at this; cases this
   constructor
   ·intro h x y h1 h2 h3 h4 e
    by_cases a:x=i
    ·subst a
     by_cases c:y=x
     ·exact c.symm
     ·exact absurd e (hno y (by omega) (by omega))
    ·by_cases c:y=i
     ·subst c
      exact absurd e.symm (hno x (by omega) (by omega))
     ·exact h x y (by omega) (by omega) (by omega) (by omega) e
   ·intro h x y h1 h2 h3 h4 e
    exact h x y (by omega) (by omega) (by omega) (by omega) e
def tD (k:Nat)(e:Nat->Nat)(a:Nat->Str):List PyData:=(zB 0 k).map fun i=> .tuple [.str ⟨#[e i]⟩,.str (a i)]
theorem zNk {c:Nat}(h:aF c=true):PyData.strOk ⟨#[c]⟩=true:=by
 have:c < 128:=by
  have z:=h;unfold aF zAo at z;simp at z;exact z
 simp [PyData.strOk];omega
theorem zJA:∀(l:List Nat) (e:Nat->Nat) (a:Nat->Str),(∀i∈l,PyData.strOk ⟨#[e i]⟩=true/\PyData.strOk (a i)=true)->PyData.canLayAll0 (l.map fun i=>PyData.tuple [.str ⟨#[e i]⟩,.str (a i)])=true/\PyData.depthAll (l.map fun i=>PyData.tuple [.str ⟨#[e i]⟩,.str (a i)])<=3
 | [],_,_,_=>by simp [PyData.canLayAll0,PyData.depthAll]
 | x::l,e,a,h=>by
  obtain ⟨h1,h2⟩:=zJA l e a fun i hi=>h i (List.mem_cons_of_mem _ hi);obtain ⟨h3,h4⟩:=h x (List.mem_cons_self ..);simp only [List.map_cons,PyData.canLayAll0,PyData.depthAll,PyData.canLay0,PyData.depth,h1,h3,h4,Bool.and_self,true_and];omega
theorem zSI {k:Nat}{e:Nat->Nat}{a:Nat->Str}(h1:∀i,i < k->aF (e i)=true)(h2:∀i,i < k->PyData.strOk (a i)=true):(SeqAt.shaped (.list (tD k e a)) && SeqAt.shaped (.list (tD k e a)))=true:=by
 have z:SeqAt.shaped (.list (tD k e a))=true:=by
  obtain ⟨q1,q2⟩:=zJA (zB 0 k) e a fun i hi=>by
   have:=(zL k 0 i).mp hi;exact ⟨zNk (h1 i (by omega)),h2 i (by omega)⟩
  unfold SeqAt.shaped;have q1:PyData.canLayAll0 (tD k e a)=true:=q1;have q2:PyData.depthAll (tD k e a)<=3:=q2;simp only [PyData.canLay0,PyData.depth,q1,Bool.true_and];exact decide_eq_true (by omega)
 rw [z]; rfl
theorem eqT (e:Nat->Nat)(a:Nat->Str)(k:Nat):PyData.eqv (.list (tD k e a)) (.list (tD k e a))=true:=by
 have key:∀l:List Nat,PyData.eqvAll (l.map fun i=>PyData.tuple [.str ⟨#[e i]⟩,.str (a i)]) (l.map fun i=>PyData.tuple [.str ⟨#[e i]⟩,.str (a i)])=true:=by
  intro l
  induction l with
  | nil=>simp [PyData.eqvAll]
  | cons x l ih=>simp only [List.map_cons,PyData.eqvAll,PyData.eqv,beq_self_eq_true,Bool.and_self,ih]
 simp only [PyData.eqv];exact key (zB 0 k)
theorem zQX:ulB b P=(ulB b P).take 2 ++ [zHd b P,(ulB b P).getD 3 default]:=by kernel_rfl
abbrev ulE (s:Nat)(g:Nat->Str)(n:Nat->Int):Sto:=[.ctab 332 true,.list (sgF s g),.list (nmF s n)]
abbrev ulN (s:Nat)(g:Nat->Str)(n:Nat->Int):Sto:=[.ctab 332 true,.list (sgF s g),.list (nmF s n),.ns [(S "signs",.trk 1),(S "numbers",.trk 2),(S "size",.int (Int.ofNat s))],.cell none]
theorem zMP {s:Nat}:(ev (cf b P) 20).c (.val (.ref 352)) [.trk 1,.trk 2,.int (Int.ofNat s)] [] (ulE s g n)=yR (ev (cf b P) 19) 3 (ulB b P) (zD2 b P) (ulN s g n):=by kernel_rfl
theorem zRz:(zB 1 7).map (fun s=>zP (goS (cf b P) 19 ((ulB b P).take 2) (zD2 b P) (ulN s g n)) [])=(zB 1 7).map fun s=>some ([],kJ .next,ulS (Int.ofNat s) (sgF s g) (nmF s n) [] none [] [] []):=by kernel_rfl
theorem zTF {s:Nat}(h0:0 < s)(hs:s<=7):(ev (cf b P) 19).x (zHd b P) (zD2 b P) (ulS (Int.ofNat s) (sgF s g) (nmF s n) [] none [] [] [])=yD (ev (cf b P) 18) (qP (zHd b P)) (zAR b P) (zD2 b P) 9 (nxR 0 (Int.ofNat s) 1) 1000 0 (ulS (Int.ofNat s) (sgF s g) (nmF s n) [] none [] [] []):=by
 have:s=1\/s=2\/s=3\/s=4\/s=5\/s=6\/s=7:=by omega
 rcases this with rfl | rfl | rfl | rfl | rfl | rfl | rfl <;>kernel_rfl
def ulZ (s k d:Nat)(g a:Nat->Str)(n:Nat->Int)(ch:Nat)(e:Nat->Nat)(mk x y:Str)(pl:Int)(tl:Sto):Sto:=ulS (Int.ofNat s) (sgF s g) (nmF s n) (ulK pl mk) (some (.str ⟨#[ch]⟩)) (tpl k e a) (tpl k e a) (.list (duF d x y)::tl)
def laL (s:Nat)(b:Bool)(P:Params)(g a:Nat->Str)(n:Nat->Int)(ch:Nat)(e:Nat->Nat)(mk x y:Str)(pl:Int)(l:List (Nat×Nat)):List (Option (List Prop×V×Sto)×(V×Sto)):=l.map fun q=>(zP (goS (cf b P) 19 [(ulB b P).getD 3 default] (zD2 b P) (ulZ s q.1 q.2 g a n ch e mk x y pl [])) [.ans 1 true,.ans 0 true],gcv 3 (.bool (Nat.beq q.1 s)) (ulZ s q.1 q.2 g a n ch e mk x y pl [.list (tpl q.1 e a)]))
def laR (s:Nat)(g a:Nat->Str)(n:Nat->Int)(ch:Nat)(e:Nat->Nat)(mk x y:Str)(pl:Int)(l:List (Nat×Nat)):List (Option (List Prop×V×Sto)×(V×Sto)):=l.map fun q=>(some ([(SeqAt.shaped (.list (tD q.1 e a)) && SeqAt.shaped (.list (tD q.1 e a)))=true,PyData.eqv (.list (tD q.1 e a)) (.list (tD q.1 e a))=true],kJ (.ret (.bool (Nat.beq q.1 s))),ulZ s q.1 q.2 g a n ch e mk x y pl [.list (tpl q.1 e a)]),(.bool (Nat.beq q.1 s),ulE s g n))
def lkF (k:Nat):List (Nat×Nat):=(([1,2,3,4,5,6,7]:List Nat).take k).flatMap fun j=>[(j,1),(j,2)]
theorem zM1:∀s,s < 8->∀k,k < s->(k + 1,1)∈lkF s/\(k + 1,2)∈lkF s:=by decide +kernel
theorem zS7:laL 1 b P g a n ch e mk x y pl (lkF 1)=laR 1 g a n ch e mk x y pl (lkF 1):=by kernel_rfl
theorem zSv:laL 2 b P g a n ch e mk x y pl (lkF 2)=laR 2 g a n ch e mk x y pl (lkF 2):=by kernel_rfl
theorem zTE:laL 3 b P g a n ch e mk x y pl (lkF 3)=laR 3 g a n ch e mk x y pl (lkF 3):=by kernel_rfl
theorem zTO:laL 4 b P g a n ch e mk x y pl (lkF 4)=laR 4 g a n ch e mk x y pl (lkF 4):=by kernel_rfl
theorem zTl:laL 5 b P g a n ch e mk x y pl (lkF 5)=laR 5 g a n ch e mk x y pl (lkF 5):=by kernel_rfl
theorem zSS:laL 6 b P g a n ch e mk x y pl (lkF 6)=laR 6 g a n ch e mk x y pl (lkF 6):=by kernel_rfl
theorem zSD:laL 7 b P g a n ch e mk x y pl (lkF 7)=laR 7 g a n ch e mk x y pl (lkF 7):=by kernel_rfl
theorem zPr {s:Nat}(h0:0 < s)(hs:s<=7):laL s b P g a n ch e mk x y pl (lkF s)=laR s g a n ch e mk x y pl (lkF s):=by
 have:s=1\/s=2\/s=3\/s=4\/s=5\/s=6\/s=7:=by omega
 rcases this with rfl | rfl | rfl | rfl | rfl | rfl | rfl
 ·exact zS7
 ·exact zSv
 ·exact zTE
 ·exact zTO
 ·exact zTl
 ·exact zSS
 ·exact zSD
theorem yS {s:Nat}{nn:Nat->Nat}(h0:0 < s)(hs:s<=7)(U:UlIn g n nn):(ev (cf b P) 20).c (.val (.ref 352)) [.trk 1,.trk 2,.int (Int.ofNat s)] [] (ulE s g n)=some (.bool (zAk ((zB 0 s).map fun i=>nn i % s)),ulE s g n):=by
 obtain ⟨σ₁,h1,hP⟩:=zFa (r:=ev (cf b P) 18) (t:=qP (zHd b P)) (body:=zAR b P) (ae:=zD2 b P) (m:=9) (N:=s) (nx:=nxR 0 (Int.ofNat s) 1) (ulP g n nn s (sgF s g) (nmF s n)) (fun p σ hp hP=>ut hs hp U hP) (fun σ _=>zNs (by omega)) s 0 (ulS (Int.ofNat s) (sgF s g) (nmF s n) [] none [] [] []) (by omega) rfl 1000 (by omega);obtain ⟨p,rfl⟩:∃p,s=p + 1:=⟨s - 1,by omega⟩;obtain ⟨k,e,a,mk,c,du,K,hdu,rfl⟩:=hP;have hk1:k<=p + 1:=K.le;have hk0:0 < k:=K.pos (by omega);have hinj:(zAk ((zB 0 (p + 1)).map fun i=>nn i % (p + 1)))=Nat.beq k (p + 1):=by
  rw [kW,Bool.eq_iff_iff,zCu,decide_eq_true_eq];have z:k=p + 1 ↔ _:=K.inj;rw [z];exact ⟨fun h i j hi hj=>h i j (by omega) (by omega) (by omega) (by omega),fun h x y _ hx _ hy=>h x y (by omega) (by omega)⟩
 obtain ⟨d,x,y,hd12,rfl⟩:∃d x y,(d=1\/d=2)/\du=duF d x y:=by
  cases hdu with
  | one x=>exact ⟨1,x,x,.inl rfl,rfl⟩
  | two x y=>exact ⟨2,x,y,.inr rfl,rfl⟩
 have hq:(k,d)∈lkF (p + 1):=by
  have z:=zM1 (p + 1) (by omega) (k - 1) (by omega);rw [show k - 1 + 1=k by omega] at z;rcases hd12 with rfl | rfl
  ·exact z.1
  ·exact z.2
 have z:=List.map_inj_left.mp (zPr (b:=b) (P:=P) (g:=g) (a:=a) (n:=n) (ch:=c) (e:=e) (mk:=mk) (x:=x) (y:=y) (pl:=Int.ofNat p) h0 hs) _ hq;have l1:=zD (congrArg Prod.fst z) ⟨zSI K.af K.ok,eqT e a k,trivial⟩;have l2:=congrArg Prod.snd z;have f1:=zD (List.map_inj_left.mp (zRz (b:=b) (P:=P) (g:=g) (n:=n)) (p + 1) ((zL _ _ _).mpr (by omega))) trivial;rw [hinj,zMP];unfold yR;rw [zQX,zG f1,zFu,zTF h0 hs,h1];dsimp only;rw [show ulS (Int.ofNat (p + 1)) (sgF (p + 1) g) (nmF (p + 1) n) (ulK (Int.ofNat p) mk) (some (.str ⟨#[c]⟩)) (tpl k e a) (tpl k e a) [.list (duF d x y)]=ulZ (p + 1) k d g a n c e mk x y (Int.ofNat p) [] from rfl,l1];exact congrArg some l2
end
end Mine
end
end
section
noncomputable section
namespace Mine
def qd (l:Nat):Bool:=Nat.beq (l / 4 % 2) 1
def whN (l:Nat):Nat:=[32,10,9,13].getD (l / 8) 32
def xS (l:Nat)(rest:List Nat):List Nat:=match qd l with
 | true=>whN l::rest
 | false=>rest
def vI (l:Nat)(ln:Int):Int:=match qd l with
 | true=>ln
 | false=>qM (whN l) ln
theorem zTH (ln:Int)(rest:List Nat):(zW 32).map (fun l=>qL ln (wrN 0 l ++ rest))=(zW 32).map fun l=>some (tkN 0 l,vI l ln,xS l rest):=by kernel_rfl
theorem zTg (ln:Int)(rest:List Nat):(zW 32).map (fun l=>qL ln (wrN 1 l ++ rest))=(zW 32).map fun l=>some (tkN 1 l,vI l ln,xS l rest):=by kernel_rfl
theorem zSB (ln:Int)(rest:List Nat):(zW 32).map (fun l=>qL ln (wrN 2 l ++ rest))=(zW 32).map fun l=>some (tkN 2 l,vI l ln,xS l rest):=by kernel_rfl
theorem zTu (ln:Int)(rest:List Nat):(zW 32).map (fun l=>qL ln (wrN 3 l ++ rest))=(zW 32).map fun l=>some (tkN 3 l,vI l ln,xS l rest):=by kernel_rfl
theorem zTt (ln:Int)(rest:List Nat):(zW 32).map (fun l=>qL ln (wrN 4 l ++ rest))=(zW 32).map fun l=>some (tkN 4 l,vI l ln,xS l rest):=by kernel_rfl
theorem zTh (ln:Int)(rest:List Nat):(zW 32).map (fun l=>qL ln (wrN 5 l ++ rest))=(zW 32).map fun l=>some (tkN 5 l,vI l ln,xS l rest):=by kernel_rfl
theorem zTK (ln:Int)(rest:List Nat):(zW 32).map (fun l=>qL ln (wrN 6 l ++ rest))=(zW 32).map fun l=>some (tkN 6 l,vI l ln,xS l rest):=by kernel_rfl
theorem zJt {c:Nat}(h:c < 7):c=0\/c=1\/c=2\/c=3\/c=4\/c=5\/c=6:=by omega
theorem zK9 {c l:Nat}(hc:c < 7)(hl:l < 32)(ln:Int)(rest:List Nat):qL ln (wrN c l ++ rest)=some (tkN c l,vI l ln,xS l rest):=by
 rcases zJt hc with rfl | rfl | rfl | rfl | rfl | rfl | rfl
 ·exact yT (f:=fun l=>qL ln (wrN 0 l ++ rest)) (g:=fun l=>some (tkN 0 l,vI l ln,xS l rest)) (zTH ln rest) hl
 ·exact yT (f:=fun l=>qL ln (wrN 1 l ++ rest)) (g:=fun l=>some (tkN 1 l,vI l ln,xS l rest)) (zTg ln rest) hl
 ·exact yT (f:=fun l=>qL ln (wrN 2 l ++ rest)) (g:=fun l=>some (tkN 2 l,vI l ln,xS l rest)) (zSB ln rest) hl
 ·exact yT (f:=fun l=>qL ln (wrN 3 l ++ rest)) (g:=fun l=>some (tkN 3 l,vI l ln,xS l rest)) (zTu ln rest) hl
 ·exact yT (f:=fun l=>qL ln (wrN 4 l ++ rest)) (g:=fun l=>some (tkN 4 l,vI l ln,xS l rest)) (zTt ln rest) hl
 ·exact yT (f:=fun l=>qL ln (wrN 5 l ++ rest)) (g:=fun l=>some (tkN 5 l,vI l ln,xS l rest)) (zTh ln rest) hl
 ·exact yT (f:=fun l=>qL ln (wrN 6 l ++ rest)) (g:=fun l=>some (tkN 6 l,vI l ln,xS l rest)) (zTK ln rest) hl
theorem zL5:(zW 7).all (fun c=>(zW 32).all fun l=>Nat.ble (wrN c l).length 16 && Nat.beq ((wrN c l).count 10) (if whN l=10 then 1 else 0) && isW (whN l))=true:=by decide +kernel
theorem zFR {c l:Nat}(hc:c < 7)(hl:l < 32):(wrN c l).length<=16/\(wrN c l).count 10=(if whN l=10 then 1 else 0)/\isW (whN l)=true:=by
 have z:=List.all_eq_true.mp (List.all_eq_true.mp zL5 c (wB hc)) l (wB hl);simp only [Bool.and_eq_true,Nat.ble_eq,Nat.beq_eq] at z;exact ⟨z.1.1,z.1.2,z.2⟩
theorem zR3 {b:Bool}{P:Params}{m:Bool}{c l:Nat}(hc:c < 7)(hl:l < 32):(ev (cf b P) 20).c (.val (.ref 330)) [.int (Int.ofNat c),.int (Int.ofNat l)] [] [.ctab 332 m]=some (.str (strN (wrN c l)),[.ctab 332 m]):=by
 rcases zJt hc with rfl | rfl | rfl | rfl | rfl | rfl | rfl
 ·exact yT (f:=fun l=>(ev (cf b P) 20).c (.val (.ref 330)) [.int 0,.int (Int.ofNat l)] [] [.ctab 332 m]) (g:=fun l=>some (.str (strN (wrN 0 l)),[.ctab 332 m])) (zP4 b P m) hl
 ·exact yT (f:=fun l=>(ev (cf b P) 20).c (.val (.ref 330)) [.int 1,.int (Int.ofNat l)] [] [.ctab 332 m]) (g:=fun l=>some (.str (strN (wrN 1 l)),[.ctab 332 m])) (zOs b P m) hl
 ·exact yT (f:=fun l=>(ev (cf b P) 20).c (.val (.ref 330)) [.int 2,.int (Int.ofNat l)] [] [.ctab 332 m]) (g:=fun l=>some (.str (strN (wrN 2 l)),[.ctab 332 m])) (zQv b P m) hl
 ·exact yT (f:=fun l=>(ev (cf b P) 20).c (.val (.ref 330)) [.int 3,.int (Int.ofNat l)] [] [.ctab 332 m]) (g:=fun l=>some (.str (strN (wrN 3 l)),[.ctab 332 m])) (zPp b P m) hl
 ·exact yT (f:=fun l=>(ev (cf b P) 20).c (.val (.ref 330)) [.int 4,.int (Int.ofNat l)] [] [.ctab 332 m]) (g:=fun l=>some (.str (strN (wrN 4 l)),[.ctab 332 m])) (zN8 b P m) hl
 ·exact yT (f:=fun l=>(ev (cf b P) 20).c (.val (.ref 330)) [.int 5,.int (Int.ofNat l)] [] [.ctab 332 m]) (g:=fun l=>some (.str (strN (wrN 5 l)),[.ctab 332 m])) (zQd b P m) hl
 ·exact yT (f:=fun l=>(ev (cf b P) 20).c (.val (.ref 330)) [.int 6,.int (Int.ofNat l)] [] [.ctab 332 m]) (g:=fun l=>some (.str (strN (wrN 6 l)),[.ctab 332 m])) (zQ4 b P m) hl
theorem zR0 {b:Bool}{P:Params}{m:Bool}{c l:Nat}(hc:c < 7)(hl:l < 32):(ev (cf b P) 20).c (.val (.ref 342)) [.str (strN (tkN c l))] [] [.ctab 332 m]=some (.str (strN (fcN c)),[.ctab 332 m]):=by
 rcases zJt hc with rfl | rfl | rfl | rfl | rfl | rfl | rfl
 ·exact List.map_inj_left.mp (zN3 b P m) _ (zPJ l hl)
 ·exact List.map_inj_left.mp (zOS b P m) _ (zQl l hl)
 ·exact List.map_inj_left.mp (zOE b P m) _ (zOn l hl)
 ·exact List.map_inj_left.mp (zOI b P m) _ (zO9 l hl)
 ·exact List.map_inj_left.mp (zQF b P m) _ (zQf l hl)
 ·exact List.map_inj_left.mp (zQU b P m) _ (zP7 l hl)
 ·exact List.map_inj_left.mp (zOz b P m) _ (zQk l hl)
def dd (k j:Nat):Str:=(zAg k).getD j (S "")
theorem zEP (k j:Nat)(hj:j < 7):dd k j=vK.getD (k + j) (S ""):=by
 unfold dd zAg;rw [List.getD_eq_getElem?_getD,List.getD_eq_getElem?_getD,List.getElem?_take,if_pos hj,List.getElem?_drop]
theorem zL3 (k j:Nat)(hj:7<=j):dd k j=S "":=by
 unfold dd zAg;rw [List.getD_eq_getElem?_getD,List.getElem?_take,if_neg (by omega)];rfl
theorem zNA:(zW 48).all (fun m=>vJ (vK.getD m (S "")) && xE (S "; ") [vK.getD m (S "")] && PyData.strOk (vK.getD m (S "")) && rV (vK.getD m (S "")) && (zW 48).all fun m2=>Nat.beq m m2 || !(eqS (vK.getD m (S "")) (vK.getD m2 (S ""))))=true:=by decide +kernel
theorem zFA {m:Nat}(h:m < 48):vJ (vK.getD m (S ""))=true/\xE (S "; ") [vK.getD m (S "")]=true/\PyData.strOk (vK.getD m (S ""))=true/\rV (vK.getD m (S ""))=true/\∀m2,m2 < 48->vK.getD m (S "")=vK.getD m2 (S "")->m=m2:=by
 have z:=List.all_eq_true.mp zNA m (wB h);simp only [Bool.and_eq_true,List.all_eq_true,Bool.or_eq_true,Nat.beq_eq,Bool.not_eq_true'] at z;obtain ⟨⟨⟨⟨z1,z2⟩,z3⟩,z4⟩,z5⟩:=z;refine ⟨z1,z2,z3,z4,fun m2 h2 e=>?_⟩;rcases z5 m2 (wB h2) with q | q
 ·exact q
 ·rw [e,qT] at q
  simp at q
theorem zF4 {k:Nat}(hk:k < 42):Deck (dd k) where
 inj:=fun i j hi hj e=>by
  rw [zEP k i hi,zEP k j hj] at e;have:=(zFA (show k + i < 48 by omega)).2.2.2.2 (k + j) (by omega) e;omega
 ok:=fun i=>by
  by_cases hi:i < 7
  ·rw [zEP k i hi]; exact (zFA (show k + i < 48 by omega)).2.2.1
  ·rw [zL3 k i (by omega)]; exact zJf
theorem zRK {k:Nat}(hk:k < 42)(i:Nat):rV (dd k i)=true:=by
 by_cases hi:i < 7
 ·rw [zEP k i hi]; exact (zFA (show k + i < 48 by omega)).2.2.2.1
 ·rw [zL3 k i (by omega)]; exact zSq
theorem zNd (b:Bool)(P:Params):(zW 48).map (fun m=>((zEu b P).sget 295 (vK.getD m (S ""))).map (fun r=>(r.getD .none,([]:Sto))))=(zW 48).map fun m=>some (.int (Int.ofNat (7 + m)),[]):=by kernel_rfl
theorem zCG {b:Bool}{P:Params}{k j:Nat}(hk:k < 42)(hj:j < 7):pE b P (dd k j) (Int.ofNat (7 + k) + Int.ofNat j):=by
 rw [zEP k j hj];have z:=yT (f:=fun m=>((zEu b P).sget 295 (vK.getD m (S ""))).map (fun r=>(r.getD .none,([]:Sto)))) (g:=fun m=>some (V.int (Int.ofNat (7 + m)),[])) (zNd b P) (show k + j < 48 by omega);unfold pE;have e:Int.ofNat (7 + k) + Int.ofNat j=Int.ofNat (7 + (k + j)):=by
  show Int.ofNat (7 + k + j)=_;rw [Nat.add_assoc]
 rw [e];exact z
end Mine
end
end
section
noncomputable section
namespace Mine
theorem zRI {w:Nat}(h:isW w=true)(ln:Int)(l:List Nat):qL ln (w::l)=qL (qM w ln) l:=by
 conv=>lhs; unfold qL
 rw [h]
theorem zJu {l:Nat}(hl:l < 32)(ln:Int)(rest:List Nat):qL (vI l ln) (xS l rest)=qL (qM (whN l) ln) rest:=by
 unfold vI xS;cases qd l
 ·rfl
 ·exact zRI (zFR (c:=0) (by decide) hl).2.2 ln rest
def txF (W:Nat->List Nat):Nat->Nat->List Nat
 | _,0=>[]
 | i,n + 1=>W i ++ txF W (i + 1) n
def lnT (L:Nat->Nat):Nat->Int
 | 0=>1
 | i + 1=>qM (whN (L i)) (lnT L i)
theorem zBp {W:Nat->List Nat}(h:∀i,(W i).length<=16):∀n i,(txF W i n).length<=16 * n
 | 0,i=>Nat.zero_le _
 | n + 1,i=>by
  have:=zBp h n (i + 1);have:=h i;show (W i ++ txF W (i + 1) n).length<=_;rw [List.length_append];omega
theorem zJd {W:Nat->List Nat}{L:Nat->Nat}(h:∀i,(W i).count 10=if whN (L i)=10 then 1 else 0):∀n i,lnT L (i + n)=lnT L i + ((txF W i n).count 10:Nat)
 | 0,i=>by
  show lnT L i=lnT L i + ((0:Nat):Int);omega
 | n + 1,i=>by
  have z:=zJd h n (i + 1);have e:i + (n + 1)=i + 1 + n:=by omega
  have e2:lnT L (i + 1)=lnT L i + ((if whN (L i)=10 then 1 else 0:Nat):Int):=by
   show qM (whN (L i)) (lnT L i)=_;unfold qM
   by_cases h:whN (L i)=10
   ·rw [if_pos h,if_pos h]; rfl
   ·rw [if_neg h,if_neg h]; simp
  rw [e,z,e2];show _=lnT L i + (((W i ++ txF W (i + 1) n).count 10:Nat):Int);rw [List.count_append,h i];rw [Int.natCast_add,Int.add_assoc]
theorem zMX:(S "").cps=#[]:=by kernel_rfl
theorem zOi:S "\n"=⟨#[10]⟩:=by kernel_rfl
theorem zQm:(default:Str)=S "":=by kernel_rfl
theorem zHn (W:Nat->List Nat):zCc (S "") [strN (W 0),strN (W 1),strN (W 2),strN (W 3),strN (W 4),strN (W 5),strN (W 6)]=strN (txF W 0 7):=by
 show (⟨[strN (W 1),strN (W 2),strN (W 3),strN (W 4),strN (W 5),strN (W 6)].foldl (fun acc p=>acc ++ (S "").cps ++ p.cps) (strN (W 0)).cps⟩:Str)=_;rw [zMX];unfold strN
 congr 1
 simp [txF]
theorem zGV (l:List Nat):(strN l).length=l.length:=by simp [strN,Str.length]
theorem zNB:(S "").length=0:=by kernel_rfl
theorem zM9 {W:Nat->List Nat}(h:∀i,(W i).length<=16):xE (S "") [strN (W 0),strN (W 1),strN (W 2),strN (W 3),strN (W 4),strN (W 5),strN (W 6)]=true:=by
 have h0:=h 0;have h1:=h 1;have h2:=h 2;have h3:=h 3;have h4:=h 4;have h5:=h 5;have h6:=h 6;have hs:(16 * 7:Nat)<=sizeLine:=by decide +kernel
 unfold xE;rw [zHn,zGV];have e:([strN (W 0),strN (W 1),strN (W 2),strN (W 3),strN (W 4),strN (W 5),strN (W 6)].toArray.foldl (· + ·.length + (S "").length) 0)=(W 0).length + (W 1).length + (W 2).length + (W 3).length + (W 4).length + (W 5).length + (W 6).length:=by
  rw [List.foldl_toArray']
  ·simp [zGV,zNB]
  ·rfl
 rw [e];have q:Builtin.Str.tooLong ((W 0).length + (W 1).length + (W 2).length + (W 3).length + (W 4).length + (W 5).length + (W 6).length)=false:=by
  unfold Builtin.Str.tooLong;exact decide_eq_false (by omega)
 rw [q];have:=zBp h 7 0;simp only [Bool.not_false,Bool.true_and,decide_eq_true_eq];omega
theorem zJY (x:Nat)(m:List Nat):mxN (x::m)=max x (mxN m):=by
 show (match Nat.ble (mxN m) x with | true=>x | false=>mxN m)=max x (mxN m);cases h:Nat.ble (mxN m) x with
 | true=>rw [Nat.ble_eq] at h; dsimp only; omega
 | false=>
  have:¬mxN m<=x:=fun q=>by rw [Nat.ble_eq.mpr q] at h; cases h
  dsimp only; omega
theorem zJp (x:Nat)(m:List Nat):mnN (x::m)=min x (mnN m):=by
 show (match Nat.ble x (mnN m) with | true=>x | false=>mnN m)=min x (mnN m);cases h:Nat.ble x (mnN m) with
 | true=>rw [Nat.ble_eq] at h; dsimp only; omega
 | false=>
  have:¬x<=mnN m:=fun q=>by rw [Nat.ble_eq.mpr q] at h; cases h
  dsimp only; omega
theorem zFt:∀(m:List Nat) (a:Nat),(m.map Int.ofNat).foldl (fun b x=>if decide (x >b)=true then x else b) (Int.ofNat a)=Int.ofNat (max a (mxN m))
 | [],a=>by simp [mxN]
 | x::m,a=>by
  have e:=zJY x m;rw [List.map_cons,List.foldl_cons]
  by_cases hx:x >a
  ·have:Int.ofNat x >Int.ofNat a:=Int.ofNat_lt.mpr hx
   rw [if_pos (decide_eq_true this),zFt m x,e]
   congr 1; omega
  ·have:¬Int.ofNat x >Int.ofNat a:=fun q=>hx (Int.ofNat_lt.mp q)
   rw [if_neg (by simpa using this),zFt m a,e]
   congr 1; omega
theorem zFN:∀(m:List Nat) (a:Nat),a < 100->(∀x∈m,x < 100)->(m.map Int.ofNat).foldl (fun b x=>if decide (x < b)=true then x else b) (Int.ofNat a)=Int.ofNat (min a (mnN m))
 | [],a,h,_=>by
  show Int.ofNat a=Int.ofNat (min a 100)
  congr 1; omega
 | x::m,a,h,hm=>by
  have e:=zJp x m;have hx0:=hm x (List.mem_cons_self ..);have hm':∀y∈m,y < 100:=fun y hy=>hm y (List.mem_cons_of_mem _ hy);rw [List.map_cons,List.foldl_cons]
  by_cases hx:x < a
  ·have:Int.ofNat x < Int.ofNat a:=Int.ofNat_lt.mpr hx
   rw [if_pos (decide_eq_true this),zFN m x hx0 hm',e]
   congr 1; omega
  ·have:¬Int.ofNat x < Int.ofNat a:=fun q=>hx (Int.ofNat_lt.mp q)
   rw [if_neg (by simpa using this),zFN m a h hm',e]
   congr 1; omega
theorem zNx (a:Nat)(m:List Nat):zAd (fun x b=>decide (x >b)) ((a::m).map Int.ofNat)=Int.ofNat (mxN (a::m)):=by
 have e:=zJY a m;rw [e];exact zFt m a
theorem zNH (a:Nat)(m:List Nat)(ha:a < 100)(hm:∀x∈m,x < 100):zAd (fun x b=>decide (x < b)) ((a::m).map Int.ofNat)=Int.ofNat (mnN (a::m)):=by
 have e:=zJp a m;rw [e];exact zFN m a ha hm
theorem zHw (s:Nat)(a:Nat)(m:List Nat)(ha:a < 7)(hm:∀x∈m,x < 7):decide (zAd (fun x b=>decide (x >b)) ((a::m).map Int.ofNat) - zAd (fun x b=>decide (x < b)) ((a::m).map Int.ofNat) ≥ (s:Int))=Nat.ble (s + mnN (a::m)) (mxN (a::m)):=by
 rw [zNx,zNH a m (by omega) (fun x hx=>by have:=hm x hx; omega),Bool.eq_iff_iff,decide_eq_true_eq,Nat.ble_eq];show ((mxN (a::m):Nat):Int) - ((mnN (a::m):Nat):Int) ≥ (s:Int) ↔ _;omega
theorem kH {s t C:Nat}(r:List Nat)(hs:0 < s)(h7:s<=7)(hl:t + s<=r.length):zAk ((zB 0 s).map fun i=>(C + r.getD (t + i) 0) % s)=uB s t r:=by
 have e:((r.drop t).take s)=(zB 0 s).map fun i=>r.getD (t + i) 0:=by
  apply List.ext_getElem?;intro i;rw [List.getElem?_take,List.getElem?_map]
  by_cases hi:i < s
  ·rw [if_pos hi,zR s 0 i hi,List.getElem?_drop,Nat.zero_add]
   show _=some (r.getD (t + i) 0);rw [List.getD_eq_getElem?_getD];have:t + i < r.length:=by omega
   rw [List.getElem?_eq_getElem this];rfl
  ·rw [if_neg hi]
   have:(zB 0 s).length<=i:=by
    have:(zB 0 s).length=s:=zH s 0;omega
   rw [List.getElem?_eq_none this];rfl
 unfold uB;rw [e,List.map_map,Bool.eq_iff_iff,zCu,zCu];have k:∀a c:Nat,(C + a) % s=(C + c) % s ↔ a % s=c % s:=by
  intro a c;have:s=1\/s=2\/s=3\/s=4\/s=5\/s=6\/s=7:=by omega
  rcases this with rfl | rfl | rfl | rfl | rfl | rfl | rfl <;>omega
 constructor
 ·intro h x y h1 h2 h3 h4 q
  exact h x y h1 h2 h3 h4 ((k _ _).mpr q)
 ·intro h x y h1 h2 h3 h4 q
  exact h x y h1 h2 h3 h4 ((k _ _).mp q)
end Mine
end
end
section
noncomputable section
namespace Mine
def p32 (i:Nat):Int:=[1,32,1024,32768,1048576,33554432,1073741824].getD i 1
def wF (ro L:Nat->Nat)(i:Nat):List Nat:=wrN (ro i) (L i)
def mkD (la:Addr)(k:Nat)(c:Nat->Int)(ro L:Nat->Nat):LD:={la:=la,fi:=Int.ofNat (7 + k),c0:=c 0,c1:=c 1,c2:=c 2,c3:=c 3,c4:=c 4,c5:=c 5,c6:=c 6,c7:=c 7,c8:=c 8,r0:=Int.ofNat (ro 0),r1:=Int.ofNat (ro 1),r2:=Int.ofNat (ro 2),r3:=Int.ofNat (ro 3),r4:=Int.ofNat (ro 4),r5:=Int.ofNat (ro 5),r6:=Int.ofNat (ro 6),d0:=dd k 0,d1:=dd k 1,d2:=dd k 2,d3:=dd k 3,d4:=dd k 4,d5:=dd k 5,d6:=dd k 6,tx:=strN (txF (wF ro L) 0 7),w:=fun i=>strN (wF ro L i)}
def lnE (L:Nat->Nat):Nat->Int
 | 0=>1
 | j + 1=>vI (L j) (lnT L j)
def llE (ro L:Nat->Nat):Nat->List Nat
 | 0=>txF (wF ro L) 0 7
 | j + 1=>xS (L j) (txF (wF ro L) (j + 1) (6 - j))
def mkE (k:Nat)(ro L:Nat->Nat):LE:={ln:=lnE L,ll:=llE ro L,t:=fun i=>strN (tkN (ro i) (L i)),f:=fun i=>strN (fcN (ro i)),h:=fun i=>dd k (ro i)}
structure Ok1 (k:Nat) (c:Nat->Int) (ro L:Nat->Nat):Prop where
 hk:k < 42
 hr:∀i,ro i < 7
 hL:∀i,L i < 32
 h0:7 + Int.fmod (c 0) 42=Int.ofNat (7 + k)
 h8:∀i,Int.fmod (Int.fdiv (c 8) (p32 i)) 32=Int.ofNat (L i)
section
variable {b:Bool} {P:Params} {l:List Int} {la:Addr} {k:Nat} {c:Nat->Int} {ro L:Nat->Nat}
theorem zFD (O:Ok1 k c ro L)(i:Nat):(wF ro L i).length<=16:=(zFR (O.hr i) (O.hL i)).1
theorem zSF (O:Ok1 k c ro L){i:Nat}(hi:i < 7):qL (lnE L i) (llE ro L i)=some (tkN (ro i) (L i),lnE L (i + 1),llE ro L (i + 1)):=by
 have e:qL (lnE L i) (llE ro L i)=qL (lnT L i) (txF (wF ro L) i (7 - i)):=by
  cases i with
  | zero=>rfl
  | succ j=>
   refine (zJu (O.hL j) _ _).trans ?_;rw [show 7 - (j + 1)=6 - j by omega];rfl
 rw [e,show 7 - i=(6 - i) + 1 by omega];exact zK9 (O.hr i) (O.hL i) _ _
theorem zPO (O:Ok1 k c ro L):qL (lnE L 7) (llE ro L 7)=some ([],lnT L 7,[]):=(zJu (O.hL 6) _ _).trans rfl
theorem zJk (O:Ok1 k c ro L):∀i,i < 8->(llE ro L i).length<=900
 | 0,_=>by
  have:=zBp (zFD O) 7 0;show (txF (wF ro L) 0 7).length<=900;omega
 | j + 1,h=>by
  have:=zBp (zFD O) (6 - j) (j + 1);show (xS (L j) (txF (wF ro L) (j + 1) (6 - j))).length<=900;unfold xS;split
  ·rw [List.length_cons]; omega
  ·omega
theorem s_3' (O:Ok1 k c ro L):kC (mkD la k c ro L) k=mkD la k c ro L:=by
 unfold kC;rw [zQm];rfl
theorem zHW (O:Ok1 k c ro L)(i:Nat):yH b P la l 330 [.int (Int.ofNat (ro i)),.int (Int.fmod (Int.fdiv (c 8) (p32 i)) 32)] [.ctab 332 false]=some (.str (strN (wF ro L i)),[.ctab 332 false]):=by
 rw [zK (by decide),O.h8 i];exact zR3 (O.hr i) (O.hL i)
theorem s4' (O:Ok1 k c ro L):exL b P l (mkD la k c ro L) 4 (lw4 (mkD la k c ro L))=some (.next,lw5 (mkD la k c ro L)):=
 s_4 (zHn (wF ro L)) (zM9 (zFD O)) (zHW O 0) (zHW O 1) (zHW O 2) (zHW O 3) (zHW O 4) (zHW O 5) (zHW O 6)
theorem deckOk' (O:Ok1 k c ro L):zLY (mkD la k c ro L):=by
 have z:∀j,j < 7->vJ (dd k j)=true/\xE (S "; ") [dd k j]=true:=fun j hj=>by
  have hk:=O.hk;rw [zEP k j hj];have q:=zFA (show k + j < 48 by omega);exact ⟨q.1,q.2.1⟩
 intro d hd;have hd:d∈[dd k 0,dd k 1,dd k 2,dd k 3,dd k 4,dd k 5,dd k 6]:=hd;simp only [List.mem_cons,List.not_mem_nil,or_false] at hd;rcases hd with rfl | rfl | rfl | rfl | rfl | rfl | rfl
 ·exact z 0 (by decide)
 ·exact z 1 (by decide)
 ·exact z 2 (by decide)
 ·exact z 3 (by decide)
 ·exact z 4 (by decide)
 ·exact z 5 (by decide)
 ·exact z 6 (by decide)
theorem s7' (O:Ok1 k c ro L):exL b P l (mkD la k c ro L) 7 (lw7 (mkD la k c ro L))=some (.next,lw8 (mkD la k c ro L) b P 1 (mkD la k c ro L).tx.cps.toList):=by
 refine s_7 ?_;rw [zK (by decide)];refine zMe b P _ ?_;have:=zBp (zFD O) 7 0;show (txF (wF ro L) 0 7).toArray.size<=1000;rw [List.size_toArray];omega
variable {D:LD}
theorem zRc:(ev (cf b P) 20).c (.val (.ref 131)) [.trk 1,.str (strN (fcN 0))] [] (kD D)=some (.str D.d0,kD D):=by kernel_rfl
theorem zSe:(ev (cf b P) 20).c (.val (.ref 131)) [.trk 1,.str (strN (fcN 1))] [] (kD D)=some (.str D.d1,kD D):=by kernel_rfl
theorem zRA:(ev (cf b P) 20).c (.val (.ref 131)) [.trk 1,.str (strN (fcN 2))] [] (kD D)=some (.str D.d2,kD D):=by kernel_rfl
theorem zSc:(ev (cf b P) 20).c (.val (.ref 131)) [.trk 1,.str (strN (fcN 3))] [] (kD D)=some (.str D.d3,kD D):=by kernel_rfl
theorem zRb:(ev (cf b P) 20).c (.val (.ref 131)) [.trk 1,.str (strN (fcN 4))] [] (kD D)=some (.str D.d4,kD D):=by kernel_rfl
theorem zRh:(ev (cf b P) 20).c (.val (.ref 131)) [.trk 1,.str (strN (fcN 5))] [] (kD D)=some (.str D.d5,kD D):=by kernel_rfl
theorem zSf:(ev (cf b P) 20).c (.val (.ref 131)) [.trk 1,.str (strN (fcN 6))] [] (kD D)=some (.str D.d6,kD D):=by kernel_rfl
theorem zOr (O:Ok1 k c ro L){j:Nat}(hj:j < 7):(ev (cf b P) 20).c (.val (.ref 131)) [.trk 1,.str (strN (fcN j))] [] (kD (mkD la k c ro L))=some (.str (dd k j),kD (mkD la k c ro L)):=by
 rcases zJt hj with rfl | rfl | rfl | rfl | rfl | rfl | rfl
 ·exact zRc (D:=mkD la k c ro L)
 ·exact zSe (D:=mkD la k c ro L)
 ·exact zRA (D:=mkD la k c ro L)
 ·exact zSc (D:=mkD la k c ro L)
 ·exact zRb (D:=mkD la k c ro L)
 ·exact zRh (D:=mkD la k c ro L)
 ·exact zSf (D:=mkD la k c ro L)
theorem s8' (O:Ok1 k c ro L):exL b P l (mkD la k c ro L) 8 (lw8 (mkD la k c ro L) b P ((mkE k ro L).ln 0) ((mkE k ro L).ll 0))=some (.next,lwH b P (mkD la k c ro L) (mkE k ro L) [] ((mkE k ro L).ln 7) ((mkE k ro L).ll 7)):=by
 refine s_8 fun i hi=>⟨?_,?_,?_⟩
 ·unfold pG
  rw [zK (by decide)];exact zNN (zSF O hi) (zJk O i (by omega))
 ·unfold pP
  rw [zK (by decide)];exact zR0 (O.hr i) (O.hL i)
 ·unfold pT
  rw [zK (by decide)];exact zOr O (O.hr i)
theorem s9' (O:Ok1 k c ro L){ln:Int}{ll:List Nat}:exL b P l (mkD la k c ro L) 9 (lwH b P (mkD la k c ro L) (mkE k ro L) [] ln ll)=some (.next,lwO b P (mkD la k c ro L) (mkE k ro L) [] ln ll):=
 s_9 (zCG O.hk (O.hr 0)) (zCG O.hk (O.hr 1)) (zCG O.hk (O.hr 2)) (zCG O.hk (O.hr 3)) (zCG O.hk (O.hr 4)) (zCG O.hk (O.hr 5)) (zCG O.hk (O.hr 6))
variable {E:LE}
theorem zSu {ln:Int}{ll:List Nat}:exL b P l D 10 (lwO b P D E [] ln ll)=some (.next,lwO b P D E [] ln ll ++ gbO D):=
 zD (ds:=[.ans 22 false]) (ps:=[(!(toP D).eqv (toP D))=false]) (by kernel_rfl) ⟨zLg,trivial⟩
theorem s11' (O:Ok1 k c ro L):exL b P l (mkD la k c ro L) 11 (lwO b P (mkD la k c ro L) (mkE k ro L) [] ((mkE k ro L).ln 7) ((mkE k ro L).ll 7) ++ gbO (mkD la k c ro L))=some (.next,lwO b P (mkD la k c ro L) (mkE k ro L) [] (lnT L 7) [] ++ gbO (mkD la k c ro L)):=by
 refine zSK ?_ ?_
 ·rw [zK (by decide)]
  exact zNN (zPO O) (zJk O 7 (by decide))
 ·have z:=zJd (W:=wF ro L) (L:=L) (fun i=>(zFR (O.hr i) (O.hL i)).2.1) 7 0
  rw [zOi,zKs];have z:lnT L 7=1 + (((mkD la k c ro L).tx.cps.toList.count 10:Nat):Int):=z;rw [z];simp
end
end Mine
end
end
section
noncomputable section
namespace Mine
section
variable {b:Bool} {P:Params} {l:List Int} {la:Addr} {k:Nat} {c:Nat->Int} {ro L:Nat->Nat} {D:LD} {E:LE}
theorem uT (O:Ok1 k c ro L)(t:Nat):UlIn (fun i=>dd k (ro (t + i))) (fun i=>Int.ofNat (7 + k) + Int.ofNat (ro (t + i))) (fun i=>(7 + k) + ro (t + i)) where
 num:=fun i=>rfl
 rv:=fun i=>zRK O.hk _
 ok:=fun i=>(zF4 O.hk).ok _
section
variable {r0 r1 r2 r3 r4 r5 r6:Nat}
abbrev roF (r0 r1 r2 r3 r4 r5 r6:Nat)(i:Nat):Nat:=(rl r0 r1 r2 r3 r4 r5 r6).getD i 0
theorem vX (O:Ok1 k c (roF r0 r1 r2 r3 r4 r5 r6) L):pU 1 0 b P l (mkD la k c (roF r0 r1 r2 r3 r4 r5 r6) L) (mkE k (roF r0 r1 r2 r3 r4 r5 r6) L) (uB 1 0 (rl r0 r1 r2 r3 r4 r5 r6)):=by
 have e:=kH (s:=1) (t:=0) (C:=7 + k) (rl r0 r1 r2 r3 r4 r5 r6) (by decide) (by decide) (Nat.le_of_ble_eq_true rfl);have z:=yS (s:=1) (b:=b) (P:=P) (g:=fun i=>dd k (roF r0 r1 r2 r3 r4 r5 r6 (0 + i))) (n:=fun i=>Int.ofNat (7 + k) + Int.ofNat (roF r0 r1 r2 r3 r4 r5 r6 (0 + i))) (nn:=fun i=>7 + k + roF r0 r1 r2 r3 r4 r5 r6 (0 + i)) (by decide) (by decide) (uT O 0);rw [<-e];exact (zK (by decide)).trans z
theorem zBX (O:Ok1 k c (roF r0 r1 r2 r3 r4 r5 r6) L):pU 1 1 b P l (mkD la k c (roF r0 r1 r2 r3 r4 r5 r6) L) (mkE k (roF r0 r1 r2 r3 r4 r5 r6) L) (uB 1 1 (rl r0 r1 r2 r3 r4 r5 r6)):=by
 have e:=kH (s:=1) (t:=1) (C:=7 + k) (rl r0 r1 r2 r3 r4 r5 r6) (by decide) (by decide) (Nat.le_of_ble_eq_true rfl);have z:=yS (s:=1) (b:=b) (P:=P) (g:=fun i=>dd k (roF r0 r1 r2 r3 r4 r5 r6 (1 + i))) (n:=fun i=>Int.ofNat (7 + k) + Int.ofNat (roF r0 r1 r2 r3 r4 r5 r6 (1 + i))) (nn:=fun i=>7 + k + roF r0 r1 r2 r3 r4 r5 r6 (1 + i)) (by decide) (by decide) (uT O 1);rw [<-e];exact (zK (by decide)).trans z
theorem zCh (O:Ok1 k c (roF r0 r1 r2 r3 r4 r5 r6) L):pU 1 2 b P l (mkD la k c (roF r0 r1 r2 r3 r4 r5 r6) L) (mkE k (roF r0 r1 r2 r3 r4 r5 r6) L) (uB 1 2 (rl r0 r1 r2 r3 r4 r5 r6)):=by
 have e:=kH (s:=1) (t:=2) (C:=7 + k) (rl r0 r1 r2 r3 r4 r5 r6) (by decide) (by decide) (Nat.le_of_ble_eq_true rfl);have z:=yS (s:=1) (b:=b) (P:=P) (g:=fun i=>dd k (roF r0 r1 r2 r3 r4 r5 r6 (2 + i))) (n:=fun i=>Int.ofNat (7 + k) + Int.ofNat (roF r0 r1 r2 r3 r4 r5 r6 (2 + i))) (nn:=fun i=>7 + k + roF r0 r1 r2 r3 r4 r5 r6 (2 + i)) (by decide) (by decide) (uT O 2);rw [<-e];exact (zK (by decide)).trans z
theorem zCf (O:Ok1 k c (roF r0 r1 r2 r3 r4 r5 r6) L):pU 1 3 b P l (mkD la k c (roF r0 r1 r2 r3 r4 r5 r6) L) (mkE k (roF r0 r1 r2 r3 r4 r5 r6) L) (uB 1 3 (rl r0 r1 r2 r3 r4 r5 r6)):=by
 have e:=kH (s:=1) (t:=3) (C:=7 + k) (rl r0 r1 r2 r3 r4 r5 r6) (by decide) (by decide) (Nat.le_of_ble_eq_true rfl);have z:=yS (s:=1) (b:=b) (P:=P) (g:=fun i=>dd k (roF r0 r1 r2 r3 r4 r5 r6 (3 + i))) (n:=fun i=>Int.ofNat (7 + k) + Int.ofNat (roF r0 r1 r2 r3 r4 r5 r6 (3 + i))) (nn:=fun i=>7 + k + roF r0 r1 r2 r3 r4 r5 r6 (3 + i)) (by decide) (by decide) (uT O 3);rw [<-e];exact (zK (by decide)).trans z
theorem zCg (O:Ok1 k c (roF r0 r1 r2 r3 r4 r5 r6) L):pU 1 4 b P l (mkD la k c (roF r0 r1 r2 r3 r4 r5 r6) L) (mkE k (roF r0 r1 r2 r3 r4 r5 r6) L) (uB 1 4 (rl r0 r1 r2 r3 r4 r5 r6)):=by
 have e:=kH (s:=1) (t:=4) (C:=7 + k) (rl r0 r1 r2 r3 r4 r5 r6) (by decide) (by decide) (Nat.le_of_ble_eq_true rfl);have z:=yS (s:=1) (b:=b) (P:=P) (g:=fun i=>dd k (roF r0 r1 r2 r3 r4 r5 r6 (4 + i))) (n:=fun i=>Int.ofNat (7 + k) + Int.ofNat (roF r0 r1 r2 r3 r4 r5 r6 (4 + i))) (nn:=fun i=>7 + k + roF r0 r1 r2 r3 r4 r5 r6 (4 + i)) (by decide) (by decide) (uT O 4);rw [<-e];exact (zK (by decide)).trans z
theorem zCe (O:Ok1 k c (roF r0 r1 r2 r3 r4 r5 r6) L):pU 1 5 b P l (mkD la k c (roF r0 r1 r2 r3 r4 r5 r6) L) (mkE k (roF r0 r1 r2 r3 r4 r5 r6) L) (uB 1 5 (rl r0 r1 r2 r3 r4 r5 r6)):=by
 have e:=kH (s:=1) (t:=5) (C:=7 + k) (rl r0 r1 r2 r3 r4 r5 r6) (by decide) (by decide) (Nat.le_of_ble_eq_true rfl);have z:=yS (s:=1) (b:=b) (P:=P) (g:=fun i=>dd k (roF r0 r1 r2 r3 r4 r5 r6 (5 + i))) (n:=fun i=>Int.ofNat (7 + k) + Int.ofNat (roF r0 r1 r2 r3 r4 r5 r6 (5 + i))) (nn:=fun i=>7 + k + roF r0 r1 r2 r3 r4 r5 r6 (5 + i)) (by decide) (by decide) (uT O 5);rw [<-e];exact (zK (by decide)).trans z
theorem uW (O:Ok1 k c (roF r0 r1 r2 r3 r4 r5 r6) L):pU 1 6 b P l (mkD la k c (roF r0 r1 r2 r3 r4 r5 r6) L) (mkE k (roF r0 r1 r2 r3 r4 r5 r6) L) (uB 1 6 (rl r0 r1 r2 r3 r4 r5 r6)):=by
 have e:=kH (s:=1) (t:=6) (C:=7 + k) (rl r0 r1 r2 r3 r4 r5 r6) (by decide) (by decide) (Nat.le_of_ble_eq_true rfl);have z:=yS (s:=1) (b:=b) (P:=P) (g:=fun i=>dd k (roF r0 r1 r2 r3 r4 r5 r6 (6 + i))) (n:=fun i=>Int.ofNat (7 + k) + Int.ofNat (roF r0 r1 r2 r3 r4 r5 r6 (6 + i))) (nn:=fun i=>7 + k + roF r0 r1 r2 r3 r4 r5 r6 (6 + i)) (by decide) (by decide) (uT O 6);rw [<-e];exact (zK (by decide)).trans z
theorem uJ (O:Ok1 k c (roF r0 r1 r2 r3 r4 r5 r6) L):pU 2 0 b P l (mkD la k c (roF r0 r1 r2 r3 r4 r5 r6) L) (mkE k (roF r0 r1 r2 r3 r4 r5 r6) L) (uB 2 0 (rl r0 r1 r2 r3 r4 r5 r6)):=by
 have e:=kH (s:=2) (t:=0) (C:=7 + k) (rl r0 r1 r2 r3 r4 r5 r6) (by decide) (by decide) (Nat.le_of_ble_eq_true rfl);have z:=yS (s:=2) (b:=b) (P:=P) (g:=fun i=>dd k (roF r0 r1 r2 r3 r4 r5 r6 (0 + i))) (n:=fun i=>Int.ofNat (7 + k) + Int.ofNat (roF r0 r1 r2 r3 r4 r5 r6 (0 + i))) (nn:=fun i=>7 + k + roF r0 r1 r2 r3 r4 r5 r6 (0 + i)) (by decide) (by decide) (uT O 0);rw [<-e];exact (zK (by decide)).trans z
theorem zB4 (O:Ok1 k c (roF r0 r1 r2 r3 r4 r5 r6) L):pU 2 2 b P l (mkD la k c (roF r0 r1 r2 r3 r4 r5 r6) L) (mkE k (roF r0 r1 r2 r3 r4 r5 r6) L) (uB 2 2 (rl r0 r1 r2 r3 r4 r5 r6)):=by
 have e:=kH (s:=2) (t:=2) (C:=7 + k) (rl r0 r1 r2 r3 r4 r5 r6) (by decide) (by decide) (Nat.le_of_ble_eq_true rfl);have z:=yS (s:=2) (b:=b) (P:=P) (g:=fun i=>dd k (roF r0 r1 r2 r3 r4 r5 r6 (2 + i))) (n:=fun i=>Int.ofNat (7 + k) + Int.ofNat (roF r0 r1 r2 r3 r4 r5 r6 (2 + i))) (nn:=fun i=>7 + k + roF r0 r1 r2 r3 r4 r5 r6 (2 + i)) (by decide) (by decide) (uT O 2);rw [<-e];exact (zK (by decide)).trans z
theorem uY (O:Ok1 k c (roF r0 r1 r2 r3 r4 r5 r6) L):pU 2 4 b P l (mkD la k c (roF r0 r1 r2 r3 r4 r5 r6) L) (mkE k (roF r0 r1 r2 r3 r4 r5 r6) L) (uB 2 4 (rl r0 r1 r2 r3 r4 r5 r6)):=by
 have e:=kH (s:=2) (t:=4) (C:=7 + k) (rl r0 r1 r2 r3 r4 r5 r6) (by decide) (by decide) (Nat.le_of_ble_eq_true rfl);have z:=yS (s:=2) (b:=b) (P:=P) (g:=fun i=>dd k (roF r0 r1 r2 r3 r4 r5 r6 (4 + i))) (n:=fun i=>Int.ofNat (7 + k) + Int.ofNat (roF r0 r1 r2 r3 r4 r5 r6 (4 + i))) (nn:=fun i=>7 + k + roF r0 r1 r2 r3 r4 r5 r6 (4 + i)) (by decide) (by decide) (uT O 4);rw [<-e];exact (zK (by decide)).trans z
theorem vU (O:Ok1 k c (roF r0 r1 r2 r3 r4 r5 r6) L):pU 3 0 b P l (mkD la k c (roF r0 r1 r2 r3 r4 r5 r6) L) (mkE k (roF r0 r1 r2 r3 r4 r5 r6) L) (uB 3 0 (rl r0 r1 r2 r3 r4 r5 r6)):=by
 have e:=kH (s:=3) (t:=0) (C:=7 + k) (rl r0 r1 r2 r3 r4 r5 r6) (by decide) (by decide) (Nat.le_of_ble_eq_true rfl);have z:=yS (s:=3) (b:=b) (P:=P) (g:=fun i=>dd k (roF r0 r1 r2 r3 r4 r5 r6 (0 + i))) (n:=fun i=>Int.ofNat (7 + k) + Int.ofNat (roF r0 r1 r2 r3 r4 r5 r6 (0 + i))) (nn:=fun i=>7 + k + roF r0 r1 r2 r3 r4 r5 r6 (0 + i)) (by decide) (by decide) (uT O 0);rw [<-e];exact (zK (by decide)).trans z
theorem zAh (O:Ok1 k c (roF r0 r1 r2 r3 r4 r5 r6) L):pU 3 3 b P l (mkD la k c (roF r0 r1 r2 r3 r4 r5 r6) L) (mkE k (roF r0 r1 r2 r3 r4 r5 r6) L) (uB 3 3 (rl r0 r1 r2 r3 r4 r5 r6)):=by
 have e:=kH (s:=3) (t:=3) (C:=7 + k) (rl r0 r1 r2 r3 r4 r5 r6) (by decide) (by decide) (Nat.le_of_ble_eq_true rfl);have z:=yS (s:=3) (b:=b) (P:=P) (g:=fun i=>dd k (roF r0 r1 r2 r3 r4 r5 r6 (3 + i))) (n:=fun i=>Int.ofNat (7 + k) + Int.ofNat (roF r0 r1 r2 r3 r4 r5 r6 (3 + i))) (nn:=fun i=>7 + k + roF r0 r1 r2 r3 r4 r5 r6 (3 + i)) (by decide) (by decide) (uT O 3);rw [<-e];exact (zK (by decide)).trans z
theorem wE (O:Ok1 k c (roF r0 r1 r2 r3 r4 r5 r6) L):pU 4 0 b P l (mkD la k c (roF r0 r1 r2 r3 r4 r5 r6) L) (mkE k (roF r0 r1 r2 r3 r4 r5 r6) L) (uB 4 0 (rl r0 r1 r2 r3 r4 r5 r6)):=by
 have e:=kH (s:=4) (t:=0) (C:=7 + k) (rl r0 r1 r2 r3 r4 r5 r6) (by decide) (by decide) (Nat.le_of_ble_eq_true rfl);have z:=yS (s:=4) (b:=b) (P:=P) (g:=fun i=>dd k (roF r0 r1 r2 r3 r4 r5 r6 (0 + i))) (n:=fun i=>Int.ofNat (7 + k) + Int.ofNat (roF r0 r1 r2 r3 r4 r5 r6 (0 + i))) (nn:=fun i=>7 + k + roF r0 r1 r2 r3 r4 r5 r6 (0 + i)) (by decide) (by decide) (uT O 0);rw [<-e];exact (zK (by decide)).trans z
theorem xX (O:Ok1 k c (roF r0 r1 r2 r3 r4 r5 r6) L):pU 5 0 b P l (mkD la k c (roF r0 r1 r2 r3 r4 r5 r6) L) (mkE k (roF r0 r1 r2 r3 r4 r5 r6) L) (uB 5 0 (rl r0 r1 r2 r3 r4 r5 r6)):=by
 have e:=kH (s:=5) (t:=0) (C:=7 + k) (rl r0 r1 r2 r3 r4 r5 r6) (by decide) (by decide) (Nat.le_of_ble_eq_true rfl);have z:=yS (s:=5) (b:=b) (P:=P) (g:=fun i=>dd k (roF r0 r1 r2 r3 r4 r5 r6 (0 + i))) (n:=fun i=>Int.ofNat (7 + k) + Int.ofNat (roF r0 r1 r2 r3 r4 r5 r6 (0 + i))) (nn:=fun i=>7 + k + roF r0 r1 r2 r3 r4 r5 r6 (0 + i)) (by decide) (by decide) (uT O 0);rw [<-e];exact (zK (by decide)).trans z
theorem wC (O:Ok1 k c (roF r0 r1 r2 r3 r4 r5 r6) L):pU 6 0 b P l (mkD la k c (roF r0 r1 r2 r3 r4 r5 r6) L) (mkE k (roF r0 r1 r2 r3 r4 r5 r6) L) (uB 6 0 (rl r0 r1 r2 r3 r4 r5 r6)):=by
 have e:=kH (s:=6) (t:=0) (C:=7 + k) (rl r0 r1 r2 r3 r4 r5 r6) (by decide) (by decide) (Nat.le_of_ble_eq_true rfl);have z:=yS (s:=6) (b:=b) (P:=P) (g:=fun i=>dd k (roF r0 r1 r2 r3 r4 r5 r6 (0 + i))) (n:=fun i=>Int.ofNat (7 + k) + Int.ofNat (roF r0 r1 r2 r3 r4 r5 r6 (0 + i))) (nn:=fun i=>7 + k + roF r0 r1 r2 r3 r4 r5 r6 (0 + i)) (by decide) (by decide) (uT O 0);rw [<-e];exact (zK (by decide)).trans z
theorem xJ (O:Ok1 k c (roF r0 r1 r2 r3 r4 r5 r6) L):pU 7 0 b P l (mkD la k c (roF r0 r1 r2 r3 r4 r5 r6) L) (mkE k (roF r0 r1 r2 r3 r4 r5 r6) L) (uB 7 0 (rl r0 r1 r2 r3 r4 r5 r6)):=by
 have e:=kH (s:=7) (t:=0) (C:=7 + k) (rl r0 r1 r2 r3 r4 r5 r6) (by decide) (by decide) (Nat.le_of_ble_eq_true rfl);have z:=yS (s:=7) (b:=b) (P:=P) (g:=fun i=>dd k (roF r0 r1 r2 r3 r4 r5 r6 (0 + i))) (n:=fun i=>Int.ofNat (7 + k) + Int.ofNat (roF r0 r1 r2 r3 r4 r5 r6 (0 + i))) (nn:=fun i=>7 + k + roF r0 r1 r2 r3 r4 r5 r6 (0 + i)) (by decide) (by decide) (uT O 0);rw [<-e];exact (zK (by decide)).trans z
theorem q_1 (O:Ok1 k c (roF r0 r1 r2 r3 r4 r5 r6) L):qN 1 (mkD la k c (roF r0 r1 r2 r3 r4 r5 r6) L)=qB 1 (rl r0 r1 r2 r3 r4 r5 r6):=by
 have h:∀i,roF r0 r1 r2 r3 r4 r5 r6 i < 7:=O.hr;exact zHw 1 r0 [] (h 0) (fun x hx=>by cases hx)
theorem q_2 (O:Ok1 k c (roF r0 r1 r2 r3 r4 r5 r6) L):qN 2 (mkD la k c (roF r0 r1 r2 r3 r4 r5 r6) L)=qB 2 (rl r0 r1 r2 r3 r4 r5 r6):=by
 have h:∀i,roF r0 r1 r2 r3 r4 r5 r6 i < 7:=O.hr;exact zHw 2 r0 [r1] (h 0) (fun x hx=>by simp only [List.mem_cons,List.not_mem_nil,or_false] at hx; rcases hx with rfl <;>first | exact h 1)
theorem q_3 (O:Ok1 k c (roF r0 r1 r2 r3 r4 r5 r6) L):qN 3 (mkD la k c (roF r0 r1 r2 r3 r4 r5 r6) L)=qB 3 (rl r0 r1 r2 r3 r4 r5 r6):=by
 have h:∀i,roF r0 r1 r2 r3 r4 r5 r6 i < 7:=O.hr;exact zHw 3 r0 [r1,r2] (h 0) (fun x hx=>by simp only [List.mem_cons,List.not_mem_nil,or_false] at hx; rcases hx with rfl | rfl <;>first | exact h 1 | exact h 2)
theorem q_4 (O:Ok1 k c (roF r0 r1 r2 r3 r4 r5 r6) L):qN 4 (mkD la k c (roF r0 r1 r2 r3 r4 r5 r6) L)=qB 4 (rl r0 r1 r2 r3 r4 r5 r6):=by
 have h:∀i,roF r0 r1 r2 r3 r4 r5 r6 i < 7:=O.hr;exact zHw 4 r0 [r1,r2,r3] (h 0) (fun x hx=>by simp only [List.mem_cons,List.not_mem_nil,or_false] at hx; rcases hx with rfl | rfl | rfl <;>first | exact h 1 | exact h 2 | exact h 3)
theorem q_5 (O:Ok1 k c (roF r0 r1 r2 r3 r4 r5 r6) L):qN 5 (mkD la k c (roF r0 r1 r2 r3 r4 r5 r6) L)=qB 5 (rl r0 r1 r2 r3 r4 r5 r6):=by
 have h:∀i,roF r0 r1 r2 r3 r4 r5 r6 i < 7:=O.hr;exact zHw 5 r0 [r1,r2,r3,r4] (h 0) (fun x hx=>by simp only [List.mem_cons,List.not_mem_nil,or_false] at hx; rcases hx with rfl | rfl | rfl | rfl <;>first | exact h 1 | exact h 2 | exact h 3 | exact h 4)
theorem q_6 (O:Ok1 k c (roF r0 r1 r2 r3 r4 r5 r6) L):qN 6 (mkD la k c (roF r0 r1 r2 r3 r4 r5 r6) L)=qB 6 (rl r0 r1 r2 r3 r4 r5 r6):=by
 have h:∀i,roF r0 r1 r2 r3 r4 r5 r6 i < 7:=O.hr;exact zHw 6 r0 [r1,r2,r3,r4,r5] (h 0) (fun x hx=>by simp only [List.mem_cons,List.not_mem_nil,or_false] at hx; rcases hx with rfl | rfl | rfl | rfl | rfl <;>first | exact h 1 | exact h 2 | exact h 3 | exact h 4 | exact h 5)
theorem q_7 (O:Ok1 k c (roF r0 r1 r2 r3 r4 r5 r6) L):qN 7 (mkD la k c (roF r0 r1 r2 r3 r4 r5 r6) L)=qB 7 (rl r0 r1 r2 r3 r4 r5 r6):=by
 have h:∀i,roF r0 r1 r2 r3 r4 r5 r6 i < 7:=O.hr;exact zHw 7 r0 [r1,r2,r3,r4,r5,r6] (h 0) (fun x hx=>by simp only [List.mem_cons,List.not_mem_nil,or_false] at hx; rcases hx with rfl | rfl | rfl | rfl | rfl | rfl <;>first | exact h 1 | exact h 2 | exact h 3 | exact h 4 | exact h 5 | exact h 6)
theorem s15' (O:Ok1 k c (roF r0 r1 r2 r3 r4 r5 r6) L){ln:Int}:(ev (cl b P la l) 34).x (qE b P) (yO b P) (lwV b P (mkD la k c (roF r0 r1 r2 r3 r4 r5 r6) L) (mkE k (roF r0 r1 r2 r3 r4 r5 r6) L) true true true [] ln [])=some (.next,lwV b P (mkD la k c (roF r0 r1 r2 r3 r4 r5 r6) L) (mkE k (roF r0 r1 r2 r3 r4 r5 r6) L) (tB (rl r0 r1 r2 r3 r4 r5 r6)) (bB (rl r0 r1 r2 r3 r4 r5 r6)) (nB (rl r0 r1 r2 r3 r4 r5 r6)) [(S "size",.int 7),(S "start",.int 0),(S "unlike",.bool (uB 7 0 (rl r0 r1 r2 r3 r4 r5 r6)))] ln []):=
 zSz (D:=mkD la k c (roF r0 r1 r2 r3 r4 r5 r6) L) (q_1 O) (q_2 O) (q_3 O) (q_4 O) (q_5 O) (q_6 O) (q_7 O) (vX O) (zBX O) (zCh O) (zCf O) (zCg O) (zCe O) (uW O) (uJ O) (zB4 O) (uY O) (vU O) (zAh O) (wE O) (xX O) (wC O) (xJ O)
theorem zSr (O:Ok1 k c (roF r0 r1 r2 r3 r4 r5 r6) L)(hr:rl r0 r1 r2 r3 r4 r5 r6∈rowsK 7):Heard (dd k) (fun i=>dd k (roF r0 r1 r2 r3 r4 r5 r6 i)) r0 r1 r2 r3 r4 r5 r6:=⟨hr,rfl,rfl,rfl,rfl,rfl,rfl,rfl,fun i=>(zF4 O.hk).ok _⟩
theorem s16' (O:Ok1 k c (roF r0 r1 r2 r3 r4 r5 r6) L)(hr:rl r0 r1 r2 r3 r4 r5 r6∈rowsK 7){ln:Int}:exL b P l (mkD la k c (roF r0 r1 r2 r3 r4 r5 r6) L) 16 (lwV b P (mkD la k c (roF r0 r1 r2 r3 r4 r5 r6) L) (mkE k (roF r0 r1 r2 r3 r4 r5 r6) L) (tB (rl r0 r1 r2 r3 r4 r5 r6)) (bB (rl r0 r1 r2 r3 r4 r5 r6)) (nB (rl r0 r1 r2 r3 r4 r5 r6)) [(S "size",.int 7),(S "start",.int 0),(S "unlike",.bool (uB 7 0 (rl r0 r1 r2 r3 r4 r5 r6)))] ln [])=
  some (.ret (.bool true),lwV b P (mkD la k c (roF r0 r1 r2 r3 r4 r5 r6) L) (mkE k (roF r0 r1 r2 r3 r4 r5 r6) L) (tB (rl r0 r1 r2 r3 r4 r5 r6)) (bB (rl r0 r1 r2 r3 r4 r5 r6)) (nB (rl r0 r1 r2 r3 r4 r5 r6)) [(S "size",.int 7),(S "start",.int 0),(S "unlike",.bool (uB 7 0 (rl r0 r1 r2 r3 r4 r5 r6)))] ln []):=by
 obtain ⟨e1,e2,e3⟩:=zMZ hr;have z:=zMU (b:=b) (P:=P) (d:=dd k) (h:=fun i=>dd k (roF r0 r1 r2 r3 r4 r5 r6 i)) (zF4 O.hk) (zSr O hr);exact zTo (l:=l) (D:=mkD la k c (roF r0 r1 r2 r3 r4 r5 r6) L) (E:=mkE k (roF r0 r1 r2 r3 r4 r5 r6) L) (v:=gB (rl r0 r1 r2 r3 r4 r5 r6)) e1 e2 e3 ((zK (by decide)).trans z)
theorem zHP {r:Rec}{m:Nat}{body:List Stmt}{ae:AE}{σ σ₂:Sto}{v:V}(h:evs r body ae σ=some (.ret v,σ₂)):yR r m body ae σ=some (gcv m v σ₂):=by
 unfold yR;rw [h]
theorem zM5 (O:Ok1 k c (roF r0 r1 r2 r3 r4 r5 r6) L)(hr:rl r0 r1 r2 r3 r4 r5 r6∈rowsK 7)(h1:yH b P la l 304 [.val (.ref la)] [.ctab 332 false]=some (.trk 1,[.ctab 332 false,.list (csL c)]))
  (h2:yH b P la l 309 [.trk 1] [.ctab 332 false,.list (csL c)]=some (.trk 2,[.ctab 332 false,.list (csL c),.list [.int (rr (rl r0 r1 r2 r3 r4 r5 r6) 0),.int (rr (rl r0 r1 r2 r3 r4 r5 r6) 1),.int (rr (rl r0 r1 r2 r3 r4 r5 r6) 2),.int (rr (rl r0 r1 r2 r3 r4 r5 r6) 3),.int (rr (rl r0 r1 r2 r3 r4 r5 r6) 4),.int (rr (rl r0 r1 r2 r3 r4 r5 r6) 5),.int (rr (rl r0 r1 r2 r3 r4 r5 r6) 6)]])):
  (ev (cl b P la l) 35).c (.val (.ref 357)) [.val (.ref la)] [] [.ctab 332 false]=some (.bool true,[.ctab 332 true]):=by
 have z:evs (ev (cl b P la l) 34) (lwB b P) (yO b P) (lw1 (mkD la k c (roF r0 r1 r2 r3 r4 r5 r6) L))=some (.ret (.bool true),lwV b P (mkD la k c (roF r0 r1 r2 r3 r4 r5 r6) L) (mkE k (roF r0 r1 r2 r3 r4 r5 r6) L) (tB (rl r0 r1 r2 r3 r4 r5 r6)) (bB (rl r0 r1 r2 r3 r4 r5 r6)) (nB (rl r0 r1 r2 r3 r4 r5 r6)) [(S "size",.int 7),(S "start",.int 0),(S "unlike",.bool (uB 7 0 (rl r0 r1 r2 r3 r4 r5 r6)))] (lnT L 7) []):=by
  rw [zN7];refine (zG (zQ8 (D:=mkD la k c (roF r0 r1 r2 r3 r4 r5 r6) L) O.h0 h1 h2)).trans ?_;refine (zG (s_3 O.hk (s_3' O))).trans ?_;refine (zG (s4' O)).trans ?_;refine (zG (zTD (deckOk' O))).trans ?_;refine (zG (s7' O)).trans ?_;refine (zG (s8' O)).trans ?_;refine (zG (s9' O)).trans ?_;refine (zG (zSu)).trans ?_;refine (zG (s11' O)).trans ?_;refine (zG (zQi)).trans ?_;refine (zDl (s15' O)).trans ?_;exact s16' O hr
 refine (zLE (D:=mkD la k c (roF r0 r1 r2 r3 r4 r5 r6) L)).trans ?_;exact (zHP z).trans (congrArg some zNK)
end
end
theorem zMW (x:Int)(n:Nat)(h:0 < n):Int.fmod x n=Int.ofNat (Int.fmod x n).toNat/\(Int.fmod x n).toNat < n:=by
 rw [Int.fmod_eq_emod_of_nonneg x (by omega)];have b1:=Int.emod_nonneg x (show (n:Int)≠0 by omega);have b2:=Int.emod_lt_of_pos x (show (0:Int) < n by omega);exact ⟨(Int.toNat_of_nonneg b1).symm,by omega⟩
theorem zSj:PySem.Challenge.rw_sh0076_01.Holds:=zGW fun w l la vs hl hv hn=>by
 obtain ⟨cs,hc1,hc2⟩:=zL2 (bO w) w.params false l hl;obtain ⟨c0,c1,c2,c3,c4,c5,c6,c7,c8,rfl⟩:∃c0 c1 c2 c3 c4 c5 c6 c7 c8:Int,cs=[c0,c1,c2,c3,c4,c5,c6,c7,c8]:=by
  match cs,hc1 with
  | [c0,c1,c2,c3,c4,c5,c6,c7,c8],_=>exact ⟨c0,c1,c2,c3,c4,c5,c6,c7,c8,rfl⟩
 generalize hc:(fun i=>[c0,c1,c2,c3,c4,c5,c6,c7,c8].getD i 0)=c;have hc2:(ev (cf (bO w) w.params) 20).c (.val (.ref 304)) [.lst (l.map .int)] [] [.ctab 332 false]=some (.trk 1,[.ctab 332 false,.list (csL c)]):=by
  rw [<-hc];exact hc2
 obtain ⟨l7,hr,hrow⟩:=zOF (b:=bO w) (P:=w.params) c;obtain ⟨r0,r1,r2,r3,r4,r5,r6,rfl⟩:∃r0 r1 r2 r3 r4 r5 r6:Nat,l7=rl r0 r1 r2 r3 r4 r5 r6:=by
  match l7,(kY 7 l7 hr).1 with
  | [r0,r1,r2,r3,r4,r5,r6],_=>exact ⟨r0,r1,r2,r3,r4,r5,r6,rfl⟩
 have O:Ok1 (Int.fmod (c 0) (42:Nat)).toNat c (roF r0 r1 r2 r3 r4 r5 r6) (fun i=>(Int.fmod (Int.fdiv (c 8) (p32 i)) (32:Nat)).toNat):=by
  refine ⟨(zMW _ 42 (by decide)).2,fun i=>?_,fun i=>(zMW _ 32 (by decide)).2,?_,fun i=>(zMW _ 32 (by decide)).1⟩
  ·by_cases hi:i < 7
   ·refine zMG hr _ ?_
    have:i < (rl r0 r1 r2 r3 r4 r5 r6).length:=hi;unfold roF;rw [List.getD_eq_getElem?_getD,List.getElem?_eq_getElem this];exact List.getElem_mem this
   ·unfold roF
    rw [List.getD_eq_getElem?_getD,List.getElem?_eq_none (by show 7<=i; omega)];decide
  ·have z:=(zMW (c 0) 42 (by decide)).1
   have z:Int.fmod (c 0) 42=Int.ofNat (Int.fmod (c 0) (42:Nat)).toNat:=z;rw [z];rfl
 refine ⟨_,_,45,35,true,[.ctab 332 true],zPZ hv hn,⟨rfl,by decide +kernel,by decide +kernel⟩,?_,rfl⟩;exact zM5 O hr (zLr.trans hc2) ((zK (by decide)).trans hrow)
end Mine
end
end
theorem PySem.Challenge.cw_sh0076_01_holds : PySem.Challenge.rw_sh0076_01.Holds :=
  Mine.zSj
