import PyProof.Rows.All
import Wide.All
import OpenK.AllK
import Wide.FinOn
import PySem.Challenge.RW_ny0267_01
set_option Elab.async false
set_option linter.unusedSimpArgs false
set_option linter.unusedVariables false
set_option maxRecDepth 100000
set_option tactic.hygienic false
set_option genSizeOf false
set_option genInjectivity false
set_option compiler.extract_closed false
set_option maxHeartbeats 8000000
section
open PySem PySem.W PyProof.Rows
set_option maxHeartbeats 0
namespace Mine
noncomputable abbrev so:=Str.ofString
noncomputable def sj (l:List String):Str:=⟨(l.flatMap fun x=>(so x).cps.toList).toArray⟩
noncomputable abbrev dk (P:Params) (x:String) (n:Nat) (v:Value):DictEntry:=DictEntry.mk (PyData.keyHash P (Str.ofString x)) (Value.str (Str.ofString x) n) v
noncomputable def S0 (P:Params):Heap:=Heap.mk (Array.mk [
boot_o_0 P,
 Obj.mk (Value.type "dict") none (Data.dict #[dk P "builtins" 162 (Value.ref 4),dk P "__main__" 163 (Value.ref 5),dk P "_sre" 244 (Value.ref 12)] 3) #[],
 Obj.mk Value.none none (Data.dict #[dk P "\x69mport.loaded._sre" 183 (Value.bool true),dk P "class._frozen_importlib.BuiltinImporter" 185 (Value.ref 14),dk P "watched.\x69mport" 206 (Value.ref 18),dk P "class._frozen_importlib.ModuleSpec" 216 (Value.ref 22),dk P "sys.modules.booked-epoch" 245 (Value.int 3 0),dk P "\x69mport.later-laid._sre" 270 (Value.bool true),dk P "watched.library" 272 (Value.ref 27),dk P "watched.library-objects" 0 (Value.str (so "\x0c") 0),dk P "watched.library-deep._sre" 273 (Value.str (so "\x04\x00\x00\x0b\x04\x00\x00\x0b\x04\x00\x00\x03\x04\x00\x00\x0b\x08\x04dict\x02") 0)] 9) #[],
 Obj.mk (Value.type "dict") none (Data.dict #[dk P "__name__" 165 (Value.str (so "__main__") 164),dk P "__doc__" 166 Value.none,dk P "__package__" 167 Value.none,dk P "__loader__" 168 (Value.builtin "__main__.__loader__#opaque"),dk P "__spec__" 169 Value.none,dk P "__annotations__" 170 (Value.ref 6),dk P "__builtins__" 171 (Value.ref 4),dk P "__file__" 173 (Value.str (so "/claim/cut.py") 172),dk P "__cached__" 174 Value.none,dk P "_sre" 275 (Value.ref 12)] 10) #[],
 boot_o_4 P,
 boot_o_5 P,
 boot_o_6 P,
 boot_o_7 P,
 boot_o_8 P,
 boot_o_9 P,
 boot_o_10 P,
 Obj.mk (Value.type "dict") none (Data.dict #[dk P "__name__" 247 (Value.str (so "_sre") 246),dk P "__doc__" 248 Value.none,dk P "__package__" 250 (Value.str (so "") 249),dk P "__loader__" 251 (Value.builtin "off-the-table:_sre.__loader__:shared#opaque"),dk P "__spec__" 252 (Value.builtin "off-the-table:_sre.__spec__:shared#opaque"),dk P "compile" 253 (Value.builtin "_sre.compile"),dk P "template" 254 (Value.builtin "off-the-table:_sre.template:shared#opaque"),dk P "getcodesize" 255 (Value.builtin "off-the-table:_sre.getcodesize:shared#opaque"),dk P "ascii_iscased" 256 (Value.builtin "off-the-table:_sre.ascii_iscased:shared#opaque"),dk P "unicode_iscased" 257 (Value.builtin "off-the-table:_sre.unicode_iscased:shared#opaque"),dk P "ascii_tolower" 258 (Value.builtin "off-the-table:_sre.ascii_tolower:shared#opaque"),dk P "unicode_tolower" 259 (Value.builtin "off-the-table:_sre.unicode_tolower:shared#opaque"),dk P "MAGIC" 261 (Value.int 20230612 260),dk P "CODESIZE" 263 (Value.int 4 262),dk P "MAXREPEAT" 265 (Value.int 4294967295 264),dk P "MAXGROUPS" 267 (Value.int 1073741823 266),dk P "copyright" 269 (Value.str (so " SRE 2.2.2 Copyright (c) 1997-2002 by Secret Labs AB ") 268)] 17) #[],
 Obj.mk (Value.type "module") (some 11) Data.plain #[],
 Obj.mk (Value.type "dict") none (Data.dict #[dk P "__module__" 189 (Value.str (so "_frozen_importlib") 186),dk P "__firstlineno__" 190 (Value.int 971 187),dk P "__doc__" 191 (Value.builtin "_frozen_importlib.BuiltinImporter.__doc__:str#opaque"),dk P "_ORIGIN" 192 (Value.str (so "built-in") 188),dk P "find_spec" 193 (Value.builtin "_frozen_importlib.BuiltinImporter.find_spec#opaque"),dk P "create_module" 194 (Value.builtin "_frozen_importlib.BuiltinImporter.create_module#opaque"),dk P "exec_module" 195 (Value.builtin "_frozen_importlib.BuiltinImporter.exec_module#opaque"),dk P "get_code" 196 (Value.builtin "_frozen_importlib.BuiltinImporter.get_code#opaque"),dk P "get_source" 197 (Value.builtin "_frozen_importlib.BuiltinImporter.get_source#opaque"),dk P "is_package" 198 (Value.builtin "_frozen_importlib.BuiltinImporter.is_package#opaque"),dk P "load_module" 199 (Value.builtin "_frozen_importlib.BuiltinImporter.load_module#opaque"),dk P "__static_attributes__" 200 (Value.ref 15),dk P "__dict__" 202 (Value.ref 16),dk P "__weakref__" 204 (Value.ref 17)] 14) #[],
 Obj.mk (Value.type "type") none (Data.cls (ClassData.mk (so "BuiltinImporter") [Value.type "object"] [Value.ref 14,Value.type "object"] 13 (so "BuiltinImporter") true [] [] false none false)) #[],
 Obj.mk (Value.type "tuple") none (Data.seq #[]) #[],
 Obj.mk (Value.type "getset_descriptor") none (Data.fields #[Value.str (so "__dict__") 201,Value.ref 14,Value.builtin "function.__dict__",Value.builtin "function.__dict__#set"]) #[],
 Obj.mk (Value.type "getset_descriptor") none (Data.fields #[Value.str (so "__weakref__") 203,Value.ref 14,Value.builtin "ExceptionGroup.__weakref__",Value.none]) #[],
 Obj.mk Value.none none (Data.seq #[Value.int 13 0,Value.str (sj ["\x06½\n__module__\x06º\x11_frozen_impo", "rtlib\x06¾\x0f__firstlineno__\x04»\x00ϋ\x06", "¿\x07__doc__\t4_frozen_importlib", ".BuiltinImporter.__doc__:str", "#opaque\x06À\x07_ORIGIN\x06¼\x08built-in", "\x06Á\tfind_spec\t2_frozen_import", "lib.BuiltinImporter.find_spe", "c#opaque\x06Â\x0dcreate_module\t6_f", "rozen_importlib.BuiltinImpor", "ter.create_module#opaque\x06Ã\x0be", "xec_module\t4_frozen_importli", "b.BuiltinImporter.exec_modul", "e#opaque\x06Ä\x08get_code\t1_frozen", "_importlib.BuiltinImporter.g", "et_code#opaque\x06Å\nget_source\t", "3_frozen_importlib.BuiltinIm", "porter.get_source#opaque\x06Æ\ni", "s_package\t3_frozen_importlib", ".BuiltinImporter.is_package#", "opaque\x06Ç\x0bload_module\t4_froze", "n_importlib.BuiltinImporter.", "load_module#opaque\x06È\x15__stati", "c_attributes__\x04\x00\x00\x0f\x06Ê\x08__dict_", "_\x04\x00\x00\x10\x06Ì\x0b__weakref__\x04\x00\x00\x11"]) 0,Value.bool true,Value.bool true,Value.str (so "") 205,Value.int 21 0,Value.str (sj ["\x06ã\n__module__\x06Ù\x11_frozen_impo", "rtlib\x06ä\x0f__firstlineno__\x04Ú\x00Ȳ\x06", "å\x07__doc__\t/_frozen_importlib", ".ModuleSpec.__doc__:str#opaq", "ue\x06æ\x08__init__\t,_frozen_impor", "tlib.ModuleSpec.__init__#opa", "que\x06ç\x08__repr__\t,_frozen_impo", "rtlib.ModuleSpec.__repr__#op", "aque\x06è\x06__eq__\t*_frozen_impor", "tlib.ModuleSpec.__eq__#opaqu", "e\x06é\x06cached\t*_frozen_importli", "b.ModuleSpec.cached#opaque\x06ê", "\x06parent\t*_frozen_importlib.M", "oduleSpec.parent#opaque\x06ë\x0cha", "s_location\t0_frozen_importli", "b.ModuleSpec.has_location#op", "aque\x06ì\x15__static_attributes__", "\x04\x00\x00\x17\x06î\x08__dict__\x04\x00\x00\x18\x06ð\x0b__weak", "ref__\x04\x00\x00\x19\x06ñ\x08__hash__\x00"]) 0,Value.bool true,Value.bool true,Value.str (so "") 242] 1) #[],
 Obj.mk (Value.type "list") none (Data.seq #[]) #[],
 Obj.mk (Value.type "dict") none (Data.dict #[dk P "name" 208 (Value.str (so "_sre") 207),dk P "loader" 209 (Value.ref 14),dk P "origin" 210 (Value.str (so "built-in") 184),dk P "loader_state" 211 Value.none,dk P "submodule_search_locations" 212 Value.none,dk P "_uninitialized_submodules" 213 (Value.ref 19),dk P "_set_fileattr" 214 (Value.bool false),dk P "_cached" 215 Value.none,dk P "_initializing" 243 (Value.bool false)] 9) #[],
 Obj.mk (Value.type "dict") none (Data.dict #[dk P "__module__" 227 (Value.str (so "_frozen_importlib") 217),dk P "__firstlineno__" 228 (Value.int 562 218),dk P "__doc__" 229 (Value.builtin "_frozen_importlib.ModuleSpec.__doc__:str#opaque"),dk P "__init__" 230 (Value.builtin "_frozen_importlib.ModuleSpec.__init__#opaque"),dk P "__repr__" 231 (Value.builtin "_frozen_importlib.ModuleSpec.__repr__#opaque"),dk P "__eq__" 232 (Value.builtin "_frozen_importlib.ModuleSpec.__eq__#opaque"),dk P "cached" 233 (Value.builtin "_frozen_importlib.ModuleSpec.cached#opaque"),dk P "parent" 234 (Value.builtin "_frozen_importlib.ModuleSpec.parent#opaque"),dk P "has_location" 235 (Value.builtin "_frozen_importlib.ModuleSpec.has_location#opaque"),dk P "__static_attributes__" 236 (Value.ref 23),dk P "__dict__" 238 (Value.ref 24),dk P "__weakref__" 240 (Value.ref 25),dk P "__hash__" 241 Value.none] 13) #[],
 Obj.mk (Value.type "type") none (Data.cls (ClassData.mk (so "ModuleSpec") [Value.type "object"] [Value.ref 22,Value.type "object"] 21 (so "ModuleSpec") true [] [] false none false)) #[],
 Obj.mk (Value.type "tuple") none (Data.seq #[Value.str (so "_cached") 219,Value.str (so "_set_fileattr") 220,Value.str (so "_uninitialized_submodules") 221,Value.str (so "loader") 222,Value.str (so "loader_state") 223,Value.str (so "name") 224,Value.str (so "origin") 225,Value.str (so "submodule_search_locations") 226]) #[],
 Obj.mk (Value.type "getset_descriptor") none (Data.fields #[Value.str (so "__dict__") 237,Value.ref 22,Value.builtin "function.__dict__",Value.builtin "function.__dict__#set"]) #[],
 Obj.mk (Value.type "getset_descriptor") none (Data.fields #[Value.str (so "__weakref__") 239,Value.ref 22,Value.builtin "ExceptionGroup.__weakref__",Value.none]) #[],
 Obj.mk (Value.ref 22) (some 20) Data.plain #[],
 Obj.mk Value.none none (Data.seq #[Value.int 11 0,Value.str (Str.mk #[6,247,8,95,95,110,97,109,101,95,95,6,246,4,95,115,114,101,6,248,7,95,95,100,111,99,95,95,0,6,250,11,95,95,112,97,99,107,97,103,101,95,95,6,249,0,6,251,10,95,95,108,111,97,100,101,114,95,95,4,0,0,14,6,252,8,95,95,115,112,101,99,95,95,4,0,0,26,6,253,7,99,111,109,112,105,108,101,9,12,95,115,114,101,46,99,111,109,112,105,108,101,6,254,8,116,101,109,112,108,97,116,101,9,13,95,115,114,101,46,116,101,109,112,108,97,116,101,6,255,11,103,101,116,99,111,100,101,115,105,122,101,9,16,95,115,114,101,46,103,101,116,99,111,100,101,115,105,122,101,6,256,13,97,115,99,105,105,95,105,115,99,97,115,101,100,9,18,95,115,114,101,46,97,115,99,105,105,95,105,115,99,97,115,101,100,6,257,15,117,110,105,99,111,100,101,95,105,115,99,97,115,101,100,9,20,95,115,114,101,46,117,110,105,99,111,100,101,95,105,115,99,97,115,101,100,6,258,13,97,115,99,105,105,95,116,111,108,111,119,101,114,9,18,95,115,114,101,46,97,115,99,105,105,95,116,111,108,111,119,101,114,6,259,15,117,110,105,99,111,100,101,95,116,111,108,111,119,101,114,9,20,95,115,114,101,46,117,110,105,99,111,100,101,95,116,111,108,111,119,101,114,6,261,5,77,65,71,73,67,4,260,0,20230612,6,263,8,67,79,68,69,83,73,90,69,4,262,0,4,6,265,9,77,65,88,82,69,80,69,65,84,4,264,0,4294967295,6,267,9,77,65,88,71,82,79,85,80,83,4,266,0,1073741823,6,269,9,99,111,112,121,114,105,103,104,116,6,268,53,32,83,82,69,32,50,46,50,46,50,32,67,111,112,121,114,105,103,104,116,32,40,99,41,32,49,57,57,55,45,50,48,48,50,32,98,121,32,83,101,99,114,101,116,32,76,97,98,115,32,65,66,32]) 0,Value.bool true,Value.bool false,Value.str (so "_sre") 271]) #[]
]) {}
noncomputable def vw:Program:={ PySem.Challenge.pw_ny0267_01 with main:={ PySem.Challenge.pw_ny0267_01.main with body:=PySem.Challenge.pw_ny0267_01.main.body.drop 28 } }
noncomputable def loo:List Str:=["_wall", "TOMLDecodeError", "skip_until", "suffixed_err", "_NODE_OUT", "_NODE_DONE", "_NodeInfo", "CycleError", "TopologicalSorter", "_twin_re_1", "_find_unsafe", "quote", "_law_words", "_law_bare", "_law_text", "_law_places", "_law_found", "_law_until", "_law_until_due", "_law_untils", "_law_due", "_law_rounds", "_law_plan", "_sre"].map Str.ofString
noncomputable def xt (s:Shared):Bool:=xlAt vw [] s && recOk (RowW.records PySem.Challenge.rw_ny0267_01.row.toRowW) s
theorem Ko1:∀ w:World,(fencedOpening treeTable PySem.Challenge.pw_ny0267_01 w 3748).map (fun s=>(s.heap,s.gens,s.drawn,s.toks)) = some (S0 w.params,Array.mk [],{},276):=fun w=>by
 first | (unfold fencedOpening; rw [Fast.te10274390034422433532,Fast.te1435165496053646825,Fast.te14289696077712309145,Fast.te14364793385576792824]; kernel_rfl) | kernel_rfl
theorem Ce1 {p q:Program} {loose:List Str} {Xt:Shared→Bool} {N:Nat} {H:Params→Heap} {g:Array GenState} {d:Drawn} {k:Nat} {as ts:List Addr} {K:Params→Frag}
  (o:∀ w:World,(fencedOpening treeTable p w N).map (fun s=>(s.heap,s.gens,s.drawn,s.toks)) = some (H w.params,g,d,k))
  (z:∀ (w:World) (os:OsState),(topFrom treeTable p w N ⟨H w.params,g,d,k,os⟩).map (fun s=>(openSeen q loose (importedModules p.main.body) Xt true s,(((K w.params).map (·.1)).map s.heap.get?,ts.map s.heap.get?))) = some (openGood q loose,((K w.params).map (fun p=>some p.2),ts.map fun _=>some (tabObj #[]))))
  (e:∀ P,as = (K P).map (·.1)):LeftO p q loose Xt (fun s=>(as.map s.heap.get?,ts.map s.heap.get?)) (fun w=>((K w.params).map fun p=>some p.2,ts.map fun _=>some (tabObj #[]))) N:=fun w=>by
 obtain ⟨⟨h,gs,d',k',os⟩,e1,e2⟩:=Option.map_eq_some_iff.mp (o w)
 obtain ⟨rfl,rfl,rfl,rfl⟩:h = H w.params∧gs = g∧d' = d∧k' = k:=by simpa using e2
 obtain ⟨s,z1,z2⟩:=Option.map_eq_some_iff.mp (z w os)
 rw [← e] at z2
 unfold openEnds
 rw [e1]
 show (topFrom treeTable p w N _).map _ = _
 rw [z1]
 exact congrArg some z2
theorem ho1 {r:OpenRow} {d:DefRec} {kwd:List (Str × Expr)} (H:Hook) (hrec:r.records = RowW.records PySem.Challenge.rw_ny0267_01.row.toRowW) (hdef:defOf vw r.name = some (d,kwd)) (hp:r.prog.theDef r.name = some (d.params,d.body,d.scope)) (hk:kwWritten? d.params.kwonlyargs d.params.kw_defaults = some kwd) (hwr:(!r.writes || r.records.isEmpty) = true)
  (k1:r.wellSaid = true) (ok:(chainsOk vw && opensWell r.prog && (frees r.toRowW && r.within.isEmpty)) = true) (hb:r.prog.bare) (hw:r.toRowW.promised) (hc:LeftO r.prog vw loo xt H.obs H.val 3748∧WalkO vw loo (XL vw []) H.says r.toRowW d kwd fun f vs=>PySem.call f vs):r.Holds :=
 hc.elim fun hl=>holds_open hl H.of H.keeps (fun s e=>xl_of s (Bool.and_eq_true_iff.mp e).1) XL.keeps hdef hp hk (fun s e=>by rw [hrec]; exact recFacts_of (Bool.and_eq_true_iff.mp e).2) hwr k1 ok hb hw
theorem Kp1:OpenLaw.wellSaid PySem.Challenge.rw_ny0267_01 = true:=by
 first | (rw [Fast.te9446332074065402090]; unfold Fast.tw9446332074065402090 Fast.tw17960256430627541270 Fast.tw2436336058641802641 Fast.tw12908688711261696721; (with_reducible repeat' apply look_both) <;> decide +kernel) | kernel_rfl
local macro_rules | `(tactic| o_law)=>`(tactic| refine holds_law Kp1 fun said=>?_)
local macro_rules | `(tactic| o_head $H)=>`(tactic| refine ho1 $H rfl (by rfl) (by rfl) (by rfl) (by rfl) (by assumption) (by decide +kernel) ⟨rfl,rfl,rfl,rfl,rfl,by decide +kernel⟩ ?hw ?hc)
open_top hd for PySem.Challenge.rw_ny0267_01
noncomputable abbrev qpw:=PySem.Challenge.pw_ny0267_01
noncomputable abbrev qvS (x:String) (n:Nat):Value:=.str (so x) n
noncomputable abbrev qfo (t:Value) (l:List Value):Obj:=⟨t,none,.fields (Array.mk l),#[]⟩
noncomputable def qfE:Obj:=qfo .none []
noncomputable def qsq (t:String) (l:List Value) (n:Nat):Obj:=⟨.type t,none,.seq (Array.mk l) n,#[]⟩
noncomputable def qtE:Obj:=qsq "tuple" [] 0
noncomputable def qpr:Obj:=qfo (.type "builtin_function_or_method") [.builtin "type.__prepare__",.type "type"]
noncomputable def qsi (a:Addr):Obj:=qfo (.type "builtin_function_or_method") [.builtin "object.__init_subclass__",.ref a]
noncomputable def qsu (a:Addr):Obj:=qfo (.type "super") [.ref a,.ref a,.ref a]
noncomputable def qco (x:String) (t:Nat) (l:Int) (r f:Addr):Obj:=qfo (.type "code") ([qvS x t,qvS x (t + 1),qvS "/claim/cut.py" (t + 2),.int l 0,.int 0 0,.int 0 0,.int 0 0,.int 0 0,.ref r,.bool false,.int 276 0,.ref f,.none,.none,.none,.none,.int (t + 3) 0,.int l 0,qvS "/claim/cut.py" (t + 4)])
noncomputable def qfr (c n:Addr) (x:String) (t:Nat):Obj:=⟨.type "frame",none,.plain,#[some (.ref c),some (.ref 3),some (.ref n),none,some (qvS x t),none,some (.ref 0)]⟩
noncomputable def qln (c:Int) (l:List (Int × Addr)):Obj:=qfo .none (l.flatMap fun x=>[.int x.1 0,.int c 0,.ref x.2])
noncomputable def qns (P:Params) (l:List (String × Nat × Value)):Obj:=⟨.type "dict",none,.dict (Array.mk (l.map fun x=>dk P x.1 x.2.1 x.2.2)) l.length,#[]⟩
noncomputable def qcn (P:Params) (t:Nat) (m:Value) (x:String) (i:Int) (l:List (String × Nat × Value)):Obj:=qns P (("__module__",t,m) :: ("__qualname__",t + 2,qvS x (t + 1)) :: ("__firstlineno__",t + 4,.int i (t + 3)) :: l)
noncomputable def qst (P:Params) (a:Addr):Obj:=match (hd.heap_1 P).lookup a with
 | some ⟨_,_,.func f,_⟩=>⟨.none,none,.func { f with globals:=0,defaults:=.none,pyModule:=.none,code:=.none,builtins:=0 },#[]⟩
 | _=>qfE
noncomputable def Kq1:Nat→Nat→Frag→List Obj→List Obj
 | n + 1,a,(b,o) :: k,l=>bif Nat.beq b a then o :: Kq1 n (a + 1) k l else match l with
  | x :: l=>x :: Kq1 n (a + 1) ((b,o) :: k) l
  | []=>[]
 | _,_,_,_=>[]
noncomputable abbrev qgl:=qvS "cpy313.graphlib" 331
noncomputable def qS1 (P:Params):Heap:=Heap.mk (Array.mk (((S0 P).objs.toList.set 2 (((hd.heap_1 P).lookup 2).getD qfE)).set 3
 (qns P [("__name__",165,qgl),("__doc__",166,.none),("__package__",167,.none),("__loader__",168,.builtin "__main__.__loader__#opaque"),("__spec__",169,.none),("__annotations__",170,.ref 6),("__builtins__",171,.ref 4),("__file__",173,qvS "/claim/cut.py" 172),("__cached__",174,.none),("_sre",275,.ref 12),("_wall",288,.ref 38),("TOMLDecodeError",308,.ref 48),("skip_until",320,.ref 58),("suffixed_err",330,.ref 65),("_NODE_OUT",335,.int (-1) 334),("_NODE_DONE",338,.int (-2) 337),("_NodeInfo",375,.ref 84),("CycleError",393,.ref 99),("TopologicalSorter",512,.ref 181)]) ++
 Kq1 158 28 ((hd.heap_1 P).drop 2) [qtE,qln 0 [(2,37),(6,44),(8,57),(20,64),(35,71),(42,95),(44,108)],qco "<module>" 277 1 28 29,qfr 30 3 "__main__" 164,qfE,qst P 38,qpr,
 qcn P 298 (qvS "cpy313.tomllib._parser" 289) "TOMLDecodeError" 6 [("__static_attributes__",303,.ref 46)],qtE,qfE,qco "TOMLDecodeError" 293 6 42 43,qfr 44 41 "cpy313.tomllib._parser" 289,qsu 48,qsi 48,qfE,qst P 58,qfE,qst P 65,qtE,qpr,
 qcn P 346 qgl "_NodeInfo" 35 [("__slots__",354,.ref 73),("__init__",362,.ref 80),("__static_attributes__",366,.ref 81)],qtE,qln 4 [(38,79)],qco "_NodeInfo" 341 35 69 70,qfr 71 68 "cpy313.graphlib" 331,qfE,qst P 80,qsq "list" [qvS "node" 351,qvS "npredecessors" 352,qvS "successors" 353] 1,qsu 84,qsi 84,qpr,
 qcn P 383 qgl "CycleError" 42 [("__static_attributes__",388,.ref 97)],qtE,qfE,qco "CycleError" 378 42 93 94,qfr 95 92 "cpy313.graphlib" 331,qsu 99,qsi 99,qtE,qpr,
 qcn P 401 qgl "TopologicalSorter" 44 [("__init__",415,.ref 117),("_get_nodeinfo",424,.ref 124),("add",436,.ref 131),("prepare",442,.ref 136),("get_ready",452,.ref 143),("is_active",459,.ref 150),("__bool__",466,.ref 157),("done",480,.ref 164),("_find_cycle",493,.ref 171),("static_order",500,.ref 178),("__static_attributes__",505,.ref 179)],qtE,
 qln 4 [(46,116),(55,123),(60,130),(69,135),(77,142),(88,149),(93,156),(96,163),(119,170),(148,177)],qco "TopologicalSorter" 396 44 106 107,qfr 108 105 "cpy313.graphlib" 331,
 qfE,qst P 117,qfE,qst P 124,qfE,qst P 131,qfE,qst P 136,qfE,qst P 143,qfE,qst P 150,qfE,qst P 157,qfE,qst P 164,qfE,qst P 171,qfE,qst P 178,qsu 181,qsi 181])) {}
noncomputable def qen:Env:={ scope:=qpw.main.scope,locals:=mainNs,globals:=mainNs,cells:=[],code:=.ref 30,frame:=some 31 }
noncomputable abbrev qbd:List Stmt:=behindTheImports qpw
noncomputable abbrev qcd:Code:=.body qbd qen
noncomputable abbrev qn0 (w:World):Nat:=(S0 w.params).objs.size
noncomputable abbrev qa0 (w:World):Option Value:=(S0 w.params).nsMap mainGlobals "__annotations__"
noncomputable def qp1:Pos:=⟨44,0,149,16⟩
theorem Ml1 (w:World) (os:OsState):(topGo treeTable qpw w (qn0 w) (qa0 w) 12 ⟨S0 w.params,Array.mk [],{},276,os⟩ (topStub qpw)).map (fun x=>(x.2,segRun treeTable qpw w (qn0 w) (qa0 w) 1 1304 x.1 ⟨(execs (qbd.take 11) qen).wrap doneF deadEnd id id,qcd,default,[topFrame default]⟩)) =
  some (⟨denote treeTable qcd,qcd,default,[topFrame default]⟩,some (.next,⟨qS1 w.params,Array.mk [],{},513,os⟩,qcd,qp1)):=by
 first | (rw [Fast.te15667345088766844465,Fast.te14364793385576792824,Fast.te14374325043358763698,Fast.te12563942051412417395,Fast.te11892475500146522536]; kernel_rfl) | kernel_rfl
theorem Mm1 (w:World) (os:OsState):((topRun treeTable qpw w (qn0 w) (qa0 w) 2431 ⟨qS1 w.params,Array.mk [],{},513,os⟩ ⟨(execs (qbd.drop 11) qen).wrap doneF (leaveH qen) id id,qcd,qp1,[topFrame default]⟩).bind fun s₁=>match staticsOk (importedModules qpw.main.body) (S0 w.params) s₁.heap && namesBound qpw s₁.heap && gensDone s₁ && laidKept (S0 w.params) s₁.heap with
   | true=>some s₁
   | false=>none).map (fun s=>(openSeen vw loo (importedModules qpw.main.body) xt true s,(((hd.heap_1 w.params).map (·.1)).map s.heap.get?,[60].map s.heap.get?))) = some (openGood vw loo,((hd.heap_1 w.params).map (fun p=>some p.2),[60].map fun _=>some (tabObj #[]))):=by
 first | (rw [Fast.te14082659384304107361,Fast.te14364793385576792824,Fast.te4187177175401517315,Fast.te12563942051412417395]; kernel_rfl) | kernel_rfl
theorem Mn1 {α β:Type} {x y:Option Shared} {f:Shared→Option α} {g:α→β} {v:β} (h:∀ r,x = some r→y = some r) (e:(x.bind f).map g = some v):(y.bind f).map g = some v:=by
 cases k:x with
 | none=>rw [k] at e; cases e
 | some r=>rw [h r k]; rw [k] at e; exact e
theorem Kr1 (w:World) (os:OsState):(topFrom treeTable PySem.Challenge.pw_ny0267_01 w 3748 ⟨S0 w.params,Array.mk [],{},276,os⟩).map (fun s=>(openSeen vw loo (importedModules PySem.Challenge.pw_ny0267_01.main.body) xt true s,(((hd.heap_1 w.params).map (·.1)).map s.heap.get?,[60].map s.heap.get?))) = some (openGood vw loo,((hd.heap_1 w.params).map (fun p=>some p.2),[60].map fun _=>some (tabObj #[]))):=by
 obtain ⟨⟨s,t⟩,e1,e2⟩:=Option.map_eq_some_iff.mp (Ml1 w os)
 obtain ⟨e2,e3⟩:=Prod.mk.inj e2
 have z:((S0 w.params).isNs mainGlobals && (Array.mk []:Array GenState).size == 0) = true:=by kernel_rfl
 unfold topFrom
 dsimp only
 rw [z]
 refine Mn1 (fun r k=>?_) (Mm1 w os)
 have k2:=piece_app (l:=qbd.take 11) e3 k
 rw [List.take_append_drop] at k2
 exact go_top (n:=12) e1 (e2 ▸ piece_block (n:=1) (by kernel_rfl) k2)
end Mine
end
open PySem PySem.W PyProof.Rows PySem.Calls PySem.Spec
open PySem.Str renaming ofString → oS
open PySem renaming wpAny_bind → wB,wpAny_pure → wP,wpAny_execs_cons → wC,wpAny_execs_nil → wN,wpAny_mono → wM
namespace Mine
local macro_rules
 | `(tactic| obtain $p:rcasesPatMed := $e:term) => `(tactic| first | (show wpAny _ _ _ _ _ _; refine (let G : Prop := _; (?_ : G)); rcases $e:term with $p:rcasesPatMed <;> (show wpAny _ _ _ _ _ _; clear G)) | rcases $e:term with $p:rcasesPatMed)
variable {s s':Shared} {pos np apos pos' cpos:Pos} {E:Value→Shared→Prop} {x y k name qual:Str} {w:World} {h h':Heap} {ds:List PyData} {a b f I:Addr} {A:Around} {e o iter elt target l r:Expr} {g:Addr→Option Obj} {Q:Flow→Shared→Prop} {v:Value} {rest body:List Stmt} {vs:List Value} {d:PyData} {X fs:List Addr} {scope:Scope} {ys:List Str} {es ifs:List Expr} {R:Result→Shared→Prop} {cl:List (Str × Addr)} {env:Env}
section
variable {i j k l u m n f p p':Nat} {a b d:Int}
theorem Me1 (h:i < j) (h2:j < k + 1):j - 1 < k:=by omega
theorem Ks1 (h:k ≤ n):k + (n - k) ≤ n:=Nat.le_of_eq (Nat.add_sub_of_le h)
theorem Ki1 (h:k ≤ n) (h2:i < k + (n - k)):i < n:=Nat.lt_of_lt_of_le h2 (Ks1 h)
theorem Mo1 (h:k ≤ n) (h2:i ≤ k + (n - k)):i ≤ n:=Nat.le_trans h2 (Ks1 h)
theorem Mf1 (h:¬l ≥ u):(l + u) / 2 + 1 ≤ u:=by omega
theorem Mp1 (h:¬l ≥ u):l ≤ (l + u) / 2:=by omega
theorem Mg1 (h:¬l ≥ u) (h2:u ≤ k):(l + u) / 2 < k:=Nat.lt_of_lt_of_le (Mf1 h) h2
theorem Mq1 (h:u - l ≤ f + 1) (h2:¬l ≥ u):(l + u) / 2 - l ≤ f:=by omega
theorem Kj1 (h:¬a < b) (h2:a ≠ b):b < a:=Int.lt_iff_le_and_ne.mpr ⟨Int.not_lt.mp h,h2.symm⟩
theorem Mr1 (h:¬a < b) (h2:b ≠ a):b < a:=Kj1 h h2.symm
theorem Ms1 (h:0 < n):(-1 + (n:Int)).toNat = n - 1:=by omega
theorem Fo1 (h:i < j) (h2:¬i = j - 1):i < j - 1:=by omega
theorem Kt1 (h:1 ≤ m):¬m = m - 1:=by omega
theorem Mt1 (h:i < j) (h3:m < i∧i ≤ k):i - 1 < j - 1:=by omega
theorem Mu1 (h:p' ≤ p) (h2:¬p' = p):p - (p' + 1) < p - p':=Nat.sub_lt_sub_left (Nat.lt_of_le_of_ne h h2) (Nat.lt_succ_self _)
theorem Mh1 (h:n ≤ m):min i n ≤ m:=Nat.le_trans (Nat.min_le_right _ _) h
theorem Mv1 (h:i < j) (h2:i = m) (h3:¬j = m):m ≤ j - 1:=by omega
theorem Ku1 (h:n - (j + 1) = k + 1):n - (j + 1 + 1) = k:=by omega
theorem Kv1 (h:i < j) (h2:j < m):m - 1 - i < m:=by omega
theorem Kw1 (h:i < j) (h2:j < k + 1) (h3:¬i = m) (h4:¬(m < i∧i ≤ k)) (h5:m < j∧j ≤ k):i < j - 1:=by omega
theorem Kx1 (h:j < k + 1) (h2:¬j = m) (h4:¬(m < j∧j ≤ k)) (h3:m ≤ k):j < k:=by omega
theorem Fp1 (h:n ≤ 1000):((n:Int) + 1).natAbs < 2 ^ 20:=Nat.lt_of_le_of_lt (Nat.succ_le_succ h) (by decide)
theorem Ic1 (h:0 ≤ a) (h2:a < n):a.toNat < n:=by omega
theorem Ky1 (h:0 ≤ a) (h2:a.toNat < n):0 ≤ a∧a < n:=by omega
theorem Kz1 (h:i ≤ j) (h2:n ≤ k):i + n ≤ j + k:=Nat.add_le_add h h2
end
noncomputable abbrev PG:Program:=PySem.Challenge.pw_ny0267_01
noncomputable abbrev MM (w:World):Model:=model PG w
noncomputable abbrev KF (w:World):Frag:=Mine.hd.heap_1 w.params
noncomputable abbrev tA:Addr:=60
noncomputable def TabOk (h:Heap):Prop :=
 ∃ vs,h.get? tA = some (tabObj vs)∧(vs = #[] ∨ ∃ l k c,vs = #[rawInt l,rawInt k,.ref c]∧(l == (22:Int)) = true∧(k == (4:Int)) = true ∧
  (∃ oc ws t,h.get? c = some oc∧oc.cls = .type "code" ∧ oc.data = .fields ws∧ws[1]? = some (.str (oS "suffixed_err.<locals>.coord_repr") t))∧c ≠ tA∧269 ≤ c)
structure Kp (fs:List Addr) (s s':Shared):Prop where
 gens:s'.gens = s.gens
 os:s'.os = s.os
 keep:∀ b o,s.heap.get? b = some o→b ∉ fs→b ≠ tA→s'.heap.get? b = some o
 slot:∀ b o,s.heap.get? b = some o→b ≠ tA→∃ sl,s'.heap.get? b = some { o with slots:=sl }
 tab:TabOk s.heap→TabOk s'.heap
theorem Kp.refl (fs:List Addr) (s:Shared):Kp fs s s:=⟨rfl,rfl,fun _ _ e _ _=>e,fun _ o e _=>⟨o.slots,e⟩,id⟩
theorem Kp.trans {s'':Shared} (x:Kp fs s s') (y:Kp fs s' s''):Kp fs s s'' :=
 ⟨y.gens.trans x.gens,y.os.trans x.os,fun b o e h1 h2=>y.keep b o (x.keep b o e h1 h2) h1 h2,
  fun b o e h2=>by obtain ⟨_,e1⟩:=x.slot b o e h2; obtain ⟨sl,e2⟩:=y.slot b _ e1 h2; exact ⟨sl,e2⟩,y.tab ∘ x.tab⟩
theorem TabOk.keepF (x:TabOk h) (h1:∀ o,h.get? tA = some o→h'.get? tA = some o) (h2:∀ a o ws,o.cls = .type "code" → o.data = .fields ws→h.get? a = some o→h'.get? a = some o):TabOk h':=by
 obtain ⟨vs,e,q⟩:=x
 refine ⟨vs,h1 _ e,q.imp id ?_⟩
 rintro ⟨l,k,c,e1,e2,e3,⟨o,ws,t,f2,f1,f3,f4⟩,e5,e6⟩
 exact ⟨l,k,c,e1,e2,e3,⟨o,ws,t,h2 _ _ _ f1 f3 f2,f1,f3,f4⟩,e5,e6⟩
theorem TabOk.keeps (x:TabOk h) (hk:∀ b o,h.get? b = some o→h'.get? b = some o):TabOk h':=x.keepF (fun _=>hk _ _) fun _ _ _ _ _=>hk _ _
theorem Kp.of_all (hg:s'.gens = s.gens) (ho:s'.os = s.os) (k:∀ b o,s.heap.get? b = some o→s'.heap.get? b = some o):Kp fs s s' :=
 ⟨hg,ho,fun b o e _ _=>k b o e,fun b o e _=>⟨o.slots,k b o e⟩,fun t=>t.keeps k⟩
theorem Kp.toks (s:Shared) (t:Nat):Kp fs s { s with toks:=t }:=Kp.of_all rfl rfl fun _ _ e=>e
theorem Kp.push (s:Shared) (o:Obj):Kp fs s { s with heap:=s.heap.push o }:=Kp.of_all rfl rfl fun _ _ e=>Heap.get?_push_of_some _ e
noncomputable def fz (X:List Addr) (h:Heap) (a:Addr):Option Obj:=if a ∈ X then none else h.get? a
theorem Ah0 {o:Obj} (e:fz X h a = some o):h.get? a = some o:=by
 unfold fz at e; split at e
 ·cases e
 ·exact e
theorem Bf0 {o:Obj} (e:h.get? a = some o) (n:a ∉ X):fz X h a = some o:=by
 unfold fz; rw [if_neg n]; exact e
theorem Ae0 {o:Obj} (e:fz X h a = some o):a ∉ X:=by
 unfold fz at e; split at e
 ·cases e
 ·assumption
theorem Ao0 {Y:List Addr} (hs:∀ a ∈ Y,a ∈ X):∀ a o,fz X h a = some o→fz Y h a = some o :=
 fun _ _ e=>Bf0 (Ah0 e) fun q=>Ae0 e (hs _ q)
theorem Cf1 (k:Kp fs s s') (hf:∀ b ∈ fs,b ∈ X) (ht:tA ∈ X):∀ a o,fz X s.heap a = some o→fz X s'.heap a = some o :=
 fun a o e=>Bf0 (k.keep a o (Ah0 e) (fun q=>Ae0 e (hf a q)) (fun q=>Ae0 e (q ▸ ht))) (Ae0 e)
mutual
inductive Rd (g:Addr→Option Obj):Value→PyData→Prop
 | none:Rd g .none .none
 | bool (b:_):Rd g (.bool b) (.bool b)
 | int (i t:_):Rd g (.int i t) (.int i)
 | str (x t:_):Rd g (.str x t) (.str x)
 | list {a vs n sl xs:_}:g a = some ⟨.type "list",Option.none,.seq vs n,sl⟩→RdAll g vs.toList xs→Rd g (.ref a) (.list xs)
 | tuple {a vs n sl xs:_}:g a = some ⟨.type "tuple",Option.none,.seq vs n,sl⟩→RdAll g vs.toList xs→Rd g (.ref a) (.tuple xs)
inductive RdAll (g:Addr→Option Obj):List Value→List PyData→Prop
 | nil:RdAll g [] []
 | cons {v vs d ds:_}:Rd g v d→RdAll g vs ds→RdAll g (v :: vs) (d :: ds)
end
theorem RdAll.ind {M:List Value→List PyData→Prop} (h0:M [] []) (h1:∀ {v vs d ds},Rd g v d→RdAll g vs ds→M vs ds→M (v :: vs) (d :: ds)) {vs:List Value} {ds:List PyData} (r:RdAll g vs ds):M vs ds :=
 RdAll.rec (motive_1:=fun _ _ _=>True) (motive_2:=fun vs ds _=>M vs ds) trivial (fun _=>trivial) (fun _ _=>trivial) (fun _ _=>trivial) (fun _ _ _=>trivial) (fun _ _ _=>trivial) h0 (fun r q _ ih=>h1 r q ih) r
theorem Rd.mono' {g':Addr→Option Obj} (k:∀ a o vs n,o.data = .seq vs n→g a = some o→g' a = some o) {v:Value} {d:PyData} (r:Rd g v d):Rd g' v d :=
 Rd.rec (motive_1:=fun v d _=>Rd g' v d) (motive_2:=fun vs ds _=>RdAll g' vs ds) .none .bool .int .str (fun e _ ih=>.list (k _ _ _ _ rfl e) ih) (fun e _ ih=>.tuple (k _ _ _ _ rfl e) ih) .nil (fun _ _ a b=>.cons a b) r
theorem RdAll.mono' {g':Addr→Option Obj} (k:∀ a o vs n,o.data = .seq vs n→g a = some o→g' a = some o) {vs:List Value} {ds:List PyData} (r:RdAll g vs ds):RdAll g' vs ds:=r.ind .nil fun r _ ih=>.cons (r.mono' k) ih
theorem Rd.mono {g':Addr→Option Obj} (k:∀ a o,g a = some o→g' a = some o) {v:Value} {d:PyData} (r:Rd g v d):Rd g' v d:=r.mono' fun a o _ _ _=>k a o
theorem RdAll.mono {g':Addr→Option Obj} (k:∀ a o,g a = some o→g' a = some o) {vs:List Value} {ds:List PyData} (r:RdAll g vs ds):RdAll g' vs ds:=r.mono' fun a o _ _ _=>k a o
theorem Rd.reads (k:∀ a o,g a = some o→h.get? a = some o) {v:Value} {d:PyData} (r:Rd g v d):∃ as,Reads h v d as :=
 Rd.rec (motive_1:=fun v d _=>∃ as,Reads h v d as) (motive_2:=fun vs ds _=>∃ as,ReadsAll h vs ds as) ⟨_,.none⟩ (fun b=>⟨_,.bool b⟩) (fun i t=>⟨_,.int i t⟩) (fun x t=>⟨_,.str x t⟩) (fun e _ ih=>ih.elim fun _ q=>⟨_,.list (k _ _ e) rfl rfl q⟩) (fun e _ ih=>ih.elim fun _ q=>⟨_,.tuple (k _ _ e) rfl rfl q⟩) ⟨_,.nil⟩ (fun _ _ a b=>a.elim fun _ a=>b.elim fun _ b=>⟨_,.cons a b⟩) r
theorem RdAll.length (r:RdAll g vs ds)   : vs.length = ds.length:=r.ind (M:=fun vs ds=>vs.length = ds.length) rfl fun _ _ ih=>congrArg (· + 1) ih
theorem RdAll.get (r:RdAll g vs ds):∀ (i:Nat) (d:PyData),ds[i]? = some d→∃ v,vs[i]? = some v∧Rd g v d :=
 r.ind (M:=fun vs ds=>∀ (i:Nat) (d:PyData),ds[i]? = some d→∃ v,vs[i]? = some v∧Rd g v d) (fun _ _ e=>by cases e) fun {v _ d _} r _ ih i=>by
  cases i with
  | zero=>exact fun d' e=>⟨v,rfl,Option.some.inj e ▸ r⟩
  | succ i=>exact ih i
theorem RdAll.get' (r:RdAll g vs ds) (i:Nat) (v:Value) (e:vs[i]? = some v):∃ d,ds[i]? = some d∧Rd g v d:=by
 have hl:i < ds.length:=by rw [← r.length]; exact (List.getElem?_eq_some_iff.mp e).1
 obtain ⟨v',e1,e2⟩:=r.get i ds[i] (List.getElem?_eq_getElem hl)
 rw [e1] at e; cases e; exact ⟨_,List.getElem?_eq_getElem hl,e2⟩
theorem RdAll.append {ws:List Value} {es:List PyData} (r:RdAll g vs ds) (q:RdAll g ws es):RdAll g (vs ++ ws) (ds ++ es):=r.ind (M:=fun vs ds=>RdAll g (vs ++ ws) (ds ++ es)) q fun r _ ih=>.cons r ih
theorem RdAll.drop (n:Nat) {vs:List Value} {ds:List PyData} (r:RdAll g vs ds):RdAll g (vs.drop n) (ds.drop n) :=
 r.ind (M:=fun vs ds=>∀ n:Nat,RdAll g (vs.drop n) (ds.drop n)) (fun n=>by rw [List.drop_nil,List.drop_nil]; exact .nil) (fun r q ih n=>by
  cases n with
  | zero=>exact .cons r q
  | succ n=>exact ih n) n
theorem RdAll.take (n:Nat) {vs:List Value} {ds:List PyData} (r:RdAll g vs ds):RdAll g (vs.take n) (ds.take n) :=
 r.ind (M:=fun vs ds=>∀ n:Nat,RdAll g (vs.take n) (ds.take n)) (fun n=>by rw [List.take_nil,List.take_nil]; exact .nil) (fun r q ih n=>by
  cases n with
  | zero=>exact .nil
  | succ n=>exact .cons r (ih n)) n
theorem Rd.list_inv {xs:List PyData} (r:Rd g v (.list xs)):∃ a vs n sl,v = .ref a∧g a = some ⟨.type "list",Option.none,.seq vs n,sl⟩∧RdAll g vs.toList xs:=by
 cases r with | list e r=>exact ⟨_,_,_,_,rfl,e,r⟩
theorem Rd.tuple_inv {xs:List PyData} (r:Rd g v (.tuple xs)):∃ a vs n sl,v = .ref a∧g a = some ⟨.type "tuple",Option.none,.seq vs n,sl⟩∧RdAll g vs.toList xs:=by
 cases r with | tuple e r=>exact ⟨_,_,_,_,rfl,e,r⟩
theorem Rd.str_inv (r:Rd g v (.str x)):∃ t,v = .str x t:=by cases r; exact ⟨_,rfl⟩
theorem Rd.int_inv {i:Int} (r:Rd g v (.int i)):∃ t,v = .int i t:=by cases r; exact ⟨_,rfl⟩
theorem Rd.bool_inv {b:Bool} (r:Rd g v (.bool b)):v = .bool b:=by cases r; rfl
theorem RdAll.cons_inv {l:List Value} (r:RdAll g l (d :: ds)):∃ v vs,l = v :: vs∧Rd g v d∧RdAll g vs ds:=by cases r with | cons p q=>exact ⟨_,_,rfl,p,q⟩
theorem RdAll.nil_inv {l:List Value} (r:RdAll g l []):l = []:=by cases r; rfl
theorem Cg1 {α:Type} {l:List α} (h:l.length = 1):∃ a,l = [a]:=List.length_eq_one_iff.mp h
theorem Hy1 {α:Type} {l:List α} (h:l.length = 2):∃ a b,l = [a,b]:=by
 cases l with
 | nil=>cases h
 | cons a l=>obtain ⟨b,hQ1⟩:=Cg1 (Nat.succ.inj h); subst hQ1; exact ⟨a,b,rfl⟩
theorem Mw1 {α:Type} {l:List α} (h:l.length = 3):∃ a b c,l = [a,b,c]:=by
 cases l with
 | nil=>cases h
 | cons a l=>obtain ⟨b,c,hQ2⟩:=Hy1 (Nat.succ.inj h); subst hQ2; exact ⟨a,b,c,rfl⟩
noncomputable def Sees (env:Env) (h:Heap) (x:Str) (v:Value):Prop :=
 (env.kindOf x = some .local∧∃ m,h.Ns env.locals m∧m x = some v) ∨
 ((env.kindOf x = some .cell ∨ env.kindOf x = some .free)∧(x == ("__classdict__" : Str)) = false∧∃ c,env.cells.lookup x = some c∧h.IsCell c (some v))
set_option genInjectivity true in
set_option genCtorIdx true in
inductive Slot where
 | val (d:PyData)
 | own (a:Addr) (ds:List PyData)
 | raw (v:Value)
noncomputable abbrev Rho:=List (Str × Slot)
noncomputable def Slot.addr?:Slot→Option Addr
 | .val _=>none
 | .own a _=>some a
 | .raw _=>none
noncomputable def As0 (ρ:Rho):List Addr:=ρ.filterMap fun p=>p.2.addr?
noncomputable def LsAt (g:Addr→Option Obj) (h:Heap) (a:Addr) (ds:List PyData):Prop :=
 ∃ vs n sl,h.get? a = some ⟨.type "list",Option.none,.seq vs n,sl⟩∧RdAll g vs.toList ds
structure Cx where
 w:World
 A:Around
 env:Env
 X:List Addr
 X0:List Addr
 fs:List Addr
 fs0:List Addr
 s0:Shared
 lvl:Nat
 cn:List Str
 pin:Addr × Obj→Prop
variable {c:Cx} {ρ ρ':Rho}
noncomputable def Nf (a:Addr) (o:Obj):Prop:=a = tA ∨ ∀ ws,o.data ≠ .fields ws
noncomputable def It0:Addr × Obj→Prop:=fun _=>False
noncomputable def Cx.XX (c:Cx) (ρ:Rho):List Addr:=As0 ρ ++ c.X
structure Wd (w:World) (h:Heap):Prop where
 k:(KF w).In h
 g:∃ mg,h.Ns mainGlobals mg
 b:∃ mb,h.Ns builtinsNs mb∧∀ x:Str,x ≠ "__name__" → mb x = bootBuiltins x
 nolimit:h.NoLimit
 bm:∃ ob,h.get? 4 = some ob∧ob.cls = .type "module" ∧ ob.dict = some builtinsNs∧ob.data = .plain
noncomputable def FrOk (l:List Env) (h:Heap):Prop:=∀ env ∈ l,env.scope.kind ≠ .module∧∃ L o,env.frame = some L∧h.get? L = some o∧(∃ es n,o.data = .dict es n)∧L ≠ tA
structure CxOk (c:Cx):Prop where
 wd:Wd c.w c.s0.heap
 tab:TabOk c.s0.heap
 hand:Nat.ble 3 c.lvl = true→c.A.handled = none
 depth:c.A.depth + c.lvl ≤ 500
 units:c.A.units + 4 * c.lvl ≤ 3000
 frames:∃ l,c.A.frames = some l∧c.fs = l.filterMap (·.frame)
 fsX:∀ b ∈ c.fs,b ∈ c.X
 tX:tA ∈ c.X
 lo:∀ b ∈ c.fs,269 ≤ b
 fs0:∀ b ∈ c.fs0,b ∈ c.fs
 new:∀ b ∈ c.fs,b ∉ c.fs0→c.s0.heap.get? b = none
 kind:c.env.scope.kind = .function
 glob:c.env.globals = mainGlobals
 blt:c.env.builtins = builtinsNs
 x0:∀ b ∈ c.X0,b ∈ c.X
 x0has:∀ b ∈ c.X0,∃ o,c.s0.heap.get? b = some o
 locX:c.env.locals ∈ c.X
 cellX:∀ n a,(n,a) ∈ c.env.cells→a ∈ c.X
 locN:c.s0.heap.get? c.env.locals = none
 cellN:∀ n a,c.cn.contains n = true→c.env.cells.lookup n = some a→c.s0.heap.get? a = none
 apart:c.env.cells.Pairwise fun x y=>x.2 ≠ y.2
noncomputable abbrev Ay0:=CxOk
structure St (c:Cx) (ρ:Rho) (s:Shared):Prop where
 since:Kp c.fs0 c.s0 s
 toks:0 < s.toks
 frs:∀ l,c.A.frames = some l→FrOk l s.heap
 ns:∃ m,s.heap.Ns c.env.locals m
 cell:∀ n a,(n,a) ∈ c.env.cells→∃ v,s.heap.IsCell a v
 loc:∀ x d,ρ.lookup x = some (.val d)→∃ v,Sees c.env s.heap x v∧Rd (fz (c.XX ρ) s.heap) v d
 has:∀ a ∈ c.XX ρ,∃ o,s.heap.get? a = some o∧Nf a o
 own:∀ x a ds,ρ.lookup x = some (.own a ds)→Sees c.env s.heap x (.ref a)∧LsAt (fz (c.XX ρ) s.heap) s.heap a ds∧a ≠ tA
 raw:∀ x v,ρ.lookup x = some (.raw v)→Sees c.env s.heap x v
 pin:∀ p,c.pin p→s.heap.get? p.1 = some p.2
 pinx:∀ p,c.pin p→p.1 ∉ c.XX ρ
theorem Rd.step (k:Kp fs s s') (hf:∀ b ∈ fs,b ∈ X) (ht:tA ∈ X) (r:Rd (fz X s.heap) v d):Rd (fz X s'.heap) v d:=r.mono (Cf1 k hf ht)
theorem RdAll.step {v:List Value} {d:List PyData} (k:Kp fs s s') (hf:∀ b ∈ fs,b ∈ X) (ht:tA ∈ X) (r:RdAll (fz X s.heap) v d):RdAll (fz X s'.heap) v d:=r.mono (Cf1 k hf ht)
theorem Ns.slot {m:Str→Option Value} (hn:h.Ns a m) (k:∀ o,h.get? a = some o→∃ sl,h'.get? a = some { o with slots:=sl }):h'.Ns a m :=
 by obtain ⟨o,es,ep,ho,hd,r⟩:=hn; obtain ⟨_,e⟩:=k o ho; exact ⟨_,es,ep,e,hd,r⟩
theorem IsCell.slot {m:Option Value} (hn:h.IsCell a m) (k:∀ o,h.get? a = some o→∃ sl,h'.get? a = some { o with slots:=sl }):h'.IsCell a m :=
 by obtain ⟨o,ho,hd⟩:=hn; obtain ⟨_,e⟩:=k o ho; exact ⟨_,e,hd⟩
theorem LsAt.slot {g':Addr→Option Obj} (x:LsAt g h a ds) (hg:∀ a o,g a = some o→g' a = some o)
  (k:∀ o,h.get? a = some o→∃ sl,h'.get? a = some { o with slots:=sl }):LsAt g' h' a ds :=
 by obtain ⟨vs,n,_,e,r⟩:=x; obtain ⟨_,e'⟩:=k _ e; exact ⟨vs,n,_,e',r.mono hg⟩
theorem FrOk.slot {l:List Env} (x:FrOk l h) (k:∀ b o,h.get? b = some o→b ≠ tA→∃ sl,h'.get? b = some { o with slots:=sl }):FrOk l h' :=
 fun env he=>by obtain ⟨a,L,o,f,e,d,n⟩:=x env he; obtain ⟨_,e'⟩:=k L o e n; exact ⟨a,L,_,f,e',d,n⟩
theorem Ns.neTab {m:Str→Option Value} (hn:h.Ns a m) (t:TabOk h):a ≠ tA:=by
 rintro rfl
 obtain ⟨o,es,ep,ho,hd,_⟩:=hn; obtain ⟨vs,e,_⟩:=t
 rw [e] at ho; cases ho; cases hd
theorem IsCell.neTab {m:Option Value} (hn:h.IsCell a m) (t:TabOk h):a ≠ tA:=by
 rintro rfl
 obtain ⟨o,ho,hd⟩:=hn; obtain ⟨vs,e,_⟩:=t
 rw [e] at ho; cases ho; cases hd
theorem LsAt.neTab (hn:LsAt g h a ds) (t:TabOk h):a ≠ tA:=by
 rintro rfl
 obtain ⟨vs,n,sl,ho,_⟩:=hn; obtain ⟨vs,e,_⟩:=t
 rw [e] at ho; cases ho
theorem St.tab (S:St c ρ s) (ok:CxOk c):TabOk s.heap:=S.since.tab ok.tab
theorem Sees.step (y:Sees env h x v) (t:TabOk h) (k:∀ b o,h.get? b = some o→b ≠ tA→∃ sl,h'.get? b = some { o with slots:=sl }):Sees env h' x v:=by
 rcases y with ⟨a,m,n,e⟩ | ⟨a,a',cc,e,n⟩
 ·exact .inl ⟨a,m,Ns.slot n (fun o ho=>k _ o ho (Ns.neTab n t)),e⟩
 ·exact .inr ⟨a,a',cc,e,IsCell.slot n (fun o ho=>k _ o ho (IsCell.neTab n t))⟩
theorem Dy0 (ok:Ay0 c):∀ b ∈ c.fs,b ∈ c.XX ρ:=fun b hb=>List.mem_append_right _ (ok.fsX b hb)
theorem Ii0 (ok:Ay0 c):tA ∈ c.XX ρ:=List.mem_append_right _ ok.tX
theorem Hq0 (ok:Ay0 c) (x:Kp c.fs0 c.s0 s) (k:Kp c.fs s s'):Kp c.fs0 c.s0 s' :=
 ⟨k.gens.trans x.gens,k.os.trans x.os,fun b o e h1 h2=>k.keep b o (x.keep b o e h1 h2) (fun q=>by
   have:=ok.new b q h1; rw [this] at e; cases e) h2,
  fun b o e h2=>by obtain ⟨_,e1⟩:=x.slot b o e h2; obtain ⟨sl,e2⟩:=k.slot b _ e1 h2; exact ⟨sl,e2⟩,k.tab ∘ x.tab⟩
theorem St.step (ok:Ay0 c) (S:St c ρ s) (k:Kp c.fs s s') (ht:0 < s'.toks):St c ρ s' where
 toks:=ht
 since:=Hq0 ok S.since k
 frs:=fun l hl=>(S.frs l hl).slot k.slot
 ns:=by obtain ⟨m,n⟩:=S.ns; exact ⟨m,Ns.slot n fun o e=>k.slot _ o e (Ns.neTab n (S.tab ok))⟩
 cell:=fun n a e=>by obtain ⟨v,q⟩:=S.cell n a e; exact ⟨v,IsCell.slot q fun o e=>k.slot _ o e (IsCell.neTab q (S.tab ok))⟩
 loc:=fun x d e=>by obtain ⟨v,y,r⟩:=S.loc x d e; exact ⟨v,y.step (S.tab ok) k.slot,r.step k (Dy0 ok) (Ii0 ok)⟩
 has:=fun a ha=>by
  by_cases q:a = tA
  ·subst q; obtain ⟨vs,e,_⟩:=k.tab (S.tab ok); exact ⟨_,e,.inl rfl⟩
  ·obtain ⟨o,e,nf⟩:=S.has a ha; obtain ⟨sl,e'⟩:=k.slot a o e q; exact ⟨_,e',nf⟩
 own:=fun x a ds e=>by obtain ⟨y,r,n⟩:=S.own x a ds e; exact ⟨y.step (S.tab ok) k.slot,r.slot (Cf1 k (Dy0 ok) (Ii0 ok)) (fun o e=>k.slot _ o e n),n⟩
 raw:=fun x v e=>(S.raw x v e).step (S.tab ok) k.slot
 pin:=fun p hp=>k.keep p.1 p.2 (S.pin p hp) (fun q=>S.pinx p hp (Dy0 ok _ q)) (fun q=>S.pinx p hp (q ▸ Ii0 ok))
 pinx:=S.pinx
theorem St.fresh (S:St c ρ s):s.heap.objs.size ∉ c.XX ρ:=fun q=>by
 obtain ⟨o,e,_⟩:=S.has _ q; exact Nat.lt_irrefl _ (Heap.lt_size e)
theorem Rd.newList {vs:Array Value} {n:Nat} (hx:h.objs.size ∉ X) (r:RdAll (fz X h) vs.toList ds) :
  Rd (fz X (h.push { cls:=.type "list",data:=.seq vs n })) (.ref h.objs.size) (.list ds) :=
 .list (Bf0 (Heap.get?_push_size _ rfl) hx) (r.mono fun a o e=>Bf0 (Heap.get?_push_of_some _ (Ah0 e)) (Ae0 e))
theorem Rd.newTuple {vs:Array Value} {n:Nat} (hx:h.objs.size ∉ X) (r:RdAll (fz X h) vs.toList ds) :
  Rd (fz X (h.push { cls:=.type "tuple",data:=.seq vs n })) (.ref h.objs.size) (.tuple ds) :=
 .tuple (Bf0 (Heap.get?_push_size _ rfl) hx) (r.mono fun a o e=>Bf0 (Heap.get?_push_of_some _ (Ah0 e)) (Ae0 e))
noncomputable def Ev (c:Cx) (ρ:Rho) (e:Expr) (P:Heap→Value→Prop):Prop :=
 ∀ s,St c ρ s→∀ E,wpAny (MM c.w) c.A (eval e c.env) (fun v s'=>Kp c.fs s s'∧P s'.heap v) E s
noncomputable abbrev EvD (c:Cx) (ρ:Rho) (e:Expr) (d:PyData):Prop:=Ev c ρ e fun h v=>Rd (fz (c.XX ρ) h) v d
noncomputable abbrev EvL (c:Cx) (ρ:Rho) (e:Expr) (ds:List PyData):Prop:=Ev c ρ e fun h v=>∃ a,v = .ref a∧LsAt (fz (c.XX ρ) h) h a ds
noncomputable def EvB (c:Cx) (ρ:Rho) (e:Expr) (b:Bool):Prop :=
 ∀ s,St c ρ s→∀ E,wpAny (MM c.w) c.A (isTrue e c.env (eval e c.env)) (fun r s'=>Kp c.fs s s'∧r = b) E s
noncomputable def Mi1 (c:Cx) (P:Heap→Value→Prop):Prop:=∀ s s' v,Kp c.fs s s'→P s.heap v→P s'.heap v
theorem Ph0 (ok:Ay0 c) (d:PyData):Mi1 c fun h v=>Rd (fz (c.XX ρ) h) v d:=fun _ _ _ k r=>r.step k (Dy0 ok) (Ii0 ok)
theorem EvD.toL (h:EvD c ρ e (.list ds)):EvL c ρ e ds:=fun s S E =>
 wM (h s S E) (fun v s' hh=>by
  obtain ⟨k,r⟩:=hh
  obtain ⟨a,vs,n,sl,hQ3,e1,e4⟩:=r.list_inv; subst hQ3
  exact ⟨k,a,rfl,vs,n,sl,Ah0 e1,e4⟩) fun _ _ x=>x
theorem Ad0 {P:Heap→Value→Prop} (ok:Ay0 c) (h:Ev c ρ e P) {s s₀:Shared} (S:St c ρ s) (k₀:Kp c.fs s₀ s) {E:Value→Shared→Prop} {Q:Value→Shared→Prop}
  (hq:∀ v s',St c ρ s'→Kp c.fs s s'→Kp c.fs s₀ s'→P s'.heap v→Q v s'):wpAny (MM c.w) c.A (eval e c.env) Q E s :=
 wpAny_with_toks (n:=1) S.toks (wM (h s S _) (fun v s' hh1 ht=>by obtain ⟨k,p⟩:=hh1; exact hq v s' (S.step ok k ht) k (k₀.trans k) p) fun _ _ x=>x)
theorem Cw0 {b:Bool} (ok:Ay0 c) (h:EvB c ρ e b) {s s₀:Shared} (S:St c ρ s) (k₀:Kp c.fs s₀ s) {E:Value→Shared→Prop} {Q:Bool→Shared→Prop}
  (hq:∀ s',St c ρ s'→Kp c.fs s s'→Kp c.fs s₀ s'→Q b s'):wpAny (MM c.w) c.A (isTrue e c.env (eval e c.env)) Q E s :=
 wpAny_with_toks (n:=1) S.toks (wM (h s S _) (fun v s' hh2 ht=>by obtain ⟨k,p⟩:=hh2; subst p; exact hq s' (S.step ok k ht) k (k₀.trans k)) fun _ _ x=>x)
theorem Hr0 {P P':Heap→Value→Prop} (h:Ev c ρ e P) (hp:∀ g v,P g v→P' g v):Ev c ρ e P':=fun s S E =>
 wM (h s S E) (fun v s' hh3=>by obtain ⟨k,p⟩:=hh3; exact ⟨k,hp _ _ p⟩) fun _ _ x=>x
theorem Ei0 {op:Operator} {P1 P2 P:Heap→Value→Prop} (ok:Ay0 c) (h1:Ev c ρ l P1) (h2:Ev c ρ r P2) (st:Mi1 c P1)
  (h:∀ s a b,St c ρ s→P1 s.heap a→P2 s.heap b→∀ E,wpAny (MM c.w) c.A (binaryOp op a b) (fun v s'=>Kp c.fs s s'∧P s'.heap v) E s):Ev c ρ (.BinOp l op r pos) P:=fun s S E =>
 wpAny_BinOp (Ad0 ok h1 S (.refl _ _) fun a s1 S1 k1 _ p1=>Ad0 ok h2 S1 k1 fun b s2 S2 k2 k2' p2 =>
  wM (h s2 a b S2 (st _ _ _ k2 p1) p2 E) (fun _ _ hh4=>by obtain ⟨k,p⟩:=hh4; exact ⟨k2'.trans k,p⟩) fun _ _ x=>x)
theorem Jf0 {b:Bool} (h:EvD c ρ e (.bool b))
  (he:∀ whole,isTrue e c.env whole = (do let v ← whole; standAt e.pos; holding [v] (truthy v)):=by intro _; rfl):EvB c ρ e b:=fun s S E =>
 wpAny_isTrue_value (wM (h s S E) (fun v s' hh7=>by obtain ⟨k,r⟩:=hh7; rw [r.bool_inv]; exact wpAny_truthy_bool ⟨k,rfl⟩) fun _ _ x=>x) (he _)
theorem Sh0 {b:Bool} (h:EvB c ρ e b):EvB c ρ (.UnaryOp .Not e pos) (!b):=fun s S E =>
 wpAny_isTrue_Not (wM (h s S E) (fun _ _ hh8=>by obtain ⟨k,e⟩:=hh8; exact ⟨k,by rw [e]⟩) fun _ _ x=>x)
theorem Dd0 {P:Heap→Value→Prop} (ok:Ay0 c) (h:∀ s,St c ρ s→∃ v,Sees c.env s.heap x v∧P s.heap v)
  (hd:(x == ("__debug__" : Str)) = false:=by rfl):Ev c ρ (.Name x pos) P:=fun s S E=>by
 obtain ⟨v,y,p⟩:=h s S
 refine wpAny_Name ?_ hd
 rcases y with ⟨a,m,n,e⟩ | ⟨a,a',cc,e,n⟩
 ·exact wpAny_loadName_local ok.kind a n e ⟨.refl _ _,p⟩
 ·rcases a with a | a
  ·exact wpAny_loadName_cell ok.kind a e n ⟨.refl _ _,p⟩
  ·exact wpAny_loadName_free ok.kind a e n ⟨.refl _ _,p⟩ a'
theorem Aa0 (ok:Ay0 c) (h:ρ.lookup x = some (.val d)) (hd:(x == ("__debug__" : Str)) = false:=by rfl):EvD c ρ (.Name x pos) d :=
 Dd0 ok (fun _ S=>S.loc x d h) hd
theorem Dz0 (ok:Ay0 c) (h:ρ.lookup x = some (.own a ds)) (hd:(x == ("__debug__" : Str)) = false:=by rfl):EvL c ρ (.Name x pos) ds :=
 Dd0 ok (fun _ S=>⟨_,(S.own x a ds h).1,a,rfl,(S.own x a ds h).2.1⟩) hd
theorem Ar0 {i:Int} {k:Nat}:EvD c ρ (.Constant (.int i) k pos) (.int i):=fun s _ _=>wpAny_Constant_int ⟨.toks _ _,.int _ _⟩
theorem Am0 {k:Nat}:EvD c ρ (.Constant (.str x) k pos) (.str x):=fun s _ _=>wpAny_Constant_str ⟨.toks _ _,.str _ _⟩
theorem Si0 {b:Bool} {k:Nat}:EvD c ρ (.Constant (.bool b) k pos) (.bool b):=fun s _ _=>wpAny_Constant_bool ⟨.refl _ _,.bool _⟩
theorem Fq1 {k:Nat}:EvD c ρ (.Constant .none k pos) .none:=fun s _ _=>wpAny_Constant_none ⟨.refl _ _,.none⟩
theorem St.kf (ok:Ay0 c) (S:St c ρ s) {a:Addr} {o:Obj} (e:(KF c.w).lookup a = some o) (hlo:a < 269) (hne:a ≠ tA):s.heap.get? a = some o :=
 S.since.keep a o (ok.wd.k a o e) (fun q=>Nat.not_lt.mpr (ok.lo a (ok.fs0 a q)) hlo) hne
theorem Nh0 (ok:Ay0 c) (S:St c ρ s) {a:Addr} (hlo:a < 269) (hne:a ≠ tA):∀ o,c.s0.heap.get? a = some o→s.heap.get? a = some o :=
 fun o e=>S.since.keep a o e (fun q=>Nat.not_lt.mpr (ok.lo a (ok.fs0 a q)) hlo) hne
theorem St.glob (ok:Ay0 c) (S:St c ρ s) {x:Str} {v:Value} (e:nsIn (KF c.w) mainGlobals x = some (some v)):∃ mg,s.heap.Ns mainGlobals mg∧mg x = some v:=by
 obtain ⟨mg,n⟩:=ok.wd.g
 exact ⟨mg,n.at' (Nh0 ok S (by decide) (by decide)),mg_of ok.wd.k n e⟩
theorem St.globNone (ok:Ay0 c) (S:St c ρ s) {x:Str} (e:nsIn (KF c.w) mainGlobals x = some none):∃ mg,s.heap.Ns mainGlobals mg∧mg x = none:=by
 obtain ⟨mg,n⟩:=ok.wd.g
 exact ⟨mg,n.at' (Nh0 ok S (by decide) (by decide)),mg_none_of ok.wd.k n e⟩
theorem Bp0 (ok:Ay0 c) (e:nsIn (KF c.w) mainGlobals x = some (some v)) (hx:c.env.kindOf x = some .globalImplicit)
  (hd:(x == ("__debug__" : Str)) = false:=by rfl):Ev c ρ (.Name x pos) fun _ u=>u = v:=fun s S E=>by
 obtain ⟨mg,n,q⟩:=S.glob ok e
 exact Name_function_global ok.kind hx (loadGlobal_global (ok.glob ▸ n) q ⟨.refl _ _,rfl⟩) hd
theorem At0 (ok:Ay0 c) (e:nsIn (KF c.w) mainGlobals x = some none) (hv:bootBuiltins x = some v) (hn:x ≠ "__name__") (hx:c.env.kindOf x = some .globalImplicit)
  (hd:(x == ("__debug__" : Str)) = false:=by rfl):Ev c ρ (.Name x pos) fun _ u=>u = v:=fun s S E=>by
 obtain ⟨mg,n,q⟩:=S.globNone ok e
 obtain ⟨mb,nb,qb⟩:=ok.wd.b
 exact Name_function_global ok.kind hx (loadGlobal_builtin (ok.glob ▸ n) q (ok.blt ▸ nb.at' (Nh0 ok S (by decide) (by decide))) ((qb x hn).trans hv) ⟨.refl _ _,rfl⟩) hd
noncomputable abbrev pD (c:Cx) (ρ:Rho) (d:PyData):Heap→Value→Prop:=fun h v=>Rd (fz (c.XX ρ) h) v d
noncomputable abbrev pL (c:Cx) (ρ:Rho) (ds:List PyData):Heap→Value→Prop:=fun h v=>∃ a,v = .ref a∧LsAt (fz (c.XX ρ) h) h a ds
section
variable {a b:Int}
theorem Bi0 (ok:Ay0 c) (h1:EvD c ρ l (.int a)) (h2:EvD c ρ r (.int b)):EvD c ρ (.BinOp l .Add r pos) (.int (a + b)) :=
 Ei0 ok h1 h2 (Ph0 ok _) fun s u v S p q E=>by
  obtain ⟨t,hQ4⟩:=p.int_inv; subst hQ4; obtain ⟨t',hQ5⟩:=q.int_inv; subst hQ5
  exact add_int ⟨.toks _ _,.int _ _⟩
theorem Lx0 (ok:Ay0 c) (h1:EvD c ρ l (.int a)) (h2:EvD c ρ r (.int b)) (hm:IntMulOk a b):EvD c ρ (.BinOp l .Mult r pos) (.int (a * b)) :=
 Ei0 ok h1 h2 (Ph0 ok _) fun s u v S p q E=>by
  obtain ⟨t,hQ6⟩:=p.int_inv; subst hQ6; obtain ⟨t',hQ7⟩:=q.int_inv; subst hQ7
  exact PyProof.Rows.mul_int ⟨.toks _ _,.int _ _⟩ hm
theorem Fp0 (ok:Ay0 c) (h1:EvD c ρ l (.int a)) (h2:EvD c ρ r (.int b)) (hb:b ≠ 0):EvD c ρ (.BinOp l .Mod r pos) (.int (a.fmod b)) :=
 Ei0 ok h1 h2 (Ph0 ok _) fun s u v S p q E=>by
  obtain ⟨t,hQ8⟩:=p.int_inv; subst hQ8; obtain ⟨t',hQ9⟩:=q.int_inv; subst hQ9
  exact mod_int' hb ⟨.toks _ _,.int _ _⟩
theorem Ly0 (ok:Ay0 c) (h1:EvD c ρ l (.int a)) (h2:EvD c ρ r (.int b)) (hb:b ≠ 0) (hd:Builtin.divisionGoesByPylong a b = false):EvD c ρ (.BinOp l .FloorDiv r pos) (.int (a.fdiv b)) :=
 Ei0 ok h1 h2 (Ph0 ok _) fun s u v S p q E=>by
  obtain ⟨t,hQ10⟩:=p.int_inv; subst hQ10; obtain ⟨t',hQ11⟩:=q.int_inv; subst hQ11
  exact floordiv_int hb ⟨.toks _ _,.int _ _⟩ (.inl hd)
theorem Wd0 (ok:Ay0 c) (h1:EvD c ρ l (.int a)) (h2:EvD c ρ r (.int b)) (hn:0 ≤ b) (hsz:(Builtin.Int.intBits a:Int) * b ≤ 2 ^ 27):EvD c ρ (.BinOp l .Pow r pos) (.int (a ^ b.toNat)) :=
 Ei0 ok h1 h2 (Ph0 ok _) fun s u v S p q E=>by
  obtain ⟨t,hQ12⟩:=p.int_inv; subst hQ12; obtain ⟨t',hQ13⟩:=q.int_inv; subst hQ13
  exact pow_int hn hsz ⟨.toks _ _,.int _ _⟩
theorem Hs0 (h1:EvD c ρ l (.int a)):EvD c ρ (.UnaryOp .USub l pos) (.int (-a)):=fun s S E =>
 wpAny_UnaryOp (wM (h1 s S E) (fun v s' hh=>by
  obtain ⟨k,p⟩:=hh; obtain ⟨t,hQ14⟩:=p.int_inv; subst hQ14; exact PyProof.Rows.neg_int ⟨k.trans (.toks _ _),.int _ _⟩) fun _ _ x=>x)
theorem Be0 (ok:Ay0 c) (h1:EvD c ρ l (.str x)) (h2:EvD c ρ r (.str y)) (hsz:x.length + y.length ≤ sizeLine):EvD c ρ (.BinOp l .Add r pos) (.str (x ++ y)) :=
 Ei0 ok h1 h2 (Ph0 ok _) fun s u v S p q E=>by
  obtain ⟨t,hQ15⟩:=p.str_inv; subst hQ15; obtain ⟨t',hQ16⟩:=q.str_inv; subst hQ16
  exact add_str (fun t' tk=>⟨.toks _ _,.str _ _⟩) hsz
end
theorem LsAt.isList (x:LsAt g h a ds):∃ vs,h.IsList a vs∧RdAll g vs.toList ds :=
 by obtain ⟨vs,n,sl,e,r⟩:=x; exact ⟨vs,⟨_,e,rfl,n,rfl⟩,r⟩
theorem stL (ok:Ay0 c) {s s':Shared} (S:St c ρ s) (k:Kp c.fs s s') {ds:List PyData} {v:Value} (p:pL c ρ ds s.heap v):pL c ρ ds s'.heap v :=
 by obtain ⟨a,e,r⟩:=p; exact ⟨a,e,r.slot (Cf1 k (Dy0 ok) (Ii0 ok)) fun o q=>k.slot _ o q (r.neTab (S.tab ok))⟩
theorem Xt0 {op:Operator} {P1 P2 P:Heap→Value→Prop} (ok:Ay0 c) (h1:Ev c ρ l P1) (h2:Ev c ρ r P2)
  (st:∀ s s' v,St c ρ s→Kp c.fs s s'→P1 s.heap v→P1 s'.heap v)
  (h:∀ s a b,St c ρ s→P1 s.heap a→P2 s.heap b→∀ E,wpAny (MM c.w) c.A (binaryOp op a b) (fun v s'=>Kp c.fs s s'∧P s'.heap v) E s):Ev c ρ (.BinOp l op r pos) P:=fun s S E =>
 wpAny_BinOp (Ad0 ok h1 S (.refl _ _) fun a s1 S1 k1 _ p1=>Ad0 ok h2 S1 k1 fun b s2 S2 k2 k2' p2 =>
  wM (h s2 a b S2 (st _ _ _ S1 k2 p1) p2 E) (fun _ _ hh1=>by obtain ⟨k,p⟩:=hh1; exact ⟨k2'.trans k,p⟩) fun _ _ x=>x)
theorem Ej0 {xs ys:List PyData} (ok:Ay0 c) (h1:EvL c ρ l xs) (h2:EvL c ρ r ys) (hsz:xs.length + ys.length ≤ sizeLine):EvD c ρ (.BinOp l .Add r pos) (.list (xs ++ ys)) :=
 Xt0 ok h1 h2 (fun s s' v S k p=>stL ok S k p) fun s u v S p q E=>by
  obtain ⟨la,hQ17,vs,n,sl,e1,r1⟩:=p; subst hQ17
  obtain ⟨lb,hQ18,vs',n',sl2,e2,r2⟩:=q; subst hQ18
  have e3:=r1.length; have e4:=r2.length
  refine concat_meets ⟨_,e1,rfl⟩ ⟨_,e2,rfl⟩ noFill_list_add seq_list_add PySem.F.slot_list_add PySem.F.entry_list_add (PySem.F.args_list_add_2 _ _) (list_addW la lb vs vs' n n' none none sl sl2 ?_) ⟨e1,e2,?_⟩
  ·simp only [Array.length_toList] at e3 e4; simp_all
  ·exact ⟨.push _ _,Rd.newList S.fresh (by rw [Array.toList_append]; exact r1.append r2)⟩
noncomputable def Uf0 (c:Cx) (ρ:Rho) (op:CmpOp) (P1 P2:Heap→Value→Prop) (b:Bool):Prop :=
 ∀ s x y,St c ρ s→P1 s.heap x→P2 s.heap y→∀ E,wpAny (MM c.w) c.A (compareOp op x y) (fun v s'=>Kp c.fs s s'∧v = .bool b) E s
noncomputable def Pi0 (c:Cx) (ρ:Rho) (P:Heap→Value→Prop):Prop:=∀ s s' v,St c ρ s→Kp c.fs s s'→P s.heap v→P s'.heap v
theorem Bq0 (ok:Ay0 c) (d:PyData):Pi0 c ρ (pD c ρ d):=fun s s' v _ k p=>Ph0 ok d s s' v k p
theorem Ch1 (ok:Ay0 c) (ds:List PyData):Pi0 c ρ (pL c ρ ds):=fun s s' v S k p=>stL ok S k p
theorem Ni0 {op:CmpOp} {P1 P2:Heap→Value→Prop} {b:Bool} (ok:Ay0 c) (h1:Ev c ρ l P1) (h2:Ev c ρ r P2) (st:Pi0 c ρ P1) (h:Uf0 c ρ op P1 P2 b)
  (hm:behindInMarks op r = false:=by rfl):EvD c ρ (.Compare l [op] [r] pos) (.bool b):=fun s S E =>
 wpAny_Compare1 (Ad0 ok h1 S (.refl _ _) fun a s1 S1 k1 _ p1=>Ad0 ok h2 S1 k1 fun b s2 S2 k2 k2' p2 =>
  wM (h s2 a b S2 (st _ _ _ S1 k2 p1) p2 E) (fun _ _ hh2=>by obtain ⟨k,p⟩:=hh2; exact ⟨k2'.trans k,by subst p; exact .bool _⟩) fun _ _ x=>x) hm
theorem Aq0 {op:CmpOp} {P1 P2:Heap→Value→Prop} {b:Bool} (ok:Ay0 c) (h1:Ev c ρ l P1) (h2:Ev c ρ r P2) (st:Pi0 c ρ P1) (h:Uf0 c ρ op P1 P2 b)
  (hm:behindInMarks op r = false:=by rfl):EvB c ρ (.Compare l [op] [r] pos) b:=fun s S E =>
 wpAny_isTrue_Compare1 (Ad0 ok h1 S (.refl _ _) fun a s1 S1 k1 _ p1=>Ad0 ok h2 S1 k1 fun b s2 S2 k2 k2' p2 =>
  wM (h s2 a b S2 (st _ _ _ S1 k2 p1) p2 E) (fun _ _ hh3=>by obtain ⟨k,p⟩:=hh3; subst p; exact wpAny_truthy_bool ⟨k2'.trans k,rfl⟩) fun _ _ x=>x) hm
section
variable {a b:Int}
theorem Id1:Uf0 c ρ .Lt (pD c ρ (.int a)) (pD c ρ (.int b)) (decide (a < b)):=fun s u v S p q E=>by
 obtain ⟨t,hQ19⟩:=p.int_inv; subst hQ19; obtain ⟨t',hQ20⟩:=q.int_inv; subst hQ20; exact lt_int ⟨.refl _ _,rfl⟩
theorem La1:Uf0 c ρ .LtE (pD c ρ (.int a)) (pD c ρ (.int b)) (decide (a ≤ b)):=fun s u v S p q E=>by
 obtain ⟨t,hQ21⟩:=p.int_inv; subst hQ21; obtain ⟨t',hQ22⟩:=q.int_inv; subst hQ22; exact PyProof.Rows.le_int ⟨.refl _ _,rfl⟩
theorem Lb1:Uf0 c ρ .GtE (pD c ρ (.int a)) (pD c ρ (.int b)) (decide (b ≤ a)):=fun s u v S p q E=>by
 obtain ⟨t,hQ23⟩:=p.int_inv; subst hQ23; obtain ⟨t',hQ24⟩:=q.int_inv; subst hQ24; exact PyProof.Rows.ge_int ⟨.refl _ _,rfl⟩
theorem Gp0:Uf0 c ρ .Eq (pD c ρ (.int a)) (pD c ρ (.int b)) (a == b):=fun s u v S p q E=>by
 obtain ⟨t,hQ25⟩:=p.int_inv; subst hQ25; obtain ⟨t',hQ26⟩:=q.int_inv; subst hQ26; exact eq_int ⟨.refl _ _,rfl⟩
theorem Pj0:Uf0 c ρ .NotEq (pD c ρ (.int a)) (pD c ρ (.int b)) (a != b):=fun s u v S p q E=>by
 obtain ⟨t,hQ27⟩:=p.int_inv; subst hQ27; obtain ⟨t',hQ28⟩:=q.int_inv; subst hQ28; exact ne_int ⟨.refl _ _,rfl⟩
theorem Gq0:Uf0 c ρ .Eq (pD c ρ (.str x)) (pD c ρ (.str y)) (x == y):=fun s u v S p q E=>by
 obtain ⟨t,hQ29⟩:=p.str_inv; subst hQ29; obtain ⟨t',hQ30⟩:=q.str_inv; subst hQ30; exact eq_str ⟨.refl _ _,rfl⟩
theorem Xu0:Uf0 c ρ .NotEq (pD c ρ (.str x)) (pD c ρ (.str y)) (x != y):=fun s u v S p q E=>by
 obtain ⟨t,hQ31⟩:=p.str_inv; subst hQ31; obtain ⟨t',hQ32⟩:=q.str_inv; subst hQ32; exact PyProof.Rows.ne_str ⟨.refl _ _,rfl⟩
theorem Pk0:Uf0 c ρ .NotIn (pD c ρ (.str y)) (pD c ρ (.str x)) (!Txt.contains x y):=fun s u v S p q E=>by
 obtain ⟨t,hQ33⟩:=p.str_inv; subst hQ33; obtain ⟨t',hQ34⟩:=q.str_inv; subst hQ34; exact SB.notContains ⟨.refl _ _,rfl⟩
end
theorem RdAll.strs (r:RdAll g vs (ys.map .str)):StrsAre vs ys:=by
 induction ys generalizing vs with
 | nil=>rw [r.nil_inv]; exact .nil
 | cons y ys ih =>
  obtain ⟨v,vs,hQ35,p,q⟩:=r.cons_inv; subst hQ35
  obtain ⟨t,hQ36⟩:=p.str_inv; subst hQ36
  exact .cons _ _ (ih q)
theorem LsAt.isListL (x:LsAt g h a ds):∃ vs:List Value,h.IsList a vs.toArray∧RdAll g vs ds :=
 by obtain ⟨vs,n,sl,e,r⟩:=x; exact ⟨vs.toList,⟨_,e,rfl,n,by simp⟩,r⟩
section
variable {d1 d2:PyData} {xs ws:List PyData}
theorem Cx0:Uf0 c ρ .NotIn (pD c ρ (.str x)) (pL c ρ (ys.map .str)) (!(ys.any (· == x))):=fun s u v S p q E=>by
 obtain ⟨t,hQ37⟩:=p.str_inv; subst hQ37; obtain ⟨la,hQ38,r⟩:=q; subst hQ38; obtain ⟨vs,h,r⟩:=r.isListL
 exact notin_list_strs h r.strs ⟨.refl _ _,rfl⟩
theorem Lz0 (ok:Ay0 c) (h1:d1.canLay0 = true) (h2:d2.canLay0 = true) (hd:d1.depth ≤ 64):Uf0 c ρ .Eq (pD c ρ d1) (pD c ρ d2) (d1.eqv d2):=fun s u v S p q E=>by
 obtain ⟨as,p⟩:=p.reads (h:=s.heap) fun _ _ e=>Ah0 e
 obtain ⟨bs,q⟩:=q.reads (h:=s.heap) fun _ _ e=>Ah0 e
 have hu:=ok.units
 exact SeqAt.compareEq_reads p q h1 h2 (by unfold cLine; lia) ⟨.refl _ _,rfl⟩
theorem Ma0 (ok:Ay0 c) (h1:d1.canLay0 = true) (h2:d2.canLay0 = true) (hd:d1.depth ≤ 64):Uf0 c ρ .NotEq (pD c ρ d1) (pD c ρ d2) (!d1.eqv d2):=fun s u v S p q E=>by
 obtain ⟨as,p⟩:=p.reads (h:=s.heap) fun _ _ e=>Ah0 e
 obtain ⟨bs,q⟩:=q.reads (h:=s.heap) fun _ _ e=>Ah0 e
 have hu:=ok.units
 exact SeqAt.compareNe_reads p q h1 h2 (by unfold cLine; lia) ⟨.refl _ _,rfl⟩
end
section
variable {x y:Expr} {b b':Bool}
theorem Xv0 (ok:Ay0 c) (h1:EvB c ρ x b) (h2:b = true→EvB c ρ y b'):EvB c ρ (.BoolOp .And [x,y] pos) (b && b'):=fun s S E =>
 wpAny_isTrue_BoolOp (wpAny_allTrue_And_cons (Cw0 ok h1 S (.refl _ _) fun s1 S1 k _=>by
  cases b with
  | false=>exact ⟨k,rfl⟩
  | true=>exact wpAny_allTrue_And_cons (Cw0 ok (h2 rfl) S1 k fun s2 S2 _ k'=>by
    cases b' with
    | false=>exact ⟨k',rfl⟩
    | true=>exact wpAny_allTrue_And_nil ⟨k',rfl⟩)))
theorem Ie1 (ok:Ay0 c) (h1:EvD c ρ x (.bool b)) (h2:b = true→EvD c ρ y (.bool b')):EvD c ρ (.BoolOp .And [x,y] pos) (.bool (b && b')):=fun s S E=>by
 refine wpAny_And2 (Ad0 ok h1 S (.refl _ _) fun v s1 S1 k _ p=>?_)
 cases p.bool_inv
 refine wpAny_truthy_bool ?_
 cases b with
 | false=>exact ⟨k,.bool _⟩
 | true=>exact Ad0 ok (h2 rfl) S1 k fun v' s2 S2 _ k' p'=>⟨k',p'⟩
theorem Ug0 {e1 e2 t:Expr} {P:Heap→Value→Prop} (ok:Ay0 c) (ht:EvB c ρ t b) (h1:b = true→Ev c ρ e1 P) (h2:b = false→Ev c ρ e2 P):Ev c ρ (.IfExp t e1 e2 pos) P:=fun s S E=>by
 refine wpAny_IfExp (Cw0 ok ht S (.refl _ _) fun s1 S1 k _=>?_)
 cases b with
 | true=>exact Ad0 ok (h1 rfl) S1 k fun v' s2 S2 _ k' p'=>⟨k',p'⟩
 | false=>exact Ad0 ok (h2 rfl) S1 k fun v' s2 S2 _ k' p'=>⟨k',p'⟩
end
noncomputable def Fb0 (c:Cx) (ρ:Rho) (es:List Expr) (ds:List PyData):Prop :=
 ∀ pos s,St c ρ s→∀ E,wpAny (MM c.w) c.A (spliced (backTo pos (starEach es c.env))) (fun vs s'=>Kp c.fs s s'∧RdAll (fz (c.XX ρ) s'.heap) vs ds) E s
section
theorem Ac0:Fb0 c ρ [] []:=fun pos s S E=>wpAny_items_nil ⟨.refl _ _,.nil⟩
theorem Ab0 (ok:Ay0 c) (h1:EvD c ρ e d) (h2:Fb0 c ρ es ds) (he:starEach (e :: es) c.env = (false,eval e c.env) :: starEach es c.env:=by rfl):Fb0 c ρ (e :: es) (d :: ds):=fun pos s S E =>
 wpAny_items_cons (Ad0 ok h1 S (.refl _ _) fun v s1 S1 k _ p=>wM (h2 pos s1 S1 E) (fun vs s2 hh1=>by obtain ⟨k',q⟩:=hh1; exact ⟨k.trans k',.cons (p.step k' (Dy0 ok) (Ii0 ok)) q⟩) fun _ _ x=>x) he
theorem Bj0 (ok:Ay0 c) (h:Fb0 c ρ es ds) {s s₀:Shared} (S:St c ρ s) (k₀:Kp c.fs s₀ s) {E:Value→Shared→Prop} {Q:List Value→Shared→Prop}
  (hq:∀ vs s',St c ρ s'→Kp c.fs s s'→Kp c.fs s₀ s'→RdAll (fz (c.XX ρ) s'.heap) vs ds→Q vs s'):wpAny (MM c.w) c.A (spliced (backTo pos (starEach es c.env))) Q E s :=
 wpAny_with_toks (n:=1) S.toks (wM (h pos s S _) (fun v s' hh2 ht=>by obtain ⟨k,p⟩:=hh2; exact hq v s' (S.step ok k ht) k (k₀.trans k) p) fun _ _ x=>x)
theorem Ek0 (ok:Ay0 c) (h:Fb0 c ρ es ds) (hsz:ds.length ≤ sizeLine):EvD c ρ (.List es pos) (.list ds):=fun s S E =>
 List_ (Bj0 ok h S (.refl _ _) fun vs s1 S1 k _ r=>wpAny_newList ⟨k.trans (.push _ _),Rd.newList S1.fresh (by simpa using r)⟩ (by rw [r.length]; exact hsz))
theorem Cn0 {kk:Nat} (ok:Ay0 c) (h:Fb0 c ρ es ds) (hsz:ds.length ≤ sizeLine):EvD c ρ (.Tuple es kk pos) (.tuple ds):=fun s S E =>
 Tuple_ (Bj0 ok h S (.refl _ _) fun vs s1 S1 k _ r=>wpAny_newTuple ⟨k.trans (.push _ _),Rd.newTuple S1.fresh (by simpa using r)⟩ (by rw [r.length]; exact hsz))
end
theorem Jg0 {v i:Expr} {P1 P2 P:Heap→Value→Prop} (ok:Ay0 c) (h1:Ev c ρ v P1) (h2:Ev c ρ i P2) (st:Pi0 c ρ P1)
  (h:∀ s o j,St c ρ s→P1 s.heap o→P2 s.heap j→∀ E,wpAny (MM c.w) c.A (subscriptTail v i o j) (fun u s'=>Kp c.fs s s'∧P s'.heap u) E s):Ev c ρ (.Subscript v i pos) P:=fun s S E =>
 Subscript_ (Ad0 ok h1 S (.refl _ _) fun o s1 S1 k1 _ p1=>Ad0 ok h2 S1 k1 fun j s2 S2 k2 k2' p2 =>
  wM (h s2 o j S2 (st _ _ _ S1 k2 p1) p2 E) (fun _ _ hh3=>by obtain ⟨k,p⟩:=hh3; exact ⟨k2'.trans k,p⟩) fun _ _ x=>x)
section
variable {v i:Expr} {k:Int}
theorem Bk0 (ok:Ay0 c) (h1:EvL c ρ v ds) (h2:EvD c ρ i (.int k)) (h0:0 ≤ k) (hk:ds[k.toNat]? = some d) (hb:k < 2 ^ 63)
  (hs:∀ o j,subscripted i false o j = operate [o,j] (getItem o j):=by intro _ _; rfl):EvD c ρ (.Subscript v i pos) d :=
 Jg0 ok h1 h2 (Ch1 ok _) fun s o j S p q E=>by
  obtain ⟨t,hQ39⟩:=q.int_inv; subst hQ39
  obtain ⟨a,hQ40,r⟩:=p; subst hQ40
  obtain ⟨vs,hl,r⟩:=r.isList
  obtain ⟨u,e,r'⟩:=r.get _ _ hk
  exact tail_any hl.typeIs slot_list_getitem.lookup (wpAny_getItem_list hl h0 hb (by simpa using e) ⟨.refl _ _,r'⟩) (hs _ _)
theorem Sj0 (ok:Ay0 c) (h1:EvL c ρ v ds) (h2:EvD c ρ i (.int k)) (h0:k < 0) (h3:-(ds.length:Int) ≤ k) (hk:ds[(k + ds.length).toNat]? = some d) (hb:-(2 ^ 63) ≤ k)
  (hs:∀ o j,subscripted i false o j = operate [o,j] (getItem o j):=by intro _ _; rfl):EvD c ρ (.Subscript v i pos) d :=
 Jg0 ok h1 h2 (Ch1 ok _) fun s o j S p q E=>by
  obtain ⟨t,hQ41⟩:=q.int_inv; subst hQ41
  obtain ⟨a,hQ42,r⟩:=p; subst hQ42
  obtain ⟨vs,hl,r⟩:=r.isList
  obtain ⟨u,e,r'⟩:=r.get _ _ hk
  have hl2:=r.length
  refine tail_any hl.typeIs slot_list_getitem.lookup (wpAny_getItem_list_neg hl h0 (by simp only [Array.length_toList] at hl2; simp_all) hb ?_ ⟨.refl _ _,r'⟩) (hs _ _)
  rw [← Array.getElem?_toList]; simp only [Array.length_toList] at hl2; rw [hl2]; exact e
theorem Sk0 (ok:Ay0 c) (h1:EvD c ρ v (.tuple ds)) (h2:EvD c ρ i (.int k)) (h0:0 ≤ k) (hk:ds[k.toNat]? = some d) (hb:k < 2 ^ 63)
  (hs:∀ o j,subscripted i false o j = operate [o,j] (getItem o j):=by intro _ _; rfl):EvD c ρ (.Subscript v i pos) d :=
 Jg0 ok h1 h2 (Bq0 ok _) fun s o j S p q E=>by
  obtain ⟨t,hQ43⟩:=q.int_inv; subst hQ43
  obtain ⟨a,vs,n,sl,hQ44,e0,r⟩:=p.tuple_inv; subst hQ44
  obtain ⟨u,e,r'⟩:=r.get _ _ hk
  have hlt:=(List.getElem?_eq_some_iff.mp e).1
  have hT:IsTup s.heap a vs:=⟨_,Ah0 e0,rfl,n,rfl⟩
  refine item_tupleT (l:=vs.toList) (by simpa using hT) (by lia) hb (j:=k.toNat) ?_ e ⟨.refl _ _,r'⟩ (hs _ _)
  have h0':¬ k < 0:=by simp_all
  simp only [Array.length_toList] at hlt ⊢
  simp only [seqIndex?,h0',if_false]
  rw [if_pos (by simp; exact Ky1 ‹_› ‹_›)]
end
noncomputable def EvO (c:Cx) (ρ:Rho):Option Expr→Option Int→Prop
 | none,none=>True
 | some e,some k=>EvD c ρ e (.int k)
 | _,_=>False
noncomputable def pSl (lo hi:Option Int) (h:Heap) (v:Value):Prop:=∃ a vl vu,v = .ref a∧h.IsSliceOf a vl vu .none∧IsPart vl lo∧IsPart vu hi
theorem Pl0 {e:Option Expr} {k:Option Int} (ok:Ay0 c) (h:EvO c ρ e k) {s s₀:Shared} (S:St c ρ s) (k₀:Kp c.fs s₀ s) {E:Value→Shared→Prop} {Q:Value→Shared→Prop}
  (hq:∀ v s',St c ρ s'→Kp c.fs s₀ s'→IsPart v k→Q v s'):wpAny (MM c.w) c.A (evalPart e c.env) Q E s:=by
 match e,k,h with
 | none,none,_=>exact wP (hq _ _ S k₀ .none)
 | some e,some k,h =>
  have h:EvD c ρ e (.int k):=h
  exact Ad0 ok h S k₀ fun v s' S' _ k' p=>by obtain ⟨t,hQ45⟩:=p.int_inv; subst hQ45; exact hq _ _ S' k' (.int _ _)
theorem If1 {lo hi:Option Expr} {l u:Option Int} (ok:Ay0 c) (h1:EvO c ρ lo l) (h2:EvO c ρ hi u):Ev c ρ (.Slice lo hi none pos) (pSl l u):=fun s S E =>
 wpAny_Slice (Pl0 ok h1 S (.refl _ _) fun v s1 S1 k1 p1=>Pl0 ok h2 S1 k1 fun v' s2 S2 k2 p2=>by
  rw [evalPart_none]
  exact wP ⟨k2.trans (.push _ _),_,_,_,rfl,Heap.IsSliceOf.new _ _ _ _,p1,p2⟩)
noncomputable def Nj0 {α:Type} (ds:List α) (lo hi:Option Int):List α:=(ds.drop (lo.elim 0 (clipAt ds.length))).take (hi.elim ds.length (clipAt ds.length) - lo.elim 0 (clipAt ds.length))
section
variable {v:Expr} {lo hi:Option Expr} {l u:Option Int} {p:Pos}
theorem Cb0 (ok:Ay0 c) (h:EvL c ρ v ds) (h1:EvO c ρ lo l) (h2:EvO c ρ hi u) (hsz:ds.length ≤ sizeLine):EvD c ρ (.Subscript v (.Slice lo hi none p) pos) (.list (Nj0 ds l u)) :=
 Jg0 ok h (If1 ok h1 h2) (Ch1 ok _) fun s o j S q r E=>by
  obtain ⟨a,hQ46,q⟩:=q; subst hQ46
  obtain ⟨b,vl,vu,hQ47,hs,pl,pu⟩:=r; subst hQ47
  obtain ⟨vs,hl,q⟩:=q.isList
  have hlen:=q.length
  simp only [Array.length_toList] at hlen
  refine tail_any (ops:=[.ref b,.ref a]) hl.typeIs slot_list_getitem.lookup (wpAny_getItem_list_slice hl hs pl pu .none (by simp) ⟨.push _ _,Rd.newList S.fresh ?_⟩ (by simp_all)) rfl
  rw [slicePick_plain]
  simp only [Nj0,hlen]
  exact RdAll.take _ (RdAll.drop _ q)
theorem Cu0 (ok:Ay0 c) (h:EvD c ρ v (.str x)) (h1:EvO c ρ lo l) (h2:EvO c ρ hi u) (hsz:x.length ≤ sizeLine):EvD c ρ (.Subscript v (.Slice lo hi none p) pos) (.str (Txt.slice x l u)) :=
 Jg0 ok h (If1 ok h1 h2) (Bq0 ok _) fun s o j S q r E=>by
  obtain ⟨t,hQ48⟩:=q.str_inv; subst hQ48
  obtain ⟨b,vl,vu,hQ49,hs,pl,pu⟩:=r; subst hQ49
  have key:∃ l' u':Option (Int × Tok),vl = partValue l'∧vu = partValue u'∧l'.map (·.1) = l∧u'.map (·.1) = u:=by
   cases pl with
   | none=>cases pu with
    | none=>exact ⟨none,none,rfl,rfl,rfl,rfl⟩
    | int j u=>exact ⟨none,some (j,u),rfl,rfl,rfl,rfl⟩
   | int i t=>cases pu with
    | none=>exact ⟨some (i,t),none,rfl,rfl,rfl,rfl⟩
    | int j u=>exact ⟨some (i,t),some (j,u),rfl,rfl,rfl,rfl⟩
  obtain ⟨l',u',hQ50,hQ51,hQ52,hQ53⟩:=key; subst hQ50; subst hQ51; subst hQ52; subst hQ53
  obtain ⟨oo,ho,hc,hd⟩:=hs
  refine tail_any (ops:=[.ref b,.str x t]) (typeIs_str _ _ _) F.slot_str_getitem.lookup (wpAny_getItem_str_slice (l:=l') (u:=u') (st:=none) ⟨oo,ho,hc,hd⟩ rfl ?_) rfl
  by_cases hq:((1:Int) == 1 && (Builtin.Str.strSliceIndices (l'.map (·.1)) (u'.map (·.1)) 1 x.length).length == x.length) = true
  ·have e1:sliceMade x t l' u' none = .val (.str x t):=if_pos hq
   have e2:Txt.slice x (l'.map (·.1)) (u'.map (·.1)) = x:=if_pos hq
   rw [e1,e2]
   exact ⟨.refl _ _,.str _ _⟩
  ·have e1:sliceMade x t l' u' none = .str (Txt.slice x (l'.map (·.1)) (u'.map (·.1))):=by
    refine (if_neg (c:=((1:Int) == 1 && (Builtin.Str.strSliceIndices (l'.map (·.1)) (u'.map (·.1)) 1 x.length).length == x.length) = true) hq).trans ?_
    unfold Txt.slice; rw [if_neg hq]; rfl
   rw [e1]
   exact ⟨Nat.le_trans (Txt.slice_le _ _ _) hsz,.toks _ _,.str _ _⟩
end
noncomputable abbrev Ig1 (R:Result→Shared→Prop):Flow→Shared→Prop:=fun fl s'=>R (.ok (.ret (match fl with | .ret v=>v | _=>.none))) s'
noncomputable abbrev Ih1 (w:World) (A:Around) (env:Env) (R:Result→Shared→Prop):Value→Shared→Prop:=fun e s'=>wpAny (MM w) (A.deeper env) (leaving env e) (fun _ s''=>R (.error e) s'') (fun e' s''=>R (.error e') s'') s'
structure Amb (w:World) (A:Around) (fs X:List Addr) (lvl:Nat) (s:Shared):Prop where
 wd:Wd w s.heap
 tab:TabOk s.heap
 hand:Nat.ble 4 lvl = true→A.handled = none
 depth:A.depth + lvl ≤ 500
 units:A.units + 4 * lvl ≤ 3000
 frames:∃ l,A.frames = some l∧fs = l.filterMap (·.frame)∧FrOk l s.heap
 fsX:∀ b ∈ fs,b ∈ X
 tX:tA ∈ X
 lo:∀ b ∈ fs,269 ≤ b
 has:∀ a ∈ X,∃ o,s.heap.get? a = some o∧Nf a o
 toks:0 < s.toks
theorem Wd.low (W:Wd w h) (k:∀ a o,a < 269→a ≠ tA→h.get? a = some o→h'.get? a = some o) (hK:∀ a o,(KF w).lookup a = some o→a < 269∧a ≠ tA):Wd w h' where
 k:=fun a o e=>k a o (hK a o e).1 (hK a o e).2 (W.k a o e)
 g:=by obtain ⟨mg,n⟩:=W.g; exact ⟨mg,n.at' fun o e=>k _ o (by decide) (by decide) e⟩
 b:=by obtain ⟨mb,n,q⟩:=W.b; exact ⟨mb,n.at' fun o e=>k _ o (by decide) (by decide) e,q⟩
 nolimit:=by obtain ⟨mc,n,q⟩:=W.nolimit; exact ⟨mc,n.at' fun o e=>k _ o (by decide) (by decide) e,q⟩
 bm:=by obtain ⟨ob,e,q⟩:=W.bm; exact ⟨ob,k _ _ (by decide) (by decide) e,q⟩
theorem Ag0 {α β:Type} [BEq α] [LawfulBEq α] {l:List (α × β)} {a:α} {b:β} (h:l.lookup a = some b):(a,b) ∈ l:=by
 induction l with
 | nil=>cases h
 | cons p r ih =>
  obtain ⟨x,y⟩:=p
  rw [List.lookup_cons] at h
  cases hx:a == x with
  | true=>rw [hx] at h; cases h; rw [eq_of_beq hx]; exact .head _
  | false=>rw [hx] at h; exact .tail _ (ih h)
theorem Gr0 (w:World):∀ a o,(KF w).lookup a = some o→a < 269∧a ≠ tA:=by
 intro a o e
 have h:a ∈ (KF w).map (·.1):=List.mem_map.mpr ⟨_,Ag0 e,rfl⟩
 have key:((KF w).map (·.1)).all (fun a=>Nat.blt a 269 && !(a == tA)) = true:=by rfl
 have:=List.all_eq_true.mp key a h
 simp only [Bool.and_eq_true,Bool.not_eq_true',beq_eq_false_iff_ne] at this
 exact ⟨by have:=this.1; simp [Nat.blt] at this; exact Nat.lt_succ_of_le this,this.2⟩
theorem St.amb (ok:CxOk c) (S:St c ρ s):Amb c.w c.A c.fs (c.XX ρ) c.lvl s where
 wd:=ok.wd.low (fun a o h1 h2 e=>S.since.keep a o e (fun q=>Nat.not_lt.mpr (ok.lo a (ok.fs0 a q)) h1) h2) (Gr0 _)
 tab:=S.tab ok
 hand:=fun q=>ok.hand (Nat.ble_eq.mpr (Nat.le_of_succ_le (Nat.ble_eq.mp q)))
 depth:=ok.depth
 units:=ok.units
 frames:=by obtain ⟨l,e,f⟩:=ok.frames; exact ⟨l,e,f,S.frs l e⟩
 fsX:=Dy0 ok
 tX:=Ii0 ok
 lo:=ok.lo
 has:=S.has
 toks:=S.toks
noncomputable def FnD (w:World) (lvl:Nat) (f:Addr) (ds:List PyData) (d:PyData):Prop :=
 ∀ A fs X s vs,Amb w A fs X lvl s→RdAll (fz X s.heap) vs ds →
  codeAny (MM w) A (.call (.ref f) ⟨vs,[]⟩) (fun r s'=>∃ v,r = .ok (.ret v)∧Kp fs s s'∧Rd (fz X s'.heap) v d) s
noncomputable def Bg0 (scope:Scope):List Str:=(scope.names.filter fun x=>x.2 == .cell).map (·.1)
noncomputable def Hz1 (c:Cx) (d:PyData) (fl:Flow) (s':Shared):Prop :=
 Kp c.fs0 c.s0 s'∧Rd (fz c.X0 s'.heap) (match fl with | .ret v=>v | _=>.none) d
theorem Pm0 {kindOf:Str→Option NameKind} (hx:kindOf x = some .local):∀ (ps:List Str) (vs:List Value) (m:Str→Option Value) (i:Nat) (v:Value),ps.Nodup→ps[i]? = some x→vs[i]? = some v→bindL kindOf (ps.zip vs) m x = some v
 | [],_,_,_,_,_,h,_=>by simp at h
 | _ :: _,[],_,_,_,_,_,h=>by simp at h
 | p :: ps,u :: vs,m,0,v,nd,h1,h2=>by
  simp at h1 h2; subst h1 h2
  rw [List.zip_cons_cons,bindL,if_pos hx]
  have hnot:p ∉ ps:=(List.nodup_cons.mp nd).1
  clear hx nd
  have key:∀ (ps:List Str) (vs:List Value) (m:Str→Option Value),p ∉ ps→m p = some u→bindL kindOf (ps.zip vs) m p = some u:=by
   intro ps
   induction ps with
   | nil=>intro vs m _ h; exact h
   | cons q ps ih =>
    intro vs m hn h
    cases vs with
    | nil=>exact h
    | cons z vs =>
     rw [List.zip_cons_cons,bindL]
     refine ih vs _ (fun hh=>hn (.tail _ hh)) ?_
     have:p ≠ q:=fun e=>hn (e ▸ .head _)
     split
     ·simp [this,h]
     ·exact h
  exact key ps vs _ hnot (by simp)
 | p :: ps,u :: vs,m,i + 1,v,nd,h1,h2=>by
  rw [List.zip_cons_cons,bindL]
  exact Pm0 hx ps vs _ i v (List.nodup_cons.mp nd).2 (by simpa using h1) (by simpa using h2)
theorem Pn0 {kindOf:Str→Option NameKind} (hx:kindOf x ≠ some .local):∀ (ps:List Str) (vs:List Value) (m:Str→Option Value) (i:Nat) (v:Value),ps.Nodup→ps[i]? = some x→vs[i]? = some v→bindC kindOf (ps.zip vs) m x = some v
 | [],_,_,_,_,_,h,_=>by simp at h
 | _ :: _,[],_,_,_,_,_,h=>by simp at h
 | p :: ps,u :: vs,m,0,v,nd,h1,h2=>by
  simp at h1 h2; subst h1 h2
  rw [List.zip_cons_cons,bindC,if_neg hx]
  have hnot:p ∉ ps:=(List.nodup_cons.mp nd).1
  clear hx nd
  have key:∀ (ps:List Str) (vs:List Value) (m:Str→Option Value),p ∉ ps→m p = some u→bindC kindOf (ps.zip vs) m p = some u:=by
   intro ps
   induction ps with
   | nil=>intro vs m _ h; exact h
   | cons q ps ih =>
    intro vs m hn h
    cases vs with
    | nil=>exact h
    | cons z vs =>
     rw [List.zip_cons_cons,bindC]
     refine ih vs _ (fun hh=>hn (.tail _ hh)) ?_
     have:p ≠ q:=fun e=>hn (e ▸ .head _)
     split
     ·exact h
     ·simp [this,h]
  exact key ps vs _ hnot (by simp)
 | p :: ps,u :: vs,m,i + 1,v,nd,h1,h2=>by
  rw [List.zip_cons_cons,bindC]
  exact Pn0 hx ps vs _ i v (List.nodup_cons.mp nd).2 (by simpa using h1) (by simpa using h2)
theorem Co0:∀ (ps:List Str) (ss:List Slot) (x:Str) (sl:Slot),(ps.zip ss).lookup x = some sl→∃ i:Nat,ps[i]? = some x∧ss[i]? = some sl
 | [],_,_,_,h=>by simp at h
 | _ :: _,[],_,_,h=>by simp at h
 | p :: ps,u :: ss,x,sl,h=>by
  rw [List.zip_cons_cons,List.lookup_cons] at h
  cases hx:x == p with
  | true=>rw [hx] at h; cases h; exact ⟨0,by simp [eq_of_beq hx],rfl⟩
  | false =>
   rw [hx] at h
   obtain ⟨i,a,b⟩:=Co0 ps ss x sl h
   exact ⟨i + 1,by simpa using a,by simpa using b⟩
theorem Av0 {β:Type}:∀ {l:List (Str × β)} {n:Str} {a:β},(l.map (·.1)).Nodup→(n,a) ∈ l→l.lookup n = some a
 | [],_,_,_,h=>nomatch h
 | (m,b) :: r,n,a,nd,h=>by
  rw [List.map_cons,List.nodup_cons] at nd
  rw [List.lookup_cons]
  rcases List.mem_cons.mp h with e | h
  ·cases e; simp
  ·have hne:n ≠ m:=fun e=>nd.1 (e ▸ List.mem_map.mpr ⟨_,h,rfl⟩)
   have:(n == m) = false:=by simpa using hne
   rw [this]; exact Av0 nd.2 h
inductive BdAll (g:Addr→Option Obj):List Value→List Slot→Prop
 | nil:BdAll g [] []
 | val {v vs d ss:_}:Rd g v d→BdAll g vs ss→BdAll g (v :: vs) (.val d :: ss)
 | raw {v vs ss:_}:BdAll g vs ss→BdAll g (v :: vs) (.raw v :: ss)
noncomputable def Mx1 (g:Addr→Option Obj) (v:Value):Slot→Prop
 | .val d=>Rd g v d
 | .raw u=>u = v
 | .own _ _=>False
theorem BdAll.get {ss:List Slot} (r:BdAll g vs ss):∀ (i:Nat) (sl:Slot),ss[i]? = some sl→∃ v,vs[i]? = some v∧Mx1 g v sl:=by
 induction r with
 | nil=>intro _ _ e; cases e
 | val r _ ih =>
  intro i sl e
  cases i with
  | zero=>exact ⟨_,rfl,Option.some.inj e ▸ r⟩
  | succ i=>exact ih i sl e
 | raw _ ih =>
  intro i sl e
  cases i with
  | zero=>exact ⟨_,rfl,Option.some.inj e ▸ rfl⟩
  | succ i=>exact ih i sl e
theorem BdAll.noOwn {ss:List Slot} (r:BdAll g vs ss):∀ sl ∈ ss,sl.addr? = none:=by
 induction r with
 | nil=>intro _ h; cases h
 | val _ _ ih =>
  intro sl h
  rcases List.mem_cons.mp h with q | q
  ·rw [q]; rfl
  ·exact ih sl q
 | raw _ ih =>
  intro sl h
  rcases List.mem_cons.mp h with q | q
  ·rw [q]; rfl
  ·exact ih sl q
theorem BdAll.ofRd (r:RdAll g vs ds):BdAll g vs (ds.map .val):=r.ind (M:=fun vs ds=>BdAll g vs (ds.map .val)) .nil fun r _ ih=>.val r ih
theorem Uh0 {ss:List Slot} (r:BdAll g vs ss) (ps:List Str):As0 (ps.zip ss) = []:=by
 unfold As0
 rw [List.filterMap_eq_nil_iff]
 intro p hp
 exact r.noOwn _ (List.of_mem_zip (a:=p.1) (b:=p.2) hp).2
theorem Ui0 {lvl:Nat} {sls:List Slot} {ps:List Str} {cdv:Value} {P:Prop}
  (am:Amb w A fs X (lvl + 1) { s with toks:=s.toks + 1 }) (rv:BdAll (fz X s.heap) vs sls)
  (hnd:ps.Nodup) (hkind:(ps.all fun y=>scope.names.lookup y == some .local || scope.names.lookup y == some .cell) = true)
  (hcn:((cellsFrom 0 scope.names []).map (·.1)).Nodup) (hcd2:ps.all (fun x=>x != ("__classdict__" : Str)) = true) (hk:scope.kind = .function)
  (x:InCallC s (envOfC qual scope s.heap.objs.size f cdv).locals (bindL (envOfC qual scope s.heap.objs.size f cdv).kindOf (ps.zip vs) fun _=>none) (envOfC qual scope s.heap.objs.size f cdv).cells (bindC (envOfC qual scope s.heap.objs.size f cdv).kindOf (ps.zip vs) fun _=>none) s') (ht:1 ≤ s'.toks)
  (hb:∀ X' fs',let c:Cx:=⟨w,A.deeper (envOfC qual scope s.heap.objs.size f cdv),envOfC qual scope s.heap.objs.size f cdv,X',X,fs',fs,s,lvl,Bg0 scope,It0⟩; (∀ b ∈ X',b ∈ X ∨ s.heap.get? b = none)→CxOk c→St c (ps.zip sls) s'→P):P:=by
 let env:Env:=envOfC qual scope s.heap.objs.size f cdv
 let Xn:List Addr:=s.heap.objs.size :: (env.cells.map (·.2) ++ X)
 let c:Cx:=⟨w,A.deeper env,env,Xn,X,s.heap.objs.size :: fs,fs,s,lvl,Bg0 scope,It0⟩
 have hXn:∀ a,a ∈ Xn→a = s.heap.objs.size ∨ (∃ n,(n,a) ∈ env.cells) ∨ a ∈ X:=fun a ha=>by
  rcases List.mem_cons.mp ha with e | ha
  ·exact .inl e
  ·rcases List.mem_append.mp ha with ha | ha
   ·obtain ⟨⟨n,b⟩,hm,e⟩:=List.mem_map.mp ha
    exact .inr (.inl ⟨n,e ▸ hm⟩)
   ·exact .inr (.inr ha)
 have hXX:∀ a,a ∈ X→a ∈ Xn:=fun a ha=>.tail _ (List.mem_append_right _ ha)
 have hcap:=x.apart; have hcab:=x.above; have hcel:=x.cell
 obtain ⟨h₁,tk,hs',_⟩:=x.done
 have hk₁:=x.toInCall.keep
 have hns:=x.toInCall.ns
 obtain ⟨l,hl,hfs,hfr⟩:=am.frames
 have hA:(A.deeper env).frames = some (env :: l):=by simp [Around.deeper,hl]
 have hnoneL:∀ b,s.heap.objs.size ≤ b→s.heap.get? b = none:=fun b hb=>by
  cases q:s.heap.get? b with
  | none=>rfl
  | some o=>exact absurd (Heap.lt_size q) (Nat.not_lt.mpr hb)
 have hsz:269 ≤ s.heap.objs.size:=Heap.lt_size (am.wd.k 268 (((KF w).lookup 268).get (by rfl)) (by rfl))
 have hcel':∀ n a,(n,a) ∈ env.cells→s'.heap.IsCell a (bindC env.kindOf (ps.zip vs) (fun _=>none) n):=fun n a hm =>
  hcel n a (Av0 (cellsFrom_names scope.names 0 (s.heap.objs.size + 1) [] [] rfl ▸ hcn) hm)
 have ok:CxOk c:=⟨am.wd,am.tab,fun q=>am.hand (Nat.ble_eq.mpr (Nat.succ_le_succ (Nat.ble_eq.mp q))),(by have:=am.depth; show A.depth + 1 + lvl ≤ 500; lia),(by have:=am.units; show A.units + 3 + 4 * lvl ≤ 3000; lia),
  ⟨_,hA,by rw [List.filterMap_cons]; show s.heap.objs.size :: fs = _; rw [hfs]; rfl⟩,
  fun b hb=>(List.mem_cons.mp hb).elim (fun e=>e ▸ .head _) fun hb=>hXX b (am.fsX b hb),hXX _ am.tX,fun b hb=>(List.mem_cons.mp hb).elim (fun e=>e ▸ hsz) (am.lo b),fun b hb=>.tail _ hb,
  fun b hb hn=>(List.mem_cons.mp hb).elim (fun e=>hnoneL _ (Nat.le_of_eq e.symm)) fun hb=>absurd hb hn,hk,rfl,rfl,hXX,(fun b hb=>by obtain ⟨o,e,_⟩:=am.has b hb; exact ⟨o,e⟩),.head _,
  fun n a hm=>.tail _ (List.mem_append_left _ (List.mem_map.mpr ⟨_,hm,rfl⟩)),hnoneL _ (Nat.le_refl _),fun n a _ hm=>hnoneL _ (Nat.le_of_lt (hcab n a (Ag0 hm))),hcap⟩
 have hXe:∀ a,a ∈ c.XX (ps.zip sls)→a ∈ Xn:=fun a ha=>by
  unfold Cx.XX at ha; rw [Uh0 rv] at ha; exact ha
 have hsee:∀ (y:Str) (i:Nat) (v:Value),ps[i]? = some y→vs[i]? = some v→Sees env s'.heap y v:=by
  intro y i v h1 h5
  have hy':=List.all_eq_true.mp hkind y (List.mem_of_getElem? h1)
  rcases Bool.or_eq_true_iff.mp hy' with q | q
  ·have q':env.kindOf y = some .local:=eq_of_beq q
   exact .inl ⟨q',_,hns,Pm0 q' ps vs _ i v hnd h1 h5⟩
  ·have q':env.kindOf y = some .cell:=eq_of_beq q
   obtain ⟨a,ha⟩:=Option.isSome_iff_exists.mp (cellsFrom_some scope.names (s.heap.objs.size + 1) [] (.inl (eq_of_beq q)))
   refine .inr ⟨.inl q',?_,a,ha,?_⟩
   ·have:=List.all_eq_true.mp hcd2 y (List.mem_of_getElem? h1)
    simpa using this
   ·have hc:=hcel y a ha
    have e:=Pn0 (kindOf:=env.kindOf) (fun h=>by rw [q'] at h; cases h) ps vs (fun _=>none) i v hnd h1 h5
    exact e ▸ hc
 refine hb Xn _ (fun b hb=>?_) ok ⟨?_,ht,fun l' hl'=>?_,⟨_,hns⟩,fun n a hm=>⟨_,hcel' n a hm⟩,fun y dd hy=>?_,fun a ha=>?_,fun y a dd hy=>?_,fun y v hy=>?_,(fun p hp=>False.elim hp),(fun p hp=>False.elim hp)⟩
 ·rcases hXn b hb with e | ⟨n,hm⟩ | h
  ·exact .inr (hnoneL _ (Nat.le_of_eq e.symm))
  ·exact .inr (hnoneL _ (Nat.le_of_lt (hcab n _ hm)))
  ·exact .inl h
 ·rw [hs']; exact .of_all rfl rfl (hs' ▸ hk₁)
 ·rw [hA] at hl'; cases hl'
  intro env' he
  rcases List.mem_cons.mp he with e | he
  ·obtain ⟨o,es,ep,ho,hd,_⟩:=id hns
   exact e ▸ ⟨by show scope.kind ≠ _; rw [hk]; decide,s.heap.objs.size,o,rfl,ho,⟨_,_,hd⟩,Nat.ne_of_gt (Nat.lt_of_lt_of_le (by decide) hsz)⟩
  ·obtain ⟨a,L,o,e1,e2,e3,e4⟩:=hfr env' he
   exact ⟨a,L,o,e1,hk₁ _ _ e2,e3,e4⟩
 ·obtain ⟨i,h1,h2⟩:=Co0 _ _ _ _ hy
  obtain ⟨v,h5,r⟩:=rv.get i _ h2
  refine ⟨v,hsee y i v h1 h5,Rd.mono (fun a o e=>Bf0 (hk₁ _ _ (Ah0 e)) fun hm=>?_) r⟩
  have e':=Ah0 e
  rcases hXn a (hXe a hm) with q | ⟨n,hm'⟩ | hm'
  ·rw [q,hnoneL _ (Nat.le_refl _)] at e'; cases e'
  ·rw [hnoneL _ (Nat.le_of_lt (hcab n a hm'))] at e'; cases e'
  ·exact Ae0 e hm'
 ·rcases hXn a (hXe a ha) with e' | ⟨n,hm'⟩ | hm'
  ·obtain ⟨o,es,ep,ho,hd,_⟩:=id hns; exact ⟨o,e' ▸ ho,.inr fun ws q=>by rw [hd] at q; cases q⟩
  ·obtain ⟨o,ho,hd⟩:=hcel' n a hm'; exact ⟨o,ho,.inr fun ws q=>by rw [hd] at q; cases q⟩
  ·obtain ⟨o,ho,nf⟩:=am.has a hm'; exact ⟨o,hk₁ _ _ ho,nf⟩
 ·obtain ⟨i,h1,h2⟩:=Co0 _ _ _ _ hy
  obtain ⟨v,h5,r⟩:=rv.get i _ h2
  exact r.elim
 ·obtain ⟨i,h1,h2⟩:=Co0 _ _ _ _ hy
  obtain ⟨v',h5,r⟩:=rv.get i _ h2
  have r:v = v':=r
  exact hsee y i v h1 (r ▸ h5)
theorem Uj0 {sc:Shared} {lvl:Nat} {sls:List Slot} {args:Args} {ps:List Str} {params:Arguments} {dV kV doc pm cdv ct oc:Value} {an od:Option Addr} {osl:Array (Option Value)}
  (am:Amb w A fs X (lvl + 1) s) (ho:sc.heap.get? f = some ⟨oc,od,.func (fnOf name qual params body scope dV kV doc pm an cdv ct),osl⟩)
  (hcr:sc.heap.CodeRec cdv qual) (hlen:vs.length = ps.length) (rv:BdAll (fz X s.heap) vs sls)
  (hbind:∀ (M:Model) (A:Around) (E:Value→Shared→Prop) (Q:List (Str × Value)→Shared→Prop),Q (ps.zip vs) s→wpAny M A (bindArgs (fnOf name qual params body scope dV kV doc pm an cdv ct) args) Q E sc)
  (hnd:ps.Nodup) (hkind:(ps.all fun y=>scope.names.lookup y == some .local || scope.names.lookup y == some .cell) = true)
  (hcn:((cellsFrom 0 scope.names []).map (·.1)).Nodup) (hcd2:ps.all (fun x=>x != ("__classdict__" : Str)) = true)
  (hb:∀ X' fs' L s1,let c:Cx:=⟨w,A.deeper (envOfC qual scope L f cdv),envOfC qual scope L f cdv,X',X,fs',fs,s,lvl,Bg0 scope,It0⟩; let Q:Flow→Shared→Prop:=Ig1 R; let E:Value→Shared→Prop:=Ih1 w A c.env R; (∀ b ∈ X',b ∈ X ∨ s.heap.get? b = none)→CxOk c→St c (ps.zip sls) s1 →
   wpAny (MM c.w) c.A (execs body c.env) Q
    E s1)
  (hco:scope.isCoroutine = false:=by rfl) (hgen:scope.isGenerator = false:=by rfl) (hk:scope.kind = .function:=by rfl):codeAny (MM w) A (.call (.ref f) args) R sc:=by
 have hdep:=am.depth
 refine codeAny_call_function (by unfold recursionLimit; lia) ho rfl hco hgen rfl hcr (hbind _ _ _ _ ?_)
 have hkind':∀ n,∀ x ∈ ps.zip vs,scope.names.lookup x.1 = some .local ∨ (scope.names.lookup x.1 = some .cell∧((cellsFrom n scope.names []).lookup x.1).isSome = true) :=
  kindsX (List.all_eq_true.mpr fun x hx=>List.all_eq_true.mp hkind x.1 (List.of_mem_zip (a:=x.1) (b:=x.2) hx).1)
 refine wpAny_with_toks (n:=1) am.toks (wpAny_newFunctionEnv_cells hk (hkind' _) fun env' he s' x ht=>?_)
 subst he
 exact ⟨am.wd.nolimit.keeps x.toInCall.keep,codeAny_func (Ui0 { am with toks:=Nat.succ_pos _ } rv hnd hkind hcn hcd2 hk x ht fun X' fs' h1 h2 h3=>hb X' fs' _ s' h1 h2 h3)⟩
theorem Ht0 {lvl:Nat} {sls:List Slot} {args:Args} {ps:List Str} {params:Arguments} {dV kV doc pm cdv ct oc:Value} {an od:Option Addr} {osl:Array (Option Value)}
  (am:Amb w A fs X (lvl + 1) s) (ho:s.heap.get? f = some ⟨oc,od,.func (fnOf name qual params body scope dV kV doc pm an cdv ct),osl⟩)
  (hcr:s.heap.CodeRec cdv qual) (hlen:vs.length = ps.length) (rv:BdAll (fz X s.heap) vs sls)
  (hbind:BindsTo s (fnOf name qual params body scope dV kV doc pm an cdv ct) args (ps.zip vs))
  (hnd:ps.Nodup) (hkind:(ps.all fun y=>scope.names.lookup y == some .local || scope.names.lookup y == some .cell) = true)
  (hcn:((cellsFrom 0 scope.names []).map (·.1)).Nodup) (hcd2:ps.all (fun x=>x != ("__classdict__" : Str)) = true)
  (hb:∀ X' fs' L s1,let c:Cx:=⟨w,A.deeper (envOfC qual scope L f cdv),envOfC qual scope L f cdv,X',X,fs',fs,s,lvl,Bg0 scope,It0⟩; let Q:Flow→Shared→Prop:=Ig1 R; let E:Value→Shared→Prop:=Ih1 w A c.env R; (∀ b ∈ X',b ∈ X ∨ s.heap.get? b = none)→CxOk c→St c (ps.zip sls) s1 →
   wpAny (MM c.w) c.A (execs body c.env) Q
    E s1)
  (hco:scope.isCoroutine = false:=by rfl) (hgen:scope.isGenerator = false:=by rfl) (hk:scope.kind = .function:=by rfl):codeAny (MM w) A (.call (.ref f) args) R s :=
 Uj0 am ho hcr hlen rv hbind hnd hkind hcn hcd2 hb hco hgen hk
theorem Cp0 {lvl:Nat} {ps:List Str} {params:Arguments} {dV kV doc pm cdv ct oc:Value} {an od:Option Addr} {osl:Array (Option Value)}
  (hK:(KF w).lookup f = some ⟨oc,od,.func (fnOf name qual params body scope dV kV doc pm an cdv ct),osl⟩)
  (hcd:codeIn (KF w) cdv qual = true) (hlen:ps.length = ds.length)
  (hbind:∀ s vs,vs.length = ps.length→BindsTo s (fnOf name qual params body scope dV kV doc pm an cdv ct) ⟨vs,[]⟩ (ps.zip vs))
  (hnd:ps.Nodup) (hkind:(ps.all fun y=>scope.names.lookup y == some .local || scope.names.lookup y == some .cell) = true)
  (hcn:((cellsFrom 0 scope.names []).map (·.1)).Nodup) (hcd2:ps.all (fun x=>x != ("__classdict__" : Str)) = true)
  (hb:∀ A X X0 fs fs0 s0 L s1,let c:Cx:=⟨w,A,envOfC qual scope L f cdv,X,X0,fs,fs0,s0,lvl,Bg0 scope,It0⟩; CxOk c→St c (ps.zip (ds.map .val)) s1 →
   ∀ E,wpAny (MM c.w) c.A (execs body c.env) (Hz1 c d) E s1)
  (hco:scope.isCoroutine = false:=by rfl) (hgen:scope.isGenerator = false:=by rfl) (hk:scope.kind = .function:=by rfl):FnD w (lvl + 1) f ds d:=by
 intro A fs X s vs am rv
 have hvl:vs.length = ps.length:=rv.length.trans hlen.symm
 exact Ht0 am (am.wd.k f _ hK) (codeRec_of am.wd.k hcd) hvl (BdAll.ofRd rv) (hbind s vs hvl) hnd hkind hcn hcd2 (fun X' fs' L s1 _ ok S=>wM (hb _ _ _ _ _ _ _ _ ok S _) (fun fl s' hh1=>by obtain ⟨k,r⟩:=hh1; exact ⟨_,rfl,k,r⟩) fun _ _ x=>x) hco hgen hk
theorem Amb.down {n m:Nat} (h:Amb w A fs X m s) (hn:n ≤ m):Amb w A fs X n s :=
 { h with hand:=fun q=>h.hand (Nat.ble_eq.mpr (Nat.le_trans (Nat.ble_eq.mp q) hn)),depth:=by have:=h.depth; lia,units:=by have:=h.units; lia }
theorem Xw0 {n:Nat} {oc:Value} {od:Option Addr} {fd:FuncData} {osl:Array (Option Value)} (ok:CxOk c)
  (hg:nsIn (KF c.w) mainGlobals x = some (some (.ref f))) (hx:c.env.kindOf x = some .globalImplicit) (hK:(KF c.w).lookup f = some ⟨oc,od,.func fd,osl⟩)
  (ha:Fb0 c ρ (e :: es) ds) (h:FnD c.w n f ds d) (hn:n ≤ c.lvl) (hd:(x == ("__debug__" : Str)) = false:=by rfl)
  (he:starEach (e :: es) c.env = (false,eval e c.env) :: starEach es c.env:=by rfl):EvD c ρ (.Call (.Name x np) (e :: es) [] pos) d:=fun s S E =>
 wpAny_Call_NameR (Ad0 ok (Bp0 ok hg hx hd) S (.refl _ _) fun u s1 S1 k1 _ hu=>by
  subst hu
  have hp:∀ Q,wpAny (MM c.w) c.A (spliced (backTo pos (starEach (e :: es) c.env))) (fun vs s'=>Q ⟨vs,[]⟩ s') E s1→wpAny (MM c.w) c.A (evalArgs (.ref f) true (backTo pos (starEach (e :: es) c.env)) []) Q E s1:=by
   intro Q hq; rw [he] at hq ⊢; exact evalArgs_plain hq
  refine callWith_function (o:=⟨oc,od,.func fd,osl⟩) (fd:=fd) (hp _ (Bj0 ok ha S1 k1 fun vs s2 S2 k2 k2' r=>?_))
  refine ⟨⟨S2.kf ok hK (Gr0 _ _ _ hK).1 (Gr0 _ _ _ hK).2,rfl⟩,wpAny_call (codeAny_mono (h _ _ _ _ _ ((S2.amb ok).down hn) r) fun rr s3 hh=>?_)⟩
  obtain ⟨v,e1,k3,r3⟩:=hh
  subst e1
  exact ⟨k2'.trans k3,r3⟩)
theorem Bt0 {u:Value} {P P':Heap→Value→Prop} (ok:CxOk c) (hf:Ev c ρ (.Name x np) fun _ v=>v = u) (hu:(∃ id,u = .builtin id) ∨ ∃ T,u = .type T)
  (ha:Ev c ρ e P) (h:∀ s v,St c ρ s→P s.heap v→∀ E,wpAny (MM c.w) c.A (call u [v]) (fun r s'=>Kp c.fs s s'∧P' s'.heap r) E s)
  (he:starEach [e] c.env = [(false,eval e c.env)]:=by rfl):Ev c ρ (.Call (.Name x np) [e] [] pos) P':=fun s S E =>
 wpAny_Call_NameR (Ad0 ok hf S (.refl _ _) fun v s1 S1 k1 _ hv=>by
  subst hv
  have hp:∀ Q,wpAny (MM c.w) c.A (eval e c.env) (fun v s'=>Q ⟨[v],[]⟩ s') E s1→wpAny (MM c.w) c.A (evalArgs v true (backTo pos (starEach [e] c.env)) []) Q E s1:=by
   intro Q hq; rw [he]; exact evalArgs_plain (spliced_cons (wM hq (fun _ _ h=>spliced_nil h) fun _ _ x=>x))
  have hfin:=hp (fun a s₁=>wpAny (MM c.w) c.A (call v ([] ++ a.pos) a.kw) (fun r s3=>Kp c.fs s s3∧P' s3.heap r) E s₁) (Ad0 ok ha S1 k1 fun v' s2 S2 k2 k2' p=>wM (h s2 v' S2 p E) (fun r s3 hh1=>by obtain ⟨k3,r3⟩:=hh1; exact (⟨k2'.trans k3,r3⟩:Kp c.fs s s3∧P' s3.heap r)) fun _ _ x=>x)
  rcases hu with ⟨id,rfl⟩ | ⟨T,rfl⟩
  ·exact callWith_builtin (by rw [he]; rfl) hfin
  ·exact PySem.callWith_type (by rw [he]; rfl) hfin)
theorem Ci1 {e':Expr} {u:Value} {P1 P2 P':Heap→Value→Prop} (ok:CxOk c) (hf:Ev c ρ (.Name x np) fun _ v=>v = u) (hu:(∃ id,u = .builtin id) ∨ ∃ T,u = .type T)
  (ha:Ev c ρ e P1) (ha':Ev c ρ e' P2) (st:Pi0 c ρ P1) (h:∀ s v v',St c ρ s→P1 s.heap v→P2 s.heap v'→∀ E,wpAny (MM c.w) c.A (call u [v,v']) (fun r s'=>Kp c.fs s s'∧P' s'.heap r) E s)
  (he:starEach [e,e'] c.env = [(false,eval e c.env),(false,eval e' c.env)]:=by rfl):Ev c ρ (.Call (.Name x np) [e,e'] [] pos) P':=fun s S E =>
 wpAny_Call_NameR (Ad0 ok hf S (.refl _ _) fun v s1 S1 k1 _ hv=>by
  subst hv
  have hp:∀ Q,wpAny (MM c.w) c.A (eval e c.env) (fun v s'=>wpAny (MM c.w) c.A (eval e' c.env) (fun v' s'=>Q ⟨[v,v'],[]⟩ s') E s') E s1→wpAny (MM c.w) c.A (evalArgs v true (backTo pos (starEach [e,e'] c.env)) []) Q E s1:=by
   intro Q hq; rw [he]; exact evalArgs_plain (spliced_cons (wM hq (fun _ _ h=>spliced_cons (wM h (fun _ _ h=>spliced_nil h) fun _ _ x=>x)) fun _ _ x=>x))
  have hfin:=hp (fun a s₁=>wpAny (MM c.w) c.A (call v ([] ++ a.pos) a.kw) (fun r s3=>Kp c.fs s s3∧P' s3.heap r) E s₁) (Ad0 ok ha S1 k1 fun v' s2 S2 k2 k2' p=>Ad0 ok ha' S2 k2' fun v'' s3 S3 k3 k3' p'=>wM (h s3 v' v'' S3 (st _ _ _ S2 k3 p) p' E) (fun r s4 hh2=>by obtain ⟨k4,r4⟩:=hh2; exact (⟨k3'.trans k4,r4⟩:Kp c.fs s s4∧P' s4.heap r)) fun _ _ x=>x)
  rcases hu with ⟨id,rfl⟩ | ⟨T,rfl⟩
  ·exact callWith_builtin (by rw [he]; rfl) hfin
  ·exact PySem.callWith_type (by rw [he]; rfl) hfin)
theorem Ea0 (ok:CxOk c) (hf:Ev c ρ (.Name "len" np) fun _ v=>v = .builtin "len") (ha:EvL c ρ e ds) (hsz:ds.length < 2 ^ 63) (he:starEach [e] c.env = [(false,eval e c.env)]:=by rfl) :
  EvD c ρ (.Call (.Name "len" np) [e] [] pos) (.int ds.length) :=
 Bt0 ok hf (.inl ⟨_,rfl⟩) ha (fun s v S p E=>by
  obtain ⟨a,hQ54,r⟩:=p; subst hQ54
  obtain ⟨vs,hl,r⟩:=r.isList
  have:=r.length
  simp only [Array.length_toList] at this
  refine len_list hl (by lia) ⟨.toks _ _,?_⟩
  rw [this]; exact .int _ _) he
theorem Ca0 (ok:CxOk c) (hf:Ev c ρ (.Name "len" np) fun _ v=>v = .builtin "len") (ha:EvD c ρ e (.str x)) (hsz:x.length < 2 ^ 63) (he:starEach [e] c.env = [(false,eval e c.env)]:=by rfl) :
  EvD c ρ (.Call (.Name "len" np) [e] [] pos) (.int x.length) :=
 Bt0 ok hf (.inl ⟨_,rfl⟩) ha (fun s v S p E=>by
  obtain ⟨t,hQ55⟩:=p.str_inv; subst hQ55
  exact PySem.P.len_str (by lia) ⟨.toks _ _,.int _ _⟩) he
theorem Ns.uniq {m m':Str→Option Value} (x:h.Ns a m) (y:h.Ns a m'):m = m':=by
 obtain ⟨o,es,ep,e,d,_,f⟩:=x
 obtain ⟨o',es',ep',e',d',_,f'⟩:=y
 rw [e] at e'; cases e'; rw [d] at d'; cases d'
 exact funext fun n=>(f n).symm.trans (f' n)
theorem FrOk.upd {l:List Env} (x:FrOk l h) (hk:∀ a o,a ≠ b→h.get? a = some o→h'.get? a = some o) (hd:(∀ o,h.get? b = some o→∀ es n,o.data ≠ .dict es n) ∨ ∃ m,h'.Ns b m):FrOk l h':=by
 intro env he
 obtain ⟨a,L,o,e1,e2,⟨es,n,e3⟩,e4⟩:=x env he
 by_cases q:L = b
 ·rcases hd with hd | ⟨m,o',es',ep',f1,f2,_⟩
  ·exact absurd e3 (hd o (q ▸ e2) es n)
  ·exact ⟨a,L,o',e1,q ▸ f1,⟨es',ep',f2⟩,e4⟩
 ·exact ⟨a,L,o,e1,hk _ _ q e2,⟨es,n,e3⟩,e4⟩
theorem St.upd (ok:CxOk c) (S:St c ρ s) {b:Addr} (hb:c.s0.heap.get? b = none) (hk:∀ a o,a ≠ b→s.heap.get? a = some o→s'.heap.get? a = some o)
  (ht:b ≠ tA) (hx:b ∉ c.XX ρ) (hd:∀ o,s.heap.get? b = some o→(∀ vs n,o.data ≠ .seq vs n)∧(o.cls ≠ .type "code" ∨ ∀ vs,o.data ≠ .fields vs))
  (hp:∀ p,c.pin p→p.1 ≠ b) (hg:s'.gens = s.gens) (ho:s'.os = s.os) (htk:0 < s'.toks):St c ρ s':=by
 have hX:∀ a ∈ c.X,a ≠ b:=fun a ha h=>hx (h ▸ List.mem_append_right _ ha)
 have hrd:∀ a o vs n,o.data = .seq vs n→fz (c.XX ρ) s.heap a = some o→fz (c.XX ρ) s'.heap a = some o:=fun a o vs n e q =>
  Bf0 (hk a o (fun h=>(hd o (h ▸ Ah0 q)).1 _ _ e) (Ah0 q)) (Ae0 q)
 have hcl:∀ a m,a ∈ c.X→s.heap.IsCell a m→s'.heap.IsCell a m:=fun a m hm n=>by
  obtain ⟨o,e,d⟩:=n
  exact ⟨o,hk a o (hX a hm) e,d⟩
 have hse:∀ x v,Sees c.env s.heap x v→Sees c.env s'.heap x v:=fun x v y=>by
  rcases y with ⟨a,m,n,e⟩ | ⟨a,a',cc,e,n⟩
  ·exact .inl ⟨a,m,n.at' fun o q=>hk _ o (hX _ ok.locX) q,e⟩
  ·exact .inr ⟨a,a',cc,e,hcl _ _ (ok.cellX _ _ (Ag0 e)) n⟩
 have htab:TabOk s'.heap:=by
  exact (S.tab ok).keepF (fun _ e=>hk _ _ (Ne.symm ht) e) fun _ o ws f2 f3 f1=>hk _ _ (fun h=>(hd o (h ▸ f1)).2.elim (fun q=>q f2) (fun q=>q _ f3)) f1
 refine ⟨⟨hg.trans S.since.gens,ho.trans S.since.os,fun a o e h1 h2=>hk a o (fun h=>by rw [h,hb] at e; cases e) (S.since.keep a o e h1 h2),fun a o e h2=>?_,fun _=>htab⟩,htk,fun l hl env he=>?_,?_,?_,?_,?_,?_,fun x v e=>hse _ _ (S.raw x v e),fun p h=>hk _ _ (hp p h) (S.pin p h),S.pinx⟩
 ·obtain ⟨sl,e'⟩:=S.since.slot a o e h2
  exact ⟨sl,hk a _ (fun h=>by rw [h,hb] at e; cases e) e'⟩
 ·obtain ⟨a,L,o,e1,e2,e3,e4⟩:=S.frs l hl env he
  refine ⟨a,L,o,e1,hk L o (hX L (ok.fsX L ?_)) e2,e3,e4⟩
  obtain ⟨l',hl',hf⟩:=ok.frames
  rw [hl] at hl'; cases hl'
  rw [hf]; exact List.mem_filterMap.mpr ⟨env,he,e1⟩
 ·obtain ⟨m,n⟩:=S.ns; exact ⟨m,n.at' fun o q=>hk _ o (hX _ ok.locX) q⟩
 ·intro n a hm; obtain ⟨v,q⟩:=S.cell n a hm; exact ⟨v,hcl _ _ (ok.cellX _ _ hm) q⟩
 ·intro x d e; obtain ⟨v,y,r⟩:=S.loc x d e; exact ⟨v,hse _ _ y,r.mono' hrd⟩
 ·intro a ha; obtain ⟨o,e,nf⟩:=S.has a ha; exact ⟨o,hk a o (fun h=>hx (h ▸ ha)) e,nf⟩
 ·intro x a ds e
  obtain ⟨y,⟨vs,n,sl,e1,r⟩,n1⟩:=S.own x a ds e
  exact ⟨hse _ _ y,⟨vs,n,sl,hk a _ (fun h=>(hd _ (h ▸ e1)).1 _ _ rfl) e1,r.mono' hrd⟩,n1⟩
noncomputable def NDK (s s':Shared):Prop:=∀ a o,s.heap.get? a = some o→(∀ es n,o.data ≠ .dict es n)→(∀ u,o.data ≠ .cell u)→a ≠ tA→s'.heap.get? a = some o
theorem NDK.trans {s'':Shared} (x:NDK s s') (y:NDK s' s''):NDK s s'':=fun a o e h1 h2 h3=>y a o (x a o e h1 h2 h3) h1 h2 h3
theorem Kp.ndk (ok:CxOk c) (S:St c ρ s) (k:Kp c.fs s s'):NDK s s':=fun a o e h1 h2 h3=>by
 refine k.keep a o e (fun q=>?_) h3
 obtain ⟨l,hl,hf⟩:=ok.frames
 rw [hf] at q
 obtain ⟨env,he,ha⟩:=List.mem_filterMap.mp q
 obtain ⟨_,L,o',f1,f2,⟨es,n,f3⟩,_⟩:=S.frs l hl env he
 rw [ha] at f1; cases f1
 rw [e] at f2; cases f2
 exact h1 es n f3
noncomputable def KpL (c:Cx) (s s':Shared):Prop:=∀ a o,a ≠ c.env.locals→(∀ n,(n,a) ∉ c.env.cells)→s.heap.get? a = some o→s'.heap.get? a = some o
noncomputable def Xx0 (x:Str) (sl:Slot) (ρ:Rho):Rho:=(x,sl) :: ρ
theorem Gs0 {cs:List (Str × Addr)} (hp:cs.Pairwise fun x y=>x.2 ≠ y.2) {n n':Str} {c:Addr} (h:cs.lookup n = some c) (h':cs.lookup n' = some c):n = n' :=
 name_of_addr hp (Ag0 h) (Ag0 h')
theorem St.storeS (ok:CxOk c) (S:St c ρ s) {x:Str} {v:Value} {sl:Slot} (hx:c.env.kindOf x = some .local ∨ (c.env.kindOf x = some .cell∧(c.env.cells.lookup x).isSome = true∧c.cn.contains x = true)) (hcd:(x == ("__classdict__" : Str)) = false)
  (r:(∃ d,sl = .val d∧Rd (fz (c.XX ρ) s.heap) v d) ∨ sl = .raw v) {E:Value→Shared→Prop} {Q:Unit→Shared→Prop} (h:∀ s',St c ((x,sl) :: ρ) s'→NDK s s'→KpL c s s'→Q () s'):wpAny (MM c.w) c.A (storeName c.env x v) Q E s:=by
 have tb:=S.tab ok
 have main:∀ (b:Addr) (s':Shared),c.s0.heap.get? b = none→b ∈ c.X→Heap.SameBut b s.heap s'.heap→b ≠ tA→s'.gens = s.gens→s'.os = s.os→0 < s'.toks→(∃ o,s'.heap.get? b = some o∧Nf b o) →
   (∀ o,s.heap.get? b = some o→(∀ vs n,o.data ≠ .seq vs n)∧∀ vs,o.data ≠ .fields vs) →
   (∃ m,s'.heap.Ns c.env.locals m)→(∀ n a,(n,a) ∈ c.env.cells→∃ v,s'.heap.IsCell a v)→((∀ o,s.heap.get? b = some o→∀ es n,o.data ≠ .dict es n) ∨ ∃ m,s'.heap.Ns b m) →
   (∀ y u,y ≠ x→Sees c.env s.heap y u→Sees c.env s'.heap y u)→Sees c.env s'.heap x v→St c ((x,sl) :: ρ) s':=by
  intro b s' hb hbX hs ht hg ho htk hbo hd hns hcells hfr hse hsx
  have hk:∀ a o,a ≠ b→s.heap.get? a = some o→s'.heap.get? a = some o:=fun a o ne e=>(hs.2 a ne).trans e
  have hnc:∀ o,s.heap.get? b = some o→o.cls ≠ .type "code" ∨ True:=fun _ _=>.inr trivial
  have hrd:∀ a o,fz (c.XX ρ) s.heap a = some o→fz (c.XX ρ) s'.heap a = some o:=fun a o q =>
   Bf0 (hk a o (fun h=>Ae0 q (h ▸ List.mem_append_right _ hbX)) (Ah0 q)) (Ae0 q)
  have htab:TabOk s'.heap:=by
   exact tb.keepF (fun _ e=>hk _ _ (Ne.symm ht) e) fun _ o ws f2 f3 f1=>hk _ _ (fun h=>(hd o (h ▸ f1)).2 _ f3) f1
  have how:As0 ((x,sl) :: ρ) = As0 ρ:=by rcases r with ⟨d,e,_⟩ | e <;> (subst e; rfl)
  have hXX:c.XX ((x,sl) :: ρ) = c.XX ρ:=by unfold Cx.XX; rw [how]
  refine ⟨⟨hg.trans S.since.gens,ho.trans S.since.os,fun a o e h1 h2=>hk a o (fun h=>by rw [h,hb] at e; cases e) (S.since.keep a o e h1 h2),fun a o e h2=>?_,fun _=>htab⟩,htk,fun l hl=>(S.frs l hl).upd hk hfr,hns,hcells,?_,?_,?_,?_,fun p hp=>hk _ _ (fun q=>S.pinx p hp (List.mem_append_right _ (q ▸ hbX))) (S.pin p hp),fun p hp=>by rw [hXX]; exact S.pinx p hp⟩
  ·obtain ⟨sl,e'⟩:=S.since.slot a o e h2
   exact ⟨sl,hk a _ (fun h=>by rw [h,hb] at e; cases e) e'⟩
  ·intro y dd hy
   rw [hXX]
   rw [List.lookup_cons] at hy
   cases hyx:y == x with
   | true =>
    rw [hyx] at hy; cases hy
    rcases r with ⟨d,e,r⟩ | e
    ·cases e; rw [eq_of_beq hyx]; exact ⟨v,hsx,r.mono hrd⟩
    ·cases e
   | false =>
    rw [hyx] at hy
    obtain ⟨u,a1,a2⟩:=S.loc y dd hy
    exact ⟨u,hse y u (by intro q; rw [q] at hyx; simp at hyx) a1,a2.mono hrd⟩
  ·intro a ha
   rw [hXX] at ha
   by_cases q:a = b
   ·rw [q]; exact hbo
   ·obtain ⟨o,e,nf⟩:=S.has a ha; exact ⟨o,hk a o q e,nf⟩
  ·intro y a dd hy
   rw [hXX]
   rw [List.lookup_cons] at hy
   cases hyx:y == x with
   | true=>rw [hyx] at hy; cases hy; rcases r with ⟨d,e,_⟩ | e <;> cases e
   | false =>
    rw [hyx] at hy
    obtain ⟨a1,⟨vs,n,sl,e1,a2⟩,a3⟩:=S.own y a dd hy
    exact ⟨hse y _ (by intro q; rw [q] at hyx; simp at hyx) a1,⟨vs,n,sl,hk a _ (fun h=>(hd _ (h ▸ e1)).1 _ _ rfl) e1,a2.mono hrd⟩,a3⟩
  ·intro y u hy
   rw [List.lookup_cons] at hy
   cases hyx:y == x with
   | true =>
    rw [hyx] at hy; cases hy
    rcases r with ⟨d,e,_⟩ | e
    ·cases e
    ·cases e; rw [eq_of_beq hyx]; exact hsx
   | false =>
    rw [hyx] at hy
    exact hse y u (by intro q; rw [q] at hyx; simp at hyx) (S.raw y u hy)
 rcases hx with hx | ⟨hx,hc,hcn⟩
 ·obtain ⟨m,hn⟩:=S.ns
  refine wpAny_storeName_local hx hn (fun h' hn' hs=>h _ (main c.env.locals _ ok.locN ok.locX hs (Ns.neTab hn tb) rfl rfl (Nat.succ_pos _) ?_ ?_ ⟨_,hn'⟩ ?_ (.inr ⟨_,hn'⟩) ?_ ?_) (fun a o e h1 h2 _=>(hs.2 a (fun q=>?_)).trans e) (fun a o ha _ e=>(hs.2 a ha).trans e)) (by rw [ok.kind]; rfl)
  rotate_left 5
  ·obtain ⟨o',es,ep,e',d',_⟩:=hn; rw [← q,e] at e'; cases e'; exact h1 _ _ d'
  ·obtain ⟨o,_,_,e,hd',_⟩:=hn'; exact ⟨o,e,.inr fun ws q=>by rw [hd'] at q; cases q⟩
  ·intro o e
   obtain ⟨o',es,ep,e',d',_⟩:=hn; rw [e] at e'; cases e'; rw [d']
   exact ⟨fun _ _ h=>(by cases h),fun _ h=>(by cases h)⟩
  ·intro n a hm
   obtain ⟨u,o,e,q⟩:=S.cell n a hm
   exact ⟨u,o,(hs.2 a (fun h=>by
    obtain ⟨o',es,ep,e',d',_⟩:=hn; rw [← h,e] at e'; cases e'; rw [q] at d'; cases d')).trans e,q⟩
  ·intro y u hy q
   rcases q with ⟨a,m',n,e⟩ | ⟨a,a',cc,e,⟨o,e',q⟩⟩
   ·rw [Ns.uniq n hn] at e
    exact .inl ⟨a,_,hn',by simp [hy,e]⟩
   ·exact .inr ⟨a,a',cc,e,o,(hs.2 cc (fun h=>by
     obtain ⟨o',es,ep,f',d',_⟩:=hn; rw [← h,e'] at f'; cases f'; rw [q] at d'; cases d')).trans e',q⟩
  ·exact .inl ⟨hx,_,hn',by simp⟩
 ·obtain ⟨a,ha⟩:=Option.isSome_iff_exists.mp hc
  obtain ⟨u0,hce⟩:=S.cell x a (Ag0 ha)
  have hce0:=hce
  refine wpAny_storeName_cell ok.kind hx ha hce (fun h' hc' hs=>h _ (main a _ (ok.cellN x a hcn ha) (ok.cellX x a (Ag0 ha)) hs (IsCell.neTab hce0 tb) rfl rfl S.toks ?_ ?_ ?_ ?_ (.inl ?_) ?_ ?_) (fun a' o e h1 h2 _=>(hs.2 a' (fun q=>?_)).trans e) (fun a' o _ hm e=>(hs.2 a' (fun q=>hm x (q ▸ Ag0 ha))).trans e))
  rotate_left 7
  ·obtain ⟨o',e',d'⟩:=hce0; rw [← q,e] at e'; cases e'; exact h2 _ d'
  ·obtain ⟨o,e,hd'⟩:=hc'; exact ⟨o,e,.inr fun ws q=>by rw [hd'] at q; cases q⟩
  ·intro o e
   obtain ⟨o',e',d'⟩:=hce0; rw [e] at e'; cases e'; rw [d']
   exact ⟨fun _ _ h=>(by cases h),fun _ h=>(by cases h)⟩
  ·obtain ⟨m,hn⟩:=S.ns
   refine ⟨m,hn.sameBut hs fun h=>?_⟩
   obtain ⟨o',es,ep,f',d',_⟩:=hn
   obtain ⟨o,e,q⟩:=hce0
   rw [h,e] at f'; cases f'; rw [q] at d'; cases d'
  ·intro n b hm
   by_cases q:b = a
   ·subst q; exact ⟨_,hc'⟩
   ·obtain ⟨u,o,e,q'⟩:=S.cell n b hm
    exact ⟨u,o,(hs.2 b q).trans e,q'⟩
  ·intro o e es n q
   obtain ⟨o',e',d'⟩:=hce0; rw [e] at e'; cases e'; rw [d'] at q; cases q
  ·intro y u hy q
   rcases q with ⟨b,m',n,e⟩ | ⟨b,b',cc,e,⟨o,e',q⟩⟩
   ·refine .inl ⟨b,m',n.sameBut hs fun h=>?_,e⟩
    obtain ⟨o',es,ep,f',d',_⟩:=n
    obtain ⟨o,e,q⟩:=hce0
    rw [h,e] at f'; cases f'; rw [q] at d'; cases d'
   ·refine .inr ⟨b,b',cc,e,o,(hs.2 cc fun h=>hy ?_).trans e',q⟩
    subst h
    exact Gs0 ok.apart e ha
  ·exact .inr ⟨.inl hx,hcd,a,ha,hc'⟩
theorem St.store (ok:CxOk c) (S:St c ρ s) {x:Str} {v:Value} {d:PyData} (hx:c.env.kindOf x = some .local ∨ (c.env.kindOf x = some .cell∧(c.env.cells.lookup x).isSome = true∧c.cn.contains x = true)) (hcd:(x == ("__classdict__" : Str)) = false)
  (r:Rd (fz (c.XX ρ) s.heap) v d) {E:Value→Shared→Prop} {Q:Unit→Shared→Prop} (h:∀ s',St c ((x,.val d) :: ρ) s'→NDK s s'→KpL c s s'→Q () s'):wpAny (MM c.w) c.A (storeName c.env x v) Q E s :=
 S.storeS ok hx hcd (.inl ⟨d,rfl,r⟩) h
theorem St.weaken (S:St c ρ s) (h:∀ x sl,ρ'.lookup x = some sl→ρ.lookup x = some sl) (ho:∀ a ∈ As0 ρ',a ∈ As0 ρ):St c ρ' s:=by
 have hX:∀ a ∈ c.XX ρ',a ∈ c.XX ρ:=fun a ha=>by
  rcases List.mem_append.mp ha with q | q
  ·exact List.mem_append_left _ (ho a q)
  ·exact List.mem_append_right _ q
 refine ⟨S.since,S.toks,S.frs,S.ns,S.cell,fun x d e=>?_,fun a ha=>S.has a (hX a ha),fun x a ds e=>?_,fun x v e=>S.raw x v (h _ _ e),S.pin,fun p hp q=>S.pinx p hp (hX _ q)⟩
 ·obtain ⟨v,y,r⟩:=S.loc x d (h _ _ e); exact ⟨v,y,r.mono (Ao0 hX)⟩
 ·obtain ⟨y,⟨vs,n,sl,e1,r⟩,n1⟩:=S.own x a ds (h _ _ e)
  exact ⟨y,⟨vs,n,sl,e1,r.mono (Ao0 hX)⟩,n1⟩
structure Src (c:Cx) (ρ:Rho) (s1:Shared) (fr:Bool) (ds:List PyData) (I:Addr) (o:Obj) (fp:List Addr) (P:Nat→Value→Prop) (ST:Nat→Heap→Prop):Prop where
 hI:I = s1.heap.objs.size
 free:o.isFreed = false
 walk:Walks PG c.w c.A I fp [I] ds.length P ST
 start:ST 0 (s1.heap.push o)
 seqs:∀ b ∈ fp,b ≠ I→∃ o' vs n,s1.heap.get? b = some o'∧o'.data = .seq vs n
 item:∀ i v,i < ds.length→P i v→∃ d,ds[i]? = some d∧Rd (fz (c.XX ρ) s1.heap) v d
 apart:fr = true→∀ b ∈ fp,b ≠ I→b ∉ c.XX ρ
 obj:∀ i h,ST i h→∃ o' vs n,h.get? I = some o'∧o'.data = .fields vs∧o'.cls = .type n∧n ≠ "code" ∧ ["enumerate", "zip", "dict_itemiterator", "dict_reverseitemiterator", "odict_iterator", "itertools.zip_longest", "itertools.pairwise"].contains n = false
noncomputable def Cc1 (c:Cx) (ρ:Rho) (fr:Bool) (e:Expr) (ds:List PyData):Prop :=
 ∀ s,St c ρ s→∀ (E:Value→Shared→Prop) (Q:Value→Shared→Prop),
  (∀ s1 I o fp P ST,St c ρ s1→Kp c.fs s s1→Src c ρ s1 fr ds I o fp P ST→Q (.ref I) { s1 with heap:=s1.heap.push o }) →
  wpAny (MM c.w) c.A (eval e c.env) (fun x s'=>wpAny (MM c.w) c.A (pyIter x) Q E s') E s
noncomputable abbrev EvI (c:Cx) (ρ:Rho) (e:Expr) (ds:List PyData):Prop:=Cc1 c ρ false e ds
theorem Bl0 (ok:CxOk c) (h:EvL c ρ e ds) (hl3:Nat.ble 3 c.lvl = true:=by rfl):EvI c ρ e ds:=fun s S E Q hQ =>
 Ad0 ok h S (.refl _ _) fun v s1 S1 k1 _ p=>by
  obtain ⟨a,hQ56,r⟩:=p; subst hQ56
  have r0:=r
  obtain ⟨vs,n,sl,e0,rr⟩:=r
  have hl:s1.heap.IsList a vs:=⟨_,e0,rfl,n,rfl⟩
  have hne:a ≠ s1.heap.objs.size:=Nat.ne_of_lt (Heap.lt_size e0)
  have hlen:=rr.length
  simp only [Array.length_toList] at hlen
  refine wpAny_pyIter_list hl (hQ s1 _ _ [s1.heap.objs.size,a] (fun i v=>vs[i]? = some v) (fun i h=>h.IsListIter s1.heap.objs.size a i∧h.IsList a vs) S1 k1 ⟨rfl,rfl,by rw [← hlen]; exact Walks.list (ok.hand hl3) _ a hne vs,⟨⟨_,Heap.get?_push_size _ rfl,rfl,rfl⟩,⟨_,Heap.get?_push_of_some _ e0,rfl,n,rfl⟩⟩,?_,?_,?_,?_⟩)
  ·intro b hb hbI
   simp only [List.mem_cons,List.not_mem_nil,or_false] at hb
   rcases hb with q | q
   ·exact absurd q hbI
   ·subst q; exact ⟨_,_,_,e0,rfl⟩
  ·intro i v _ hv
   exact rr.get' i v (by simpa using hv)
  ·intro hf; cases hf
  ·intro i g st
   obtain ⟨⟨o',e1,e2,e3⟩,_⟩:=st
   exact ⟨o',_, "list_iterator",e1,e3,e2,by decide,by decide⟩
theorem Fc0 (ok:CxOk c) (h:EvD c ρ e (.list ds)) (hl3:Nat.ble 3 c.lvl = true:=by rfl):Cc1 c ρ true e ds:=fun s S E Q hQ =>
 Ad0 ok h S (.refl _ _) fun v s1 S1 k1 _ p=>by
  obtain ⟨a,vs,n,sl,hQ57,e00,rr⟩:=p.list_inv; subst hQ57
  have e0:=Ah0 e00
  have hl:s1.heap.IsList a vs:=⟨_,e0,rfl,n,rfl⟩
  have hne:a ≠ s1.heap.objs.size:=Nat.ne_of_lt (Heap.lt_size e0)
  have hlen:=rr.length
  simp only [Array.length_toList] at hlen
  refine wpAny_pyIter_list hl (hQ s1 _ _ [s1.heap.objs.size,a] (fun i v=>vs[i]? = some v) (fun i h=>h.IsListIter s1.heap.objs.size a i∧h.IsList a vs) S1 k1 ⟨rfl,rfl,by rw [← hlen]; exact Walks.list (ok.hand hl3) _ a hne vs,⟨⟨_,Heap.get?_push_size _ rfl,rfl,rfl⟩,⟨_,Heap.get?_push_of_some _ e0,rfl,n,rfl⟩⟩,?_,?_,?_,?_⟩)
  ·intro b hb hbI
   simp only [List.mem_cons,List.not_mem_nil,or_false] at hb
   rcases hb with q | q
   ·exact absurd q hbI
   ·subst q; exact ⟨_,_,_,e0,rfl⟩
  ·intro i v _ hv
   exact rr.get' i v (by simpa using hv)
  ·intro _ b hb hbI
   simp only [List.mem_cons,List.not_mem_nil,or_false] at hb
   rcases hb with q | q
   ·exact absurd q hbI
   ·subst q; exact Ae0 e00
  ·intro i g st
   obtain ⟨⟨o',e1,e2,e3⟩,_⟩:=st
   exact ⟨o',_, "list_iterator",e1,e3,e2,by decide,by decide⟩
noncomputable def Bc0 (x:Str):List Str:=x.cps.toList.map fun c=>⟨#[c]⟩
theorem Sl0 {fr:Bool} (ok:CxOk c) (h:EvD c ρ e (.str x)) (hl3:Nat.ble 3 c.lvl = true:=by rfl):Cc1 c ρ fr e ((Bc0 x).map .str):=fun s S E Q hQ =>
 Ad0 ok h S (.refl _ _) fun v s1 S1 k1 _ p=>by
  obtain ⟨t,hQ58⟩:=p.str_inv; subst hQ58
  have hit:∀ i v,i < ((Bc0 x).map PyData.str).length→SignAt x i v→∃ d,((Bc0 x).map PyData.str)[i]? = some d∧Rd (fz (c.XX ρ) s1.heap) v d:=by
   intro i v _ hv
   obtain ⟨cc,u,e,hv⟩:=hv
   rw [hv]
   refine ⟨.str ⟨#[cc]⟩,?_,.str _ _⟩
   simp [Bc0,List.getElem?_map,Array.getElem?_toList,e]
  have hlen:x.cps.size = ((Bc0 x).map PyData.str).length:=by simp [Bc0]
  cases ha:x.cps.all (· < 128) with
  | false =>
   refine wpAny_pyIter_wide ha (hQ s1 _ _ [s1.heap.objs.size] (SignAt x) (fun i h=>h.IsStrIter s1.heap.objs.size "str_iterator" x t i) S1 k1 ⟨rfl,rfl,by rw [← hlen]; exact Walks.strWide (ok.hand hl3) _ x t,⟨_,Heap.get?_push_size _ rfl,rfl,rfl⟩,?_,hit,(fun _ b hb hbI=>absurd (by simpa using hb) hbI),?_⟩)
   ·intro b hb hbI; exact absurd (by simpa using hb) hbI
   ·intro i g st; obtain ⟨o',e1,e2,e3⟩:=st; exact ⟨o',_,_,e1,e3,e2,by decide,by decide⟩
  | true =>
   refine wpAny_pyIter_ascii ha (hQ s1 _ _ [s1.heap.objs.size] (SignAt x) (fun i h=>h.IsStrIter s1.heap.objs.size "str_ascii_iterator" x t i) S1 k1 ⟨rfl,rfl,by rw [← hlen]; exact Walks.strAscii (ok.hand hl3) _ x t,⟨_,Heap.get?_push_size _ rfl,rfl,rfl⟩,?_,hit,(fun _ b hb hbI=>absurd (by simpa using hb) hbI),?_⟩)
   ·intro b hb hbI; exact absurd (by simpa using hb) hbI
   ·intro i g st; obtain ⟨o',e1,e2,e3⟩:=st; exact ⟨o',_,_,e1,e3,e2,by decide,by decide⟩
noncomputable def Cd1 (n:Nat):List PyData:=(List.range n).map fun (i:Nat)=>PyData.int (i:Int)
theorem Bw0 {fr:Bool} {n:Nat} (ok:CxOk c) (hf:Ev c ρ (.Name "range" np) fun _ v=>v = .type "range") (h:EvD c ρ e (.int n)) (hn:n < 2 ^ 40)
  (he:starEach [e] c.env = [(false,eval e c.env)]:=by rfl) (hl3:Nat.ble 3 c.lvl = true:=by rfl):Cc1 c ρ fr (.Call (.Name "range" np) [e] [] pos) (Cd1 n):=fun s S E Q hQ=>by
 have h1:Ev c ρ (.Call (.Name "range" np) [e] [] pos) fun h v=>∃ r t u w,v = .ref r∧h.get? r = some { cls:=.type "range",data:=.fields #[.int 0 t,.int n u,.int 1 w] } :=
  Bt0 ok hf (.inr ⟨_,rfl⟩) h (fun s v S p E=>by
   obtain ⟨t,hQ59⟩:=p.int_inv; subst hQ59
   exact call_range_1 ⟨(Kp.push _ _).trans (.toks _ _),_,_,_,_,rfl,Heap.get?_push_size _ rfl⟩) he
 refine Ad0 ok h1 S (.refl _ _) fun v s1 S1 k1 _ p=>?_
 obtain ⟨r,t,u,w',hQ60,e0⟩:=p; subst hQ60
 have hsz:Builtin.Range.rangeSize 0 (n:Int) 1 = n:=by
  unfold Builtin.Range.rangeSize
  by_cases q:(0:Int) < n
  ·simp only [show (1:Int) > 0 by decide,if_true,q]; simp +arith
  ·simp only [show (1:Int) > 0 by decide,if_true,q,if_false]; simp_all
 refine wpAny_pyIter_range (a:=0) (b:=n) (c:=1) (t:=t) (u:=u) (v:=w') e0 ?_ (hQ s1 _ _ [s1.heap.objs.size] (fun i v=>∃ t,v = .int (0 + i * 1) t) (fun i h=>IsRangeIter h s1.heap.objs.size (0 + (i:Nat) * 1) ((n:Int) - (i:Nat)) 1) S1 k1 ⟨rfl,rfl,?_,?_,?_,?_,(fun _ b hb hbI=>absurd (by simpa using hb) hbI),?_⟩)
 ·unfold Builtin.Range.small
  have hfit:∀ k:Int,0 ≤ k→k < 2 ^ 41→Builtin.Range.rangeFitsLong k = true:=by
   intro k h0 h1
   unfold Builtin.Range.rangeFitsLong
   simp
   lia
  rw [hsz,hfit 0 (by exact Int.natCast_nonneg _) (by exact Int.natCast_nonneg _),hfit n (by exact Int.natCast_nonneg _) (by lia),hfit 1 (by decide) (by decide),if_pos (by decide),hfit (n + (1 - 1)) (by exact Int.natCast_nonneg _) (by lia)]
  simp
 ·rw [show (Cd1 n).length = n by simp [Cd1]]; exact Walks.range (ok.hand hl3) _ 0 1 n
 ·show IsRangeIter _ _ _ _ _
  rw [hsz]
  simpa [IsRangeIter,rawInt] using Heap.get?_push_size _ rfl
 ·intro b hb hbI; exact absurd (by simpa using hb) hbI
 ·intro i v hi hi14
  obtain ⟨t,e⟩:=hi14
  have hi':i < n:=by simpa [Cd1] using hi
  refine ⟨.int i,by simp [Cd1,hi'],?_⟩
  rw [e,show (0:Int) + i * 1 = i by simp +arith]; exact .int _ _
 ·intro i g st
  exact ⟨_,_, "range_iterator",st,rfl,rfl,by decide,by decide⟩
theorem St.updD (ok:CxOk c) (S:St c ρ s) {b:Addr} (hb:c.s0.heap.get? b = none) (hk:∀ a o,a ≠ b→s.heap.get? a = some o→s'.heap.get? a = some o)
  (ht:b ≠ tA) (hx:b ∈ c.X) (ho:b ∉ As0 ρ) (hd:∀ o,s.heap.get? b = some o→∃ vs n,o.data = .seq vs n) (hb':∃ o,s'.heap.get? b = some o∧Nf b o)
  (hg:s'.gens = s.gens) (hos:s'.os = s.os) (htk:0 < s'.toks):St c ρ s':=by
 have hrd:∀ a o,fz (c.XX ρ) s.heap a = some o→fz (c.XX ρ) s'.heap a = some o:=fun a o q =>
  Bf0 (hk a o (fun h=>Ae0 q (h ▸ List.mem_append_right _ hx)) (Ah0 q)) (Ae0 q)
 have hns:∀ a m,s.heap.Ns a m→s'.heap.Ns a m:=fun a m n=>n.at' fun o e=>hk a o (fun h=>by
  obtain ⟨o',es,ep,e',d',_⟩:=n; rw [e] at e'; cases e'; obtain ⟨vs,n,e'⟩:=hd o (h ▸ e); rw [d'] at e'; cases e') e
 have hcl:∀ a m,s.heap.IsCell a m→s'.heap.IsCell a m:=fun a m n=>by
  obtain ⟨o,e,d⟩:=n
  exact ⟨o,hk a o (fun h=>by obtain ⟨vs,n,e'⟩:=hd o (h ▸ e); rw [d] at e'; cases e') e,d⟩
 have hse:∀ x v,Sees c.env s.heap x v→Sees c.env s'.heap x v:=fun x v y=>by
  rcases y with ⟨a,m,n,e⟩ | ⟨a,a',cc,e,n⟩
  ·exact .inl ⟨a,m,hns _ _ n,e⟩
  ·exact .inr ⟨a,a',cc,e,hcl _ _ n⟩
 have htab:TabOk s'.heap:=by
  exact (S.tab ok).keepF (fun _ e=>hk _ _ (Ne.symm ht) e) fun _ o ws f2 f3 f1=>hk _ _ (fun h=>by obtain ⟨vs,n,e'⟩:=hd o (h ▸ f1); rw [f3] at e'; cases e') f1
 refine ⟨⟨hg.trans S.since.gens,hos.trans S.since.os,fun a o e h1 h2=>hk a o (fun h=>by rw [h,hb] at e; cases e) (S.since.keep a o e h1 h2),fun a o e h2=>?_,fun _=>htab⟩,htk,
  fun l hl=>(S.frs l hl).upd hk (.inl fun o e es n q=>by obtain ⟨vs,n,e'⟩:=hd o e; rw [q] at e'; cases e'),?_,?_,?_,?_,?_,fun x v e=>hse _ _ (S.raw x v e),fun p hp=>hk _ _ (fun q=>S.pinx p hp (List.mem_append_right _ (q ▸ hx))) (S.pin p hp),S.pinx⟩
 ·obtain ⟨sl,e'⟩:=S.since.slot a o e h2
  exact ⟨sl,hk a _ (fun h=>by rw [h,hb] at e; cases e) e'⟩
 ·obtain ⟨m,n⟩:=S.ns; exact ⟨m,hns _ _ n⟩
 ·intro n a hm; obtain ⟨v,q⟩:=S.cell n a hm; exact ⟨v,hcl _ _ q⟩
 ·intro x d e; obtain ⟨v,y,r⟩:=S.loc x d e; exact ⟨v,hse _ _ y,r.mono hrd⟩
 ·intro a ha
  by_cases q:a = b
  ·rw [q]; exact hb'
  ·obtain ⟨o,e,nf⟩:=S.has a ha; exact ⟨o,hk a o q e,nf⟩
 ·intro x a ds e
  obtain ⟨y,⟨vs,n,sl,e1,r⟩,n1⟩:=S.own x a ds e
  refine ⟨hse _ _ y,⟨vs,n,sl,hk a _ (fun h=>ho ?_) e1,r.mono hrd⟩,n1⟩
  rw [← h]
  exact List.mem_filterMap.mpr ⟨_,Ag0 e,rfl⟩
inductive Vis (env:Env) (scope:Scope) (cl:List (Str × Addr)) (ρ:Rho):Rho→Prop
 | nil:Vis env scope cl ρ []
 | cons {y:Str} {sl:Slot} {r:Rho} {a:Addr}:ρ.lookup y = some sl→(env.kindOf y = some .cell ∨ env.kindOf y = some .free)→env.cells.lookup y = some a→cl.lookup y = some a→scope.names.lookup y = some .free →
   (y == ("__classdict__" : Str)) = false→Vis env scope cl ρ r→Vis env scope cl ρ ((y,sl) :: r)
theorem Vis.get (h:Vis env scope cl ρ ρ') {y:Str} {sl:Slot} (e:ρ'.lookup y = some sl) :
  ρ.lookup y = some sl∧(env.kindOf y = some .cell ∨ env.kindOf y = some .free)∧(∃ a,env.cells.lookup y = some a∧cl.lookup y = some a)∧scope.names.lookup y = some .free∧(y == ("__classdict__" : Str)) = false:=by
 induction h with
 | nil=>cases e
 | cons h1 h2 h3 h4 h5 h6 _ ih =>
  rw [List.lookup_cons] at e
  split at e
  ·rename_i hq; cases e; rw [eq_of_beq hq]; exact ⟨h1,h2,⟨_,h3,h4⟩,h5,h6⟩
  ·exact ih e
theorem Vis.owned (h:Vis env scope cl ρ ρ'):∀ a ∈ As0 ρ',a ∈ Mine.As0 ρ:=by
 induction h with
 | nil=>intro a ha; cases ha
 | @cons y sl r a' h1 h2 h3 h4 h5 h6 _ ih =>
  intro a ha
  unfold Mine.As0 at ha
  rw [List.filterMap_cons] at ha
  cases sl with
  | val d=>exact ih a ha
  | raw v=>exact ih a ha
  | own b ds =>
   rcases List.mem_cons.mp ha with e | ha
   ·subst e; exact List.mem_filterMap.mpr ⟨_,Ag0 h1,rfl⟩
   ·exact ih a ha
theorem Ij0 {en:Env}:∀ {names:List (Str × NameKind)} {x:Str},names.lookup x = some .free →
  let l:=(names.map fun (n,k)=>if (k == NameKind.free && en.scope.kind == .function && en.kindOf n == some .cell) then (n,NameKind.cell) else (n,k)).lookup x
  l = some .cell ∨ l = some .free
 | [],_,h=>by simp at h
 | (n,k) :: r,x,h=>by
  have ih:=Ij0 (en:=en) (names:=r) (x:=x)
  simp only [List.map_cons]
  rw [List.lookup_cons] at h
  cases hx:x == n with
  | true =>
   rw [hx] at h; cases h
   split
   ·left; simp [List.lookup_cons,hx]
   ·right; simp [List.lookup_cons,hx]
  | false =>
   rw [hx] at h
   have:=ih h
   split <;> simpa [List.lookup_cons,hx] using this
theorem El0:∀ (names:List (Str × NameKind)) (n:Nat) (acc:List (Str × Addr)),(∀ k,(y,k) ∈ names→k ≠ .cell)→(cellsFrom n names acc).lookup y = acc.lookup y
 | [],_,_,_=>rfl
 | (x,k) :: r,n,acc,h=>by
  unfold cellsFrom
  split
  ·rename_i hk
   rw [El0 r _ _ fun k' hk'=>h k' (.tail _ hk'),List.lookup_cons]
   have:(y == x) = false:=by
    cases q:y == x with
    | false=>rfl
    | true=>exact absurd (by simpa using hk) (h k (eq_of_beq q ▸ .head _))
   rw [this]
  ·exact El0 r _ _ fun k' hk'=>h k' (.tail _ hk')
theorem Do0:∀ (names:List (Str × NameKind)) (h:Heap) (acc:List (Str × Addr)) (p:Str × Addr),p ∈ cellsFrom h.objs.size names acc→p ∈ acc ∨ (h.objs.size ≤ p.2∧(pushCells h names).IsCell p.2 none)
 | [],_,_,_,h=>.inl h
 | (x,k) :: r,g,acc,p,h=>by
  unfold cellsFrom at h
  unfold pushCells
  split at h
  ·rename_i hk
   rw [if_pos hk]
   have hsz:(g.push { cls:=.type "cell",data:=.cell none }).objs.size = g.objs.size + 1:=Heap.size_push ..
   rcases Do0 r (g.push { cls:=.type "cell",data:=.cell none }) _ p (by rw [hsz]; exact h) with q | ⟨q,q'⟩
   ·rcases List.mem_cons.mp q with e | q
    ·subst e
     exact .inr ⟨Nat.le_refl _,_,pushCells_keeps _ _ _ _ (Heap.get?_push_size _ rfl),rfl⟩
    ·exact .inl q
   ·exact .inr ⟨by rw [hsz] at q; exact Nat.le_of_lt ‹_›,q'⟩
  ·rename_i hk
   rw [if_neg hk]
   exact Do0 r _ _ p h
theorem De0:∀ (names:List (Str × NameKind)) (n:Nat) (acc:List (Str × Addr)),(acc.Pairwise fun x y=>x.2 ≠ y.2)→(∀ p ∈ acc,p.2 < n)→(cellsFrom n names acc).Pairwise fun x y=>x.2 ≠ y.2
 | [],_,_,h,_=>h
 | (x,k) :: r,n,acc,h,hn=>by
  unfold cellsFrom
  split
  ·refine De0 r _ _ (List.pairwise_cons.mpr ⟨fun y hy e=>?_,h⟩) fun p hp=>?_
   ·have e':n = y.2:=e
    exact Nat.ne_of_lt (hn y hy) e'.symm
   ·rcases List.mem_cons.mp hp with e | hp
    ·subst e; exact Nat.lt_succ_self _
    ·exact Nat.lt_succ_of_lt (hn p hp)
  ·exact De0 r _ _ h hn
theorem Uk0 {M:Model} {globals:Addr} {Q:Env→Shared→Prop}
  (h:Q (newEnv scope s.heap.objs.size globals (cellsFrom (s.heap.objs.size + 1) scope.names cl) qual none .none (some env) builtinsNs)
   { s with heap:=pushCells (s.heap.push { cls:=.type "dict",data:=.dict #[] }) scope.names }):wpAny M A (newFunctionEnv scope globals cl [] qual none .none (some env)) Q E s:=by
 simp only [newFunctionEnv,Option.isSome_some,if_true]
 refine wB (wpAny_alloc ?_)
 refine wB (wpAny_layCells _ (fun name kind cells=>by cases hkc:kind == NameKind.cell <;> simp [hkc]) _ _ _ _ ?_)
 rw [show ({ s with heap:=s.heap.push { cls:=.type "dict",data:=.dict #[] } }:Shared).heap.objs.size = s.heap.objs.size + 1 from Heap.size_push ..]
 exact wB (wP (wP h))
noncomputable abbrev Cx.comp (c:Cx) (ρ:Rho) (scope:Scope) (cl:List (Str × Addr)) (C:Addr) (X:List Addr) (s1:Shared):Cx :=
 ⟨c.w,c.A,compEnvC scope (cellsFrom (C + 1) scope.names cl) C c.env,X,c.XX ρ,c.fs,c.fs,s1,c.lvl,Bg0 scope,c.pin⟩
noncomputable def Kk1 (c:Cx) (ρ:Rho) (target:Expr) (W:(Addr→Option Obj)→Value→Prop) (bs:Rho):Prop :=
 ∀ s v,St c ρ s→W (fz (c.XX ρ) s.heap) v→∀ (E:Value→Shared→Prop) (Q:Unit→Shared→Prop),(∀ s',St c (bs ++ ρ) s'→NDK s s'→KpL c s s'→Q () s')→wpAny (MM c.w) c.A (assign target c.env v) Q E s
noncomputable abbrev Asg (c:Cx) (ρ:Rho) (target:Expr) (d:PyData):Rho→Prop:=Kk1 c ρ target fun g v=>Rd g v d
noncomputable def EvBs (c:Cx) (ρ:Rho) (ifs:List Expr) (b:Bool):Prop :=
 ∀ s,St c ρ s→∀ (E:Value→Shared→Prop) (Q:Bool→Shared→Prop),(∀ s',St c ρ s'→Kp c.fs s s'→Q b s') →
  wpAny (MM c.w) c.A (forIn ifs true fun e r=>if r = true then do let ok ← isTrue e c.env (eval e c.env); pure (ForInStep.yield ok) else pure (ForInStep.yield r)) Q E s
theorem Fq0:EvBs c ρ [] true:=fun s S E Q h=>by rw [List.forIn_nil]; exact wP (h s S (.refl _ _))
theorem Gt0 {b:Bool} (ok:CxOk c) (h:EvB c ρ e b):EvBs c ρ [e] b:=fun s S E Q hq=>by
 rw [List.forIn_cons]
 simp only [if_true]
 refine wB (wB (Cw0 ok h S (.refl _ _) fun s' S' k _=>wP ?_))
 dsimp only
 rw [List.forIn_nil]
 exact wP (hq s' S' k)
structure TurnG (c:Cx) (ρ:Rho) (target:Expr) (ifs:List Expr) (elt:Expr) (W:(Addr→Option Obj)→Value→Prop) (r:Option PyData):Prop where
 mk ::
 run:∃ bs,As0 bs = []∧(∀ x sl,bs.lookup x = some sl→ρ.lookup x = none)∧Kk1 c ρ target W bs∧EvBs c (bs ++ ρ) ifs r.isSome∧∀ e,r = some e→EvD c (bs ++ ρ) elt e
noncomputable abbrev Ii1 (c:Cx) (ρ:Rho) (target:Expr) (ifs:List Expr) (elt:Expr) (d:PyData):Option PyData→Prop:=TurnG c ρ target ifs elt fun g v=>Rd g v d
structure SrcG (c:Cx) (ρ:Rho) (s1:Shared) {α:Type} (ds:List α) (V:α→(Addr→Option Obj)→Value→Prop) (I:Addr) (o:Obj) (fp:List Addr) (P:Nat→Value→Prop) (ST:Nat→Heap→Prop):Prop where
 hI:I = s1.heap.objs.size
 walk:Walks PG c.w c.A I fp [I] ds.length P ST
 start:ST 0 (s1.heap.push o)
 keep:∀ b ∈ fp,b ≠ I→(∃ o' vs n,s1.heap.get? b = some o'∧o'.data = .seq vs n) ∨ ∃ o',c.pin (b,o')
 item:∀ i v,i < ds.length→P i v→∃ d,ds[i]? = some d∧V d (fz (c.XX ρ) s1.heap) v
 obj:∀ i h,ST i h→∃ o' vs n,h.get? I = some o'∧o'.data = .fields vs∧o'.cls = .type n∧n ≠ "code" ∧ ["enumerate", "zip", "dict_itemiterator", "dict_reverseitemiterator", "odict_iterator", "itertools.zip_longest", "itertools.pairwise"].contains n = false
theorem Src.gen {s1:Shared} {fr:Bool} {o:Obj} {fp:List Addr} {P:Nat→Value→Prop} {ST:Nat→Heap→Prop} (src:Src c ρ s1 fr ds I o fp P ST):SrcG c ρ s1 ds (fun d g v=>Rd g v d) I o fp P ST :=
 ⟨src.hI,src.walk,src.start,fun b h1 h2=>.inl (src.seqs b h1 h2),src.item,src.obj⟩
theorem Ch0 {l:Addr} {vs:Array Value} {n:Nat} {sl:Array (Option Value)} {x:Value} {Q:Value→Shared→Prop} (ho:s.heap.get? l = some ⟨.type "list",none,.seq vs n,sl⟩)
  (hQ:∀ h' n',h'.get? l = some ⟨.type "list",none,.seq (vs.push x) n',sl⟩→Heap.SameBut l s.heap h'→Q .none { s with heap:=h' }) (hsz:vs.size ≤ sizeLine) :
  wpAny (MM w) A (call (.builtin "list.append") [.ref l,x]) Q E s:=by
 refine wpAny_call_entry slot_list_append ⟨_,ho,rfl⟩ entry_list_append ?_ (args_list_append _ _)
 show wpAny _ _ (updateSeq l (·.push x) >>= fun _=>ret .none) _ _ s
 refine wB ?_
 refine wpAny_updateSeq ho rfl (wP ⟨.none,rfl,hQ _ (if (vs.push x).size == vs.size then n else n + 1) ?_ (Heap.SameBut.update ..)⟩)
 exact Heap.get?_update_self _ ho rfl
theorem Po0 (ok:CxOk c) (S:St c ρ s) {a:Addr} {o:Obj} {vs:Array Value} {n:Nat} (e:c.s0.heap.get? a = some o) (hd:o.data = .seq vs n):a ∉ c.fs0∧a ≠ tA:=by
 have ht:a ≠ tA:=by
  rintro rfl
  obtain ⟨tv,te,_⟩:=ok.tab
  rw [te] at e; cases e; cases hd
 refine ⟨fun q=>?_,ht⟩
 obtain ⟨l,hl,hf⟩:=ok.frames
 have q:=ok.fs0 a q
 rw [hf] at q
 obtain ⟨env,he,ha⟩:=List.mem_filterMap.mp q
 obtain ⟨_,L,o',f1,f2,⟨es,m,f3⟩,_⟩:=S.frs l hl env he
 rw [ha] at f1; cases f1
 obtain ⟨sl,e'⟩:=S.since.slot a o e ht
 rw [e'] at f2; cases f2
 rw [hd] at f3; cases f3
theorem Gu0 {Q:Unit→Shared→Prop}
  (h:∃ o' vs n,s.heap.get? I = some o'∧o'.data = .fields vs∧o'.cls = .type n∧n ≠ "code" ∧ ["enumerate", "zip", "dict_itemiterator", "dict_reverseitemiterator", "odict_iterator", "itertools.zip_longest", "itertools.pairwise"].contains n = false)
  (hq:Q () s):wpAny (MM c.w) c.A (letOwnedTupleGo target (.ref I) v) Q E s:=by
 obtain ⟨⟨cls,dict,data,slots⟩,fI,nI,e1,e2,e3,e4,e5⟩:=h
 dsimp only at e2 e3
 subst e2 e3
 have key:∀ es x p,wpAny (MM c.w) c.A (letOwnedTupleGo (.Tuple es x p) (.ref I) v) Q E s:=fun es x p=>by
  cases v with
  | ref a =>
   delta letOwnedTupleGo
   dsimp only
   refine wB (wpAny_load e1 ?_)
   dsimp only
   rw [if_neg (by rw [e5]; simp)]
   exact wP hq
  | _=>exact wP hq
 cases target with
 | Tuple es x p=>exact key es x p
 | List es p=>exact key es 0 p
 | _=>exact wP hq
theorem Xy0 {s1:Shared} {α:Type} {ds:List α} {V:α→(Addr→Option Obj)→Value→Prop} {o:Obj} {fp:List Addr} {P:Nat→Value→Prop} {ST:Nat→Heap→Prop} {C D:Addr} {g:α→Option PyData}
  (ok:CxOk (c.comp ρ scope cl C X s1)) (src:SrcG c ρ s1 ds V I o fp P ST) (hV:∀ d v g g',(∀ a o vs n,o.data = .seq vs n→g a = some o→g' a = some o)→V d g v→V d g' v) (hD:D ∈ X) (hDs:s1.heap.get? D = none) (hDo:D ∉ As0 ρ') (hIX:I ∉ X) (hIo:I ∉ As0 ρ') (hI0:s1.heap.get? I = none) (hIt:I ≠ tA) (hDt:D ≠ tA) (hX:∀ a ∈ c.XX ρ,a ∈ X) (hpin:∀ p,c.pin p→s1.heap.get? p.1 = some p.2)
  (hXn:∀ a o',s1.heap.get? a = some o'→a ∈ X→a ∈ c.XX ρ) (hon:∀ a ∈ As0 ρ',a ∈ As0 ρ)
  (hsz:ds.length ≤ sizeLine) (turn:∀ (i:Nat) d,ds[i]? = some d→TurnG (c.comp ρ scope cl C X s1) ρ' target ifs elt (V d) (g d))
  (hR:∀ s vs n sl,St (c.comp ρ scope cl C X s1) ρ' s→s.heap.get? D = some ⟨.type "list",none,.seq vs n,sl⟩→RdAll (fz X s.heap) vs.toList (ds.filterMap g)→R (.ok .next) s) :
  ∀ (k i:Nat) (s:Shared) (vs:Array Value) (n:Nat) (sl:Array (Option Value)),k = ds.length - i→i ≤ ds.length→St (c.comp ρ scope cl C X s1) ρ' s→ST i s.heap →
   s.heap.get? D = some ⟨.type "list",none,.seq vs n,sl⟩→RdAll (fz X s.heap) vs.toList ((ds.take i).filterMap g) →
   codeAny (MM c.w) c.A (.compLoop (.ListComp elt [⟨target,iter,ifs,0⟩] scope pos) 0 (.ref I) (.ref D) (c.comp ρ scope cl C X s1).env) R s:=by
 generalize hc':c.comp ρ scope cl C X s1 = c' at *
 have ew:c'.w = c.w:=by rw [← hc']
 have eA:c'.A = c.A:=by rw [← hc']
 have eX:c'.X = X:=by rw [← hc']
 have es0:c'.s0 = s1:=by rw [← hc']
 have efs:c'.fs = c.fs:=by rw [← hc']
 have epin:c'.pin = c.pin:=by rw [← hc']
 have efs0:c'.fs0 = c.fs:=by rw [← hc']
 have hxx:∀ a,a ∈ c'.XX ρ' ↔ a ∈ X:=fun a=>by
  unfold Cx.XX; rw [eX]
  refine ⟨fun h=>(List.mem_append.mp h).elim (fun q=>hX a (List.mem_append_left _ (hon a q))) id,fun h=>List.mem_append_right _ h⟩
 have hIup:∀ (i:Nat) (s:Shared) (h':Heap) (tk:Nat),St c' ρ' s→ST i s.heap→(∀ b o,b ∉ [I]→s.heap.get? b = some o→h'.get? b = some o)→1 ≤ tk →
   St c' ρ' { s with heap:=h',toks:=tk }∧∀ vs ds',RdAll (fz X s.heap) vs ds'→RdAll (fz X h') vs ds':=by
  intro i s h' tk S st hk' ht
  obtain ⟨oI,fI,nI,e1,e2,e3,e4,e5⟩:=src.obj i s.heap st
  refine ⟨S.upd ok (b:=I) (by rw [es0]; exact hI0) (fun a o ne e=>hk' a o (by simpa using ne) e) hIt (fun q=>hIX ((hxx I).mp q)) (fun o e=>?_) (fun p hp q=>by rw [epin] at hp; have:=hpin p hp; rw [q,hI0] at this; cases this) rfl rfl ht,fun vs ds' r=>r.mono' fun a o vs n hd e=>?_⟩
  ·rw [e1] at e; cases e; exact ⟨(by rw [e2]; intro _ _ h; cases h),.inl (by rw [e3]; intro q; cases q; exact e4 rfl)⟩
  ·refine Bf0 (hk' a o (fun q=>?_) (Ah0 e)) (Ae0 e)
   have q':a = I:=by simpa using q
   rw [q'] at e
   have:=Ah0 e
   rw [e1] at this; cases this; rw [e2] at hd; cases hd
 have hquiet:(Code.compLoop (.ListComp elt [⟨target,iter,ifs,0⟩] scope pos) 0 (.ref I) (.ref D) c'.env).quiet = true:=rfl
 intro k
 induction k with
 | zero =>
  intro i s vs n sl hk hi S st e r
  have hin:i = ds.length:=by grind
  subst hin
  refine codeAny_of_tree ?_
  show wpAny _ c.A (Sem.onRaise (compTurn (.ListComp elt [⟨target,iter,ifs,0⟩] scope pos) 0 (.ref I) (.ref D) c'.env) (fun x=>do noteFrame x c'.env; theTreesLotGoes x)) _ _ s
  refine wpAny_noted ?_
  rw [compTurn_list]
  refine wB (wpAny_standAt (wB (wpAny_with_toks (n:=1) S.toks (src.walk.done s _ _ st fun h' tk hk' ht=>?_))))
  obtain ⟨S',rr⟩:=hIup _ s h' tk S st hk' ht
  have hDI:D ≠ I:=fun q=>hIX (q ▸ hD)
  refine wP (hR _ vs n sl S' (hk' D _ (by simpa using hDI) e) (rr _ _ ?_))
  rwa [List.take_length] at r
 | succ k ih =>
  intro i s vs n sl hk hi S st e r
  have hlt:i < ds.length:=by grind
  have hdi:ds[i]? = some ds[i]:=List.getElem?_eq_getElem hlt
  refine codeAny_of_tree ?_
  show wpAny _ c.A (Sem.onRaise (compTurn (.ListComp elt [⟨target,iter,ifs,0⟩] scope pos) 0 (.ref I) (.ref D) c'.env) (fun x=>do noteFrame x c'.env; theTreesLotGoes x)) _ _ s
  refine wpAny_noted ?_
  rw [compTurn_list]
  refine wB (wpAny_standAt (wB (wpAny_with_toks (n:=1) S.toks (src.walk.item i s _ _ hlt st fun v h' tk hP st' hk' ht=>?_))))
  obtain ⟨S',rr⟩:=hIup i s h' tk S st hk' ht
  have hDI:D ≠ I:=fun q=>hIX (q ▸ hD)
  have e':=hk' D _ (by simpa using hDI) e
  have r':=rr _ _ r
  obtain ⟨d,hd,rv⟩:=src.item i v hlt hP
  rw [hdi] at hd
  cases hd
  obtain ⟨bs,hbs0,hbsn,hasg,htest,helt⟩:=(turn i _ hdi).run
  refine wB (Gu0 (c:=c) (src.obj (i + 1) h' st') ?_)
  have rv':V ds[i] (fz (c'.XX ρ') h') v:=by
   refine hV _ _ _ _ (fun a o vs n hda ea=>?_) rv
   have ha:=Ah0 ea
   obtain ⟨h3,h4⟩:=Po0 ok S' (by rw [es0]; exact ha) hda
   exact Bf0 (S'.since.keep a o (by rw [es0]; exact ha) h3 h4) fun q=>Ae0 ea (hXn a o ha ((hxx a).mp q))
  have hST:∀ (sa sb:Shared) (j:Nat),St c' ρ' sa→St c' ρ' sb→NDK sa sb→ST j sa.heap→ST j sb.heap:=by
   intro sa sb j Sa Sb nd st
   refine src.walk.frame j _ _ st fun b hb o eo=>?_
   by_cases hbI:b = I
   ·obtain ⟨oI,fI,nI,e1,e2,e3,e4,e5⟩:=src.obj j sa.heap st
    rw [hbI] at eo ⊢
    rw [e1] at eo; cases eo
    exact nd I _ e1 (by rw [e2]; intro _ _ h; cases h) (by rw [e2]; intro _ h; cases h) hIt
   ·rcases src.keep b hb hbI with ⟨o',ws,m,f1,f2⟩ | ⟨o',hp⟩
    ·obtain ⟨h3,h4⟩:=Po0 ok Sa (by rw [es0]; exact f1) f2
     have:=Sa.since.keep b o' (by rw [es0]; exact f1) h3 h4
     rw [this] at eo; cases eo
     exact nd b _ this (by rw [f2]; intro _ _ h; cases h) (by rw [f2]; intro _ h; cases h) h4
    ·rw [Sa.pin (b,o') (by rw [epin]; exact hp)] at eo; cases eo
     exact Sb.pin (b,o') (by rw [epin]; exact hp)
  have hRA:∀ (sa sb:Shared) (ws:List Value) (es:List PyData),St c' ρ' sa→NDK sa sb→RdAll (fz X sa.heap) ws es→RdAll (fz X sb.heap) ws es:=by
   intro sa sb ws es Sa nd r
   refine r.mono' fun a o vs n hd ea=>?_
   refine Bf0 (nd a o (Ah0 ea) (by rw [hd]; intro _ _ h; cases h) (by rw [hd]; intro _ h; cases h) fun q=>?_) (Ae0 ea)
   obtain ⟨tv,te,_⟩:=Sa.tab ok
   rw [q] at ea
   have:=Ah0 ea
   rw [te] at this; cases this; cases hd
  have hwk:∀ sa,St c' (bs ++ ρ') sa→St c' ρ' sa:=by
   intro sa Sa
   refine Sa.weaken (fun x sl hx=>?_) fun a ha=>?_
   ·rw [List.lookup_append]
    cases hb:bs.lookup x with
    | none=>simpa using hx
    | some y=>have:=hbsn x y hb; rw [this] at hx; cases hx
   ·unfold As0 at ha ⊢; rw [List.filterMap_append]; exact List.mem_append_right _ ha
  have hD2:∀ (sa sb:Shared) (ws:Array Value) (m:Nat),NDK sa sb→sa.heap.get? D = some ⟨.type "list",none,.seq ws m,sl⟩→sb.heap.get? D = some ⟨.type "list",none,.seq ws m,sl⟩:=by
   intro sa sb ws m nd ee
   exact nd D _ ee (by intro _ _ h; cases h) (by intro _ h; cases h) hDt
  unfold Kk1 at hasg
  unfold EvBs at htest
  unfold EvD Ev at helt
  rw [ew,eA] at hasg htest
  refine wB (hasg _ v S' rv' _ _ fun s2 S2 nd2 _=>?_)
  refine wB (htest s2 S2 _ _ fun s3 S3 k3=>?_)
  have nd3:NDK s2 s3:=k3.ndk ok S2
  have S2':=hwk s2 S2
  have S3':=hwk s3 S3
  have st2:=hST _ _ _ S' S2' nd2 st'
  have st3:=hST _ _ _ S2' S3' nd3 st2
  have r2:=hRA _ _ _ _ S' nd2 r'
  have r3:=hRA _ _ _ _ S2' nd3 r2
  have e2:=hD2 _ _ _ _ nd2 e'
  have e3:=hD2 _ _ _ _ nd3 e2
  have hstep:(ds.take (i + 1)).filterMap g = (ds.take i).filterMap g ++ (g ds[i]).toList:=by
   rw [List.take_succ_eq_append_getElem hlt,List.filterMap_append]
   rw [List.filterMap_cons,List.filterMap_nil]
   cases g ds[i] <;> rfl
  cases hg:g ds[i] with
  | none =>
   rw [hg] at hstep
   simp only [Option.isSome_none,Bool.false_eq_true,if_false]
   refine wP ⟨hquiet,ih (i + 1) s3 vs n sl (by grind) hlt S3' st3 e3 ?_⟩
   rw [hstep]; simpa using r3
  | some y =>
   rw [hg] at hstep
   simp only [Option.isSome_some,if_true]
   have hel:=helt y hg s3 S3
   rw [ew,eA] at hel
   refine wB (wB (wpAny_with_toks (n:=1) S3.toks (wM (hel _) (fun u s4 hh4 ht4=>?_) fun _ _ x _=>x)))
   obtain ⟨k4,ru⟩:=hh4
   have S4:=S3.step ok k4 ht4
   have nd4:NDK s3 s4:=k4.ndk ok S3
   have S4':=hwk s4 S4
   have e4:=hD2 _ _ _ _ nd4 e3
   have st4:=hST _ _ _ S3' S4' nd4 st3
   have r4:=hRA _ _ _ _ S3' nd4 r3
   have hvl:=r4.length
   have hvl2:((ds.take i).filterMap g).length ≤ sizeLine:=Nat.le_trans (List.length_filterMap_le _ _) (Nat.le_trans (by rw [List.length_take]; exact Nat.min_le_right _ _) hsz)
   refine wB (Ch0 e4 (fun h5 n5 e5 hs5=>?_) (by simp only [Array.length_toList] at hvl; simp_all))
   refine wP (wP ⟨hquiet,ih (i + 1) _ (vs.push u) n5 sl (by lia) hlt ?_ ?_ e5 ?_⟩)
   ·refine S4'.updD ok (b:=D) (by rw [es0]; exact hDs) (fun a o ne ee=>(hs5.2 a ne).trans ee) hDt (by rw [eX]; exact hD) hDo (fun o ee=>?_) ⟨_,e5,.inr fun ws q=>by cases q⟩ rfl rfl S4'.toks
    rw [e4] at ee; cases ee; exact ⟨_,_,rfl⟩
   ·refine src.walk.frame _ _ _ st4 fun b hb o eo=>(hs5.2 b fun q=>?_).trans eo
    by_cases hbI:b = I
    ·exact hIX (hbI ▸ q ▸ hD)
    ·have f:∃ o',s1.heap.get? b = some o':=(src.keep b hb hbI).elim (fun hh1=>by obtain ⟨o',_,_,f,_⟩:=hh1; exact ⟨o',f⟩) fun hh2=>by obtain ⟨o',hp⟩:=hh2; exact ⟨o',hpin (b,o') hp⟩
     obtain ⟨o',f⟩:=f
     rw [q,hDs] at f; cases f
   ·rw [hstep,Array.toList_push]
    have hfz:∀ a o,fz X s4.heap a = some o→fz X h5 a = some o:=fun a o ee=>Bf0 ((hs5.2 a fun q=>Ae0 ee (q ▸ hD)).trans (Ah0 ee)) (Ae0 ee)
    refine (r4.mono hfz).append (.cons ?_ .nil)
    refine (ru.mono (Ao0 (Y:=X) fun a ha=>?_)).mono hfz
    unfold Cx.XX; rw [eX]; exact List.mem_append_right _ ha
noncomputable def Cf0 (cells:List (Str × Addr)):List (Str × NameKind)→List (Str × Addr)→Option (List (Str × Addr))
 | [],acc=>some acc
 | (n,k) :: r,acc=>if k == .free then (match cells.lookup n with | some a=>Cf0 cells r ((n,a) :: acc) | none=>none) else Cf0 cells r acc
set_option tactic.hygienic true in
theorem Df0:∀ (names:List (Str × NameKind)) (acc cl:List (Str × Addr)),Cf0 env.cells names acc = some cl →
  (forIn (m:=Sem) names acc fun x r=>do
   let (name,kind):=x
   if kind == .free then do let a ← cellOf env name; pure (ForInStep.yield ((name,a) :: r)) else pure (ForInStep.yield r)) = pure cl ∧
  ∀ p ∈ cl,p ∈ acc ∨ (env.cells.lookup p.1 = some p.2∧(p.1,NameKind.free) ∈ names)
 | [],acc,cl,h=>by cases h; exact ⟨rfl,fun p hp=>.inl hp⟩
 | (n,k) :: r,acc,cl,h=>by
  unfold Cf0 at h
  rw [List.forIn_cons]
  split at h
  ·rename_i hk
   split at h
   ·rename_i a ha
    obtain ⟨h1,h2⟩:=Df0 r ((n,a) :: acc) cl h
    refine ⟨?_,fun p hp=>?_⟩
    ·simp only [hk,if_true]
     rw [show cellOf env n = pure a by unfold cellOf; rw [ha]]
     exact h1
    ·rcases h2 p hp with q | ⟨q,q'⟩
     ·rcases List.mem_cons.mp q with e | q
      ·have hkf:k = .free:=by simpa using hk
       subst e; subst hkf; exact .inr ⟨ha,.head _⟩
      ·exact .inl q
     ·exact .inr ⟨q,.tail _ q'⟩
   ·cases h
  ·rename_i hk
   obtain ⟨h1,h2⟩:=Df0 r acc cl h
   refine ⟨?_,fun p hp=>?_⟩
   ·simp only [hk]
    exact h1
   ·rcases h2 p hp with q | ⟨q,q'⟩
    ·exact .inl q
    ·exact .inr ⟨q,.tail _ q'⟩
theorem Fd0 {cells:List (Str × Addr)}:∀ (names:List (Str × NameKind)) (acc cl:List (Str × Addr)),Cf0 cells names acc = some cl→(names.map (·.1)).Nodup→(∀ p ∈ acc,p.1 ∉ names.map (·.1))→(acc.map (·.1)).Nodup→(cl.map (·.1)).Nodup
 | [],acc,cl,h,_,_,h3=>by cases h; exact h3
 | (n,k) :: r,acc,cl,h,h1,h2,h3=>by
  unfold Cf0 at h
  rw [List.map_cons,List.nodup_cons] at h1
  split at h
  ·split at h
   ·rename_i a ha
    refine Fd0 r _ cl h h1.2 (fun p hp=>?_) ?_
    ·rcases List.mem_cons.mp hp with e | hp
     ·subst e; exact h1.1
     ·exact fun q=>h2 p hp (.tail _ q)
    ·rw [List.map_cons,List.nodup_cons]
     refine ⟨fun q=>?_,h3⟩
     obtain ⟨p,hp,e⟩:=List.mem_map.mp q
     exact h2 p hp (by rw [e]; exact .head _)
   ·cases h
  ·exact Fd0 r acc cl h h1.2 (fun p hp q=>h2 p hp (.tail _ q)) h3
theorem Gv0 (h:Cf0 env.cells scope.names [] = some cl):closureFor scope env = pure cl:=by
 have:=(Df0 scope.names [] cl h).1
 unfold closureFor
 simp only [bind_pure_comp] at *
 simpa using this
theorem Ul0 {s1:Shared} (k:Kp fs s1 s') (hb:s1.heap.get? b = none) (hs:∀ a o,a ≠ b→s'.heap.get? a = some o→h'.get? a = some o) (hd:∀ o,s'.heap.get? b = some o→∀ vs,o.data ≠ .fields vs) (ht:b ≠ tA) :
  Kp fs s1 { s' with heap:=h' } :=
 ⟨k.gens,k.os,fun a o e h1 h2=>hs a o (fun h=>by rw [h,hb] at e; cases e) (k.keep a o e h1 h2),fun a o e h2=>by
  obtain ⟨sl,e'⟩:=k.slot a o e h2
  exact ⟨sl,hs a _ (fun h=>by rw [h,hb] at e; cases e) e'⟩,fun t=>by
  exact (k.tab t).keepF (fun _ e=>hs _ _ (Ne.symm ht) e) fun _ o ws f2 f3 f1=>hs _ _ (fun h=>hd o (h ▸ f1) _ f3) f1⟩
theorem Mb0 {s1:Shared} {o:Obj} (ok:CxOk c) (S1:St c ρ s1)
  (hIe:I = s1.heap.objs.size) (hclos:Cf0 c.env.cells scope.names [] = some cl) (hvis:Vis c.env scope cl ρ ρ') (hnd:(scope.names.map (·.1)).Nodup) (hkind:scope.kind = .function)
  {X:List Addr} {C D:Addr} {H:Heap} (hC:C = s1.heap.objs.size + 2) (hD:D = s1.heap.objs.size + 1) (hX:X = C :: D :: ((cellsFrom (C + 1) scope.names cl).map (·.2) ++ c.XX ρ))
  (hH:H = pushCells (((s1.heap.push o).push { cls:=.type "list",data:=.seq ([]:List Value).toArray }).push { cls:=.type "dict",data:=.dict #[] }) scope.names) :
  CxOk (c.comp ρ scope cl C X s1)∧St (c.comp ρ scope cl C X s1) ρ' { s1 with heap:=H }∧H.get? D = some ⟨.type "list",none,.seq #[] 0,#[]⟩∧(∀ a q,(s1.heap.push o).get? a = some q→H.get? a = some q)∧H.Ns C (fun _=>none) ∧
   (∀ a o',s1.heap.get? a = some o'→a ∈ X→a ∈ c.XX ρ)∧I ∉ X∧s1.heap.get? D = none∧s1.heap.get? I = none∧s1.heap.get? C = none∧I ≠ tA∧D ≠ tA∧C ≠ tA∧D ∉ As0 ρ'∧I ∉ As0 ρ'∧D ∉ c.XX ρ:=by
 obtain ⟨hc1,hc2⟩:=Df0 scope.names [] cl hclos
 have hI:@Eq Nat I s1.heap.objs.size:=hIe
 have hC2:@Eq Nat C (s1.heap.objs.size + 2):=hC
 have hD2:@Eq Nat D (s1.heap.objs.size + 1):=hD
 have am:=S1.amb ok
 have hsz:269 ≤ s1.heap.objs.size:=by
  have h268:=am.wd.k 268 (((KF c.w).lookup 268).get (by rfl)) (by rfl)
  exact Heap.lt_size h268
 have hnone:∀ b,s1.heap.objs.size ≤ b→s1.heap.get? b = none:=fun b hb=>by
  cases q:s1.heap.get? b with
  | none=>rfl
  | some o=>exact absurd (Heap.lt_size q) (Nat.not_lt.mpr hb)
 have hs2:(s1.heap.push o).objs.size = s1.heap.objs.size + 1:=Heap.size_push ..
 have hs3:((s1.heap.push o).push { cls:=.type "list",data:=.seq ([]:List Value).toArray }).objs.size = s1.heap.objs.size + 2:=by rw [Heap.size_push,hs2]
 have hs4:(((s1.heap.push o).push { cls:=.type "list",data:=.seq ([]:List Value).toArray }).push { cls:=.type "dict",data:=.dict #[] }).objs.size = s1.heap.objs.size + 3:=by rw [Heap.size_push,hs3]
 have keepI:∀ a q,(s1.heap.push o).get? a = some q→H.get? a = some q:=fun a q e=>by
  rw [hH]; exact pushCells_keeps _ _ _ _ (Heap.get?_push_of_some _ (Heap.get?_push_of_some _ e))
 have keep:∀ a q,s1.heap.get? a = some q→H.get? a = some q:=fun a q e=>keepI a q (Heap.get?_push_of_some _ e)
 have hDo:H.get? D = some ⟨.type "list",none,.seq #[] 0,#[]⟩:=by
  rw [hH,hD,← hs2]
  exact pushCells_keeps _ _ _ _ (Heap.get?_push_of_some _ (Heap.get?_push_size _ rfl))
 have hCn:H.Ns C (fun _=>none):=by
  rw [hH,hC,← hs3]
  exact (Heap.Ns.new _ (.type "dict")).keeps (pushCells_keeps _ _)
 have hlt:∀ a ∈ c.XX ρ,a < s1.heap.objs.size:=fun a ha=>by obtain ⟨o,e,_⟩:=S1.has a ha; exact Heap.lt_size e
 have hclX:∀ p ∈ cl,p.2 ∈ c.XX ρ:=fun p hp=>by
  rcases hc2 p hp with q | ⟨q,_⟩
  ·cases q
  ·exact List.mem_append_right _ (ok.cellX _ _ (Ag0 q))
 have hcells:∀ p ∈ cellsFrom (C + 1) scope.names cl,p ∈ cl ∨ (s1.heap.objs.size + 3 ≤ p.2∧H.IsCell p.2 none):=fun p hp=>by
  have:=Do0 scope.names (((s1.heap.push o).push { cls:=.type "list",data:=.seq ([]:List Value).toArray }).push { cls:=.type "dict",data:=.dict #[] }) cl p (by rw [hs4,show s1.heap.objs.size + 3 = C + 1 by rw [hC]]; exact hp)
  rw [hs4,← hH] at this
  exact this
 have hXm:∀ a,a ∈ X ↔ a = C ∨ a = D ∨ (∃ p ∈ cellsFrom (C + 1) scope.names cl,p.2 = a) ∨ a ∈ c.XX ρ:=fun a=>by
  rw [hX]; simp only [List.mem_cons,List.mem_append,List.mem_map]
 have hXX:∀ a ∈ c.XX ρ,a ∈ X:=fun a ha=>(hXm a).mpr (.inr (.inr (.inr ha)))
 have hXn:∀ a o',s1.heap.get? a = some o'→a ∈ X→a ∈ c.XX ρ:=fun a o' e ha=>by
  have hl:@LT.lt Nat _ a s1.heap.objs.size:=Heap.lt_size e
  rcases (hXm a).mp ha with q | q | ⟨p,hp,q⟩ | q
  ·have q':@Eq Nat a C:=q
   exfalso; simp_all
  ·have q':@Eq Nat a D:=q
   exfalso; simp_all
  ·rcases hcells p hp with r | ⟨r,_⟩
   ·rw [← q]; exact hclX p r
   ·have q':@Eq Nat p.2 a:=q
    exfalso; lia
  ·exact q
 have hIX:I ∉ X:=fun ha=>by
  rcases (hXm I).mp ha with q | q | ⟨p,hp,q⟩ | q
  ·have q':@Eq Nat I C:=q
   simp_all
  ·have q':@Eq Nat I D:=q
   simp_all
  ·have q':@Eq Nat p.2 I:=q
   rcases hcells p hp with r | ⟨r,_⟩
   ·have hh:@LT.lt Nat _ p.2 s1.heap.objs.size:=hlt _ (hclX p r)
    simp_all
   ·lia
  ·have hh:@LT.lt Nat _ I s1.heap.objs.size:=hlt _ q
   lia
 have hown:∀ a ∈ As0 ρ',a < s1.heap.objs.size:=fun a ha=>hlt a (List.mem_append_left _ (hvis.owned a ha))
 have tne:∀ a:Nat,269 ≤ a→a ≠ tA:=fun a h=>Nat.ne_of_gt (Nat.lt_of_lt_of_le (by decide) h)
 have hclnd:=Fd0 scope.names [] cl hclos hnd (fun p hp=>nomatch hp) .nil
 refine ⟨?_,?_,hDo,?_,hCn,hXn,hIX,hnone _ (by simp_all),hnone _ (by exact Nat.le_of_eq (Eq.symm ‹_›)),hnone _ (by simp_all),tne _ (by simp_all),tne _ (by lia),tne _ (by lia),fun q=>?_,fun q=>?_,fun q=>?_⟩
 ·-- CxOk
  refine ⟨am.wd,am.tab,ok.hand,am.depth,am.units,ok.frames,fun b hb=>hXX b (Dy0 ok b hb),hXX _ (Ii0 ok),ok.lo,fun b hb=>hb,fun b hb hn=>absurd hb hn,hkind,ok.glob,ok.blt,hXX,(fun b hb=>by obtain ⟨o,e,_⟩:=S1.has b hb; exact ⟨o,e⟩),(hXm C).mpr (.inl rfl),fun n a hm=>(hXm a).mpr (.inr (.inr (.inl ⟨_,hm,rfl⟩))),hnone C (by simp_all),fun n a hcn hm=>?_,?_⟩
  ·have hm':(n,a) ∈ cellsFrom (C + 1) scope.names cl:=Ag0 hm
   rcases hcells _ hm' with r | ⟨r,_⟩
   ·exfalso
    rcases hc2 _ r with q | ⟨_,q⟩
    ·cases q
    ·have hcn':n ∈ Bg0 scope:=by simpa using hcn
     obtain ⟨x,hx,e⟩:=List.mem_map.mp hcn'
     obtain ⟨hx1,hx2⟩:=List.mem_filter.mp hx
     have h1:=Av0 hnd hx1
     have h2:=Av0 hnd q
     simp only at h2
     rw [e,h2] at h1
     have:x.2 = .cell:=by simpa using hx2
     rw [this] at h1; cases h1
   ·exact hnone _ (by lia)
  ·refine De0 _ _ _ ?_ fun p hp=>by
    have hh:@LT.lt Nat _ p.2 s1.heap.objs.size:=hlt _ (hclX p hp)
    show @LT.lt Nat _ p.2 (C + 1)
    lia
   have key:∀ l:List (Str × Addr),(∀ p ∈ l,c.env.cells.lookup p.1 = some p.2)→(l.map (·.1)).Nodup→l.Pairwise fun x y=>x.2 ≠ y.2:=by
    intro l
    induction l with
    | nil=>intro _ _; exact .nil
    | cons p r ih =>
     intro h1 h2
     rw [List.map_cons,List.nodup_cons] at h2
     refine List.pairwise_cons.mpr ⟨fun y hy e=>?_,ih (fun q hq=>h1 q (.tail _ hq)) h2.2⟩
     have a1:=h1 p (.head _)
     have a2:=h1 y (.tail _ hy)
     rw [e] at a1
     have:=Gs0 ok.apart a1 a2
     exact h2.1 (this ▸ List.mem_map.mpr ⟨y,hy,rfl⟩)
   exact key cl (fun p hp=>(hc2 p hp).elim (fun q=>nomatch q) (fun q=>q.1)) hclnd
 ·-- St
  have hfz:∀ a o',fz (c.XX ρ) s1.heap a = some o'→fz (Cx.XX (c.comp ρ scope cl C X s1) ρ') H a = some o':=fun a o' e=>by
   refine Bf0 (keep _ _ (Ah0 e)) fun q=>Ae0 e ?_
   rcases List.mem_append.mp q with q | q
   ·exact List.mem_append_left _ (hvis.owned a q)
   ·exact hXn a o' (Ah0 e) q
  have hsees:∀ y v,(∃ a,c.env.cells.lookup y = some a∧cl.lookup y = some a)→scope.names.lookup y = some .free→(c.env.kindOf y = some .cell ∨ c.env.kindOf y = some .free)→(y == ("__classdict__" : Str)) = false →
    Sees c.env s1.heap y v→Sees (c.comp ρ scope cl C X s1).env H y v:=by
   intro y v hi13 hf hk hcd hsee
   obtain ⟨a,ha,hb⟩:=hi13
   rcases hsee with ⟨q,_⟩ | ⟨_,_,a',ha',⟨ob,e1,e2⟩⟩
   ·rcases hk with k | k <;> (rw [k] at q; cases q)
   ·rw [ha] at ha'; cases ha'
    refine .inr ⟨Ij0 hf,hcd,a,?_,⟨ob,keep _ _ e1,e2⟩⟩
    show (cellsFrom (C + 1) scope.names cl).lookup y = some a
    rw [El0 _ _ _ fun k hk'=>?_]
    ·exact hb
    ·intro e
     have:=Av0 hnd hk'
     rw [hf] at this; cases this; cases e
  refine ⟨.of_all rfl rfl keep,S1.toks,fun l hl=>?_,⟨_,hCn⟩,fun n a hm=>?_,fun x d hx=>?_,fun a ha=>?_,fun x a dd hx=>?_,fun x v hx=>?_,fun p hp=>keep _ _ (S1.pin p hp),fun p hp q=>S1.pinx p hp ?_⟩
  ·intro env he
   obtain ⟨a,L,o',e1,e2,e3,e4⟩:=S1.frs l hl env he
   exact ⟨a,L,o',e1,keep _ _ e2,e3,e4⟩
  ·rcases hcells _ hm with r | ⟨_,r⟩
   ·rcases hc2 _ r with q | ⟨q,_⟩
    ·cases q
    ·obtain ⟨v,ob,e1,e2⟩:=S1.cell _ _ (Ag0 q)
     exact ⟨v,ob,keep _ _ e1,e2⟩
   ·exact ⟨_,r⟩
  ·obtain ⟨h1,h2,h3,h4,h5⟩:=hvis.get hx
   obtain ⟨v,y,r⟩:=S1.loc x d h1
   exact ⟨v,hsees x v h3 h4 h2 h5 y,r.mono hfz⟩
  ·rcases List.mem_append.mp ha with q | q
   ·obtain ⟨ob,e,nf⟩:=S1.has a (List.mem_append_left _ (hvis.owned a q)); exact ⟨ob,keep _ _ e,nf⟩
   ·rcases (hXm a).mp q with q | q | ⟨p,hp,q⟩ | q
    ·obtain ⟨ob,_,_,e,hdc,_⟩:=hCn; rw [q]; exact ⟨ob,e,.inr fun ws w=>by rw [hdc] at w; cases w⟩
    ·rw [q]; exact ⟨_,hDo,.inr fun ws w=>by cases w⟩
    ·rcases hcells p hp with r | ⟨_,r⟩
     ·obtain ⟨ob,e,nf⟩:=S1.has p.2 (hclX p r); rw [← q]; exact ⟨ob,keep _ _ e,nf⟩
     ·obtain ⟨ob,e,hdc⟩:=r; rw [← q]; exact ⟨ob,e,.inr fun ws w=>by rw [hdc] at w; cases w⟩
    ·obtain ⟨ob,e,nf⟩:=S1.has a q; exact ⟨ob,keep _ _ e,nf⟩
  ·obtain ⟨h1,h2,h3,h4,h5⟩:=hvis.get hx
   obtain ⟨y,⟨vs,n,sl,e1,r⟩,n1⟩:=S1.own x a dd h1
   refine ⟨hsees x _ h3 h4 h2 h5 y,⟨vs,n,sl,keep _ _ e1,r.mono hfz⟩,n1⟩
  ·obtain ⟨h1,h2,h3,h4,h5⟩:=hvis.get hx
   exact hsees x v h3 h4 h2 h5 (S1.raw x v h1)
  ·rcases List.mem_append.mp q with q | q
   ·exact List.mem_append_left _ (hvis.owned _ q)
   ·exact hXn _ _ (S1.pin p hp) q
 ·exact keepI
 ·have hh:@LT.lt Nat _ D s1.heap.objs.size:=hown _ q
  lia
 ·have hh:@LT.lt Nat _ I s1.heap.objs.size:=hown _ q
  lia
 ·have hh:@LT.lt Nat _ D s1.heap.objs.size:=hlt _ q
  lia
theorem Jh0 {α:Type} {ds:List α} {V:α→(Addr→Option Obj)→Value→Prop} {g:α→Option PyData} {use:Option (Value→Sem Unit)} {Q:Value→Shared→Prop} (ok:CxOk c) (S:St c ρ s)
  (hi:∀ (E:Value→Shared→Prop) (Q:Value→Shared→Prop),(∀ s1 I o fp P ST,St c ρ s1→Kp c.fs s s1→SrcG c ρ s1 ds V I o fp P ST→Q (.ref I) { s1 with heap:=s1.heap.push o })→wpAny (MM c.w) c.A (eval iter c.env) (fun x s'=>wpAny (MM c.w) c.A (pyIter x) Q E s') E s) (hsz:ds.length ≤ sizeLine) (hclos:Cf0 c.env.cells scope.names [] = some cl) (hvis:Vis c.env scope cl ρ ρ')
  (hnd:(scope.names.map (·.1)).Nodup) (hkind:scope.kind = .function)
  (turn:∀ C X s1,CxOk (c.comp ρ scope cl C X s1)→∀ (i:Nat) d,ds[i]? = some d→TurnG (c.comp ρ scope cl C X s1) ρ' target ifs elt (V d) (g d))
  (hV:∀ d v g g',(∀ a o vs n,o.data = .seq vs n→g a = some o→g' a = some o)→V d g v→V d g' v)
  (hs:∀ x,foldedSetIterable iter c.env x = pure x)
  (hend:∀ C D s1 s' m,St c ρ s1→Kp c.fs s s1→Kp c.fs s1 s'→s1.heap.get? C = none→C ≠ tA→0 < s'.toks→s'.heap.Ns C m→D ≠ C→D ∉ c.XX ρ→s1.heap.objs.size ≤ D→Rd (fz (c.XX ρ) s'.heap) (.ref D) (.list (ds.filterMap g))→compPost (MM c.w) c.A E use Q (.ref D) C (.ok .next) s') :
  wpAny (MM c.w) c.A (comprehension (.ListComp elt [⟨target,iter,ifs,0⟩] scope pos) scope c.env pos' (newList []) false (eval iter c.env) use) Q E s:=by
 obtain ⟨hc1,hc2⟩:=Df0 scope.names [] cl hclos
 have hnames:∀ x ∈ scope.names,x.2 = .local→scope.names.lookup x.1 = some .local:=fun x hx hl=>by
  rw [← hl]; exact Av0 hnd hx
 refine wpAny_comprehension_free (use:=use) rfl hs (Gv0 hclos) hkind hnames ?_
 refine hi E _ fun s1 I o fp P ST S1 k1 src=>?_
 have hI:=src.hI
 subst hI
 refine wpAny_newList ?_ (by show 0 ≤ sizeLine; exact Nat.zero_le _)
 refine Uk0 ?_
 have hs2:(s1.heap.push o).objs.size = s1.heap.objs.size + 1:=Heap.size_push ..
 have hs3:((s1.heap.push o).push { cls:=.type "list",data:=.seq ([]:List Value).toArray }).objs.size = s1.heap.objs.size + 2:=by rw [Heap.size_push,hs2]
 obtain ⟨ok',S',hDo,hkI,hCn,hXn,hIX,hD0,hI0,hC0,hIt,hDt,hCt,hDo',hIo',hDX⟩:=Mb0 (ρ':=ρ') (o:=o) ok S1 rfl hclos hvis hnd hkind (C:=s1.heap.objs.size + 2) (D:=s1.heap.objs.size + 1) rfl rfl rfl rfl
 have hXX:∀ a ∈ c.XX ρ,a ∈ ((s1.heap.objs.size + 2) :: (s1.heap.objs.size + 1) :: ((cellsFrom (s1.heap.objs.size + 2 + 1) scope.names cl).map (·.2) ++ c.XX ρ)):=fun a ha=>.tail _ (.tail _ (List.mem_append_right _ ha))
 have hST:=src.walk.frame 0 _ _ src.start fun b hb q e=>hkI b q e
 have loop:=Xy0 (c:=c) (ρ:=ρ) (ρ':=ρ') (s1:=s1) (scope:=scope) (cl:=cl) (C:=s1.heap.objs.size + 2) (D:=s1.heap.objs.size + 1) (g:=g) (target:=target) (iter:=iter) (elt:=elt) (ifs:=ifs) (pos:=pos)
  (R:=compPost (MM c.w) c.A E use Q (.ref (s1.heap.objs.size + 1)) (s1.heap.objs.size + 2))
  ok' src hV (.tail _ (.head _)) hD0 hDo' hIX hIo' hI0 hIt hDt hXX S1.pin hXn hvis.owned hsz (turn _ _ _ ok') (fun s' vs n sl S'' e r=>by
   obtain ⟨m,hm⟩:=S''.ns
   refine hend _ _ s1 s' m S1 k1 S''.since hC0 hCt S''.toks hm (Nat.ne_of_lt (Nat.lt_succ_self _)) hDX (Nat.le_succ _) ?_
   exact .list (a:=s1.heap.objs.size + 1) (vs:=vs) (n:=n) (sl:=sl) (Bf0 e hDX) (r.mono (Ao0 hXX)))
  ds.length 0 { s1 with heap:=_ } #[] 0 #[] (by rfl) (Nat.zero_le _) S' hST hDo (by simpa using RdAll.nil)
 rw [hs2,hs3]
 exact codeAny_compStart_list loop (src.walk.self 0 _ _ _ hST loop)
theorem Rd.sameC {C:Addr} {m:Str→Option Value} (hn:h.Ns C m) (hs:Heap.SameBut C h h') (r:Rd (fz X h) v d):Rd (fz X h') v d :=
 r.mono' fun a ob ws n hd ea=>Bf0 ((hs.2 a fun q=>by
  obtain ⟨o',es,ep,e',d',_⟩:=hn
  rw [← q,Ah0 ea] at e'; cases e'; rw [hd] at d'; cases d').trans (Ah0 ea)) (Ae0 ea)
theorem Ns.nofields {C:Addr} {m:Str→Option Value} (hn:h.Ns C m):∀ o,h.get? C = some o→(∀ vs n,o.data ≠ .seq vs n)∧∀ vs,o.data ≠ .fields vs:=fun o e=>by
 obtain ⟨o',es,ep,e',d',_⟩:=hn
 rw [e] at e'; cases e'; rw [d']
 exact ⟨fun _ _ h=>(by cases h),fun _ h=>(by cases h)⟩
noncomputable def EvG (c:Cx) (ρ:Rho) (iter:Expr) {α:Type} (ds:List α) (V:α→(Addr→Option Obj)→Value→Prop):Prop :=
 ∀ s,St c ρ s→∀ (E:Value→Shared→Prop) (Q:Value→Shared→Prop),(∀ s1 I o fp P ST,St c ρ s1→Kp c.fs s s1→SrcG c ρ s1 ds V I o fp P ST→Q (.ref I) { s1 with heap:=s1.heap.push o }) →
  wpAny (MM c.w) c.A (eval iter c.env) (fun x s'=>wpAny (MM c.w) c.A (pyIter x) Q E s') E s
theorem Eu1 (hi:EvI c ρ iter ds):EvG c ρ iter ds fun d g v=>Rd g v d :=
 fun s S E Q hQ=>hi s S E Q fun s1 I o fp P ST S1 k1 src=>hQ s1 I o fp P ST S1 k1 src.gen
theorem Nk0 {α:Type} {f:α→PyData} {ys:List α} (hi:EvI c ρ iter (ys.map f)):EvG c ρ iter ys fun a g v=>Rd g v (f a) :=
 fun s S E Q hQ=>hi s S E Q fun s1 I o fp P ST S1 k1 src=>hQ s1 I o fp P ST S1 k1 ⟨src.hI,List.length_map (as:=ys) f ▸ src.walk,src.start,fun b h1 h2=>.inl (src.seqs b h1 h2),fun i v h hP=>by
  obtain ⟨d,h1,h2⟩:=src.item i v (by rw [List.length_map]; exact h) hP
  rw [List.getElem?_map] at h1
  obtain ⟨a,h3,h4⟩:=Option.map_eq_some_iff.mp h1
  exact ⟨a,h3,h4 ▸ h2⟩,src.obj⟩
theorem Nl0 {α:Type} {ds:List α} {V:α→(Addr→Option Obj)→Value→Prop} {g:α→Option PyData} (ok:CxOk c)
  (hi:EvG c ρ iter ds V) (hsz:ds.length ≤ sizeLine) (hclos:Cf0 c.env.cells scope.names [] = some cl) (hvis:Vis c.env scope cl ρ ρ')
  (hnd:(scope.names.map (·.1)).Nodup) (hkind:scope.kind = .function)
  (turn:∀ C X s1,CxOk (c.comp ρ scope cl C X s1)→∀ (i:Nat) d,ds[i]? = some d→TurnG (c.comp ρ scope cl C X s1) ρ' target ifs elt (V d) (g d))
  (hV:∀ d v g g',(∀ a o vs n,o.data = .seq vs n→g a = some o→g' a = some o)→V d g v→V d g' v)
  (hs:∀ x,foldedSetIterable iter c.env x = pure x:=by intro _; rfl):EvD c ρ (.ListComp elt [⟨target,iter,ifs,0⟩] scope pos) (.list (ds.filterMap g)):=fun s S E=>by
 rw [eval_ListComp]
 refine Jh0 (use:=none) ok S (hi s S) hsz hclos hvis hnd hkind turn hV hs fun C D s1 s' m S1 k1 k2 hC hCt ht hn hDC hDX _ r=>⟨m,hn,fun h' hs'=>⟨?_,r.sameC hn hs'⟩⟩
 exact k1.trans (Ul0 k2 hC (fun a ob ne e=>(hs'.2 a ne).trans e) (fun ob e=>(Ns.nofields hn ob e).2) hCt)
theorem Dg0 {py spos:Pos} {α:Type} {ds:List α} {V:α→(Addr→Option Obj)→Value→Prop} {g:α→Option PyData} (ok:CxOk c) (S:St c ρ s)
  (hy:c.env.kindOf y = some .local) (hcd:(y == ("__classdict__" : Str)) = false)
  (hsw:swapsWith (.ListComp elt [⟨target,iter,ifs,0⟩] scope pos) (some (.Name y py)) spos.line c.env = pure true)
  (hi:EvG c ρ iter ds V) (hsz:ds.length ≤ sizeLine) (hclos:Cf0 c.env.cells scope.names [] = some cl) (hvis:Vis c.env scope cl ρ ρ')
  (hnd:(scope.names.map (·.1)).Nodup) (hkind:scope.kind = .function)
  (turn:∀ C X s1,CxOk (c.comp ρ scope cl C X s1)→∀ (i:Nat) d,ds[i]? = some d→TurnG (c.comp ρ scope cl C X s1) ρ' target ifs elt (V d) (g d))
  (hV:∀ d v g g',(∀ a o vs n,o.data = .seq vs n→g a = some o→g' a = some o)→V d g v→V d g' v)
  (hr:∀ s',St c ((y,.val (.list (ds.filterMap g))) :: ρ) s'→wpAny (MM c.w) c.A (execs rest c.env) Q E s')
  (hs:∀ x,foldedSetIterable iter c.env x = pure x:=by intro _; rfl):wpAny (MM c.w) c.A (execs (.Assign [.Name y py] (.ListComp elt [⟨target,iter,ifs,0⟩] scope pos) spos :: rest) c.env) Q E s:=by
 refine wC ?_
 rw [exec_Assign_Name_used _ _ _ _ hsw]
 refine wB (wpAny_standAt (wB ?_))
 show wpAny _ c.A (do let _ ← comprehension (.ListComp elt [⟨target,iter,ifs,0⟩] scope pos) scope c.env _ (newList []) false (eval iter c.env) (some (assign (.Name y py) c.env))) _ _ s
 refine wB (wM (Jh0 (use:=some (assign (.Name y py) c.env)) (Q:=fun _ s'=>wpAny (MM c.w) c.A (execs rest c.env) Q E s') ok S (hi s S) hsz hclos hvis hnd hkind turn hV hs
  fun C D s1 s' m S1 k1 k2 hC hCt ht hn hDC hDX _ r=>?_) (fun _ s' hq=>wP (wP hq)) fun _ _ e=>e)
 have S2:=S1.step ok k2 ht
 have hCX:C ∉ c.XX ρ:=fun q=>by obtain ⟨o,e,_⟩:=S1.has C q; rw [hC] at e; cases e
 show wpAny _ c.A (assign (.Name y py) c.env (.ref D)) _ _ s'
 refine wpAny_assign_Name (S2.store ok (.inl hy) hcd r fun s3 S3 _ hk3=>?_)
 have hn3:s3.heap.Ns C m:=hn.at' fun o e=>hk3 C o (fun q=>hCX (List.mem_append_right _ (q ▸ ok.locX))) (fun n q=>hCX (List.mem_append_right _ (ok.cellX n C q))) e
 have hC0:c.s0.heap.get? C = none:=by
  cases q:c.s0.heap.get? C with
  | none=>rfl
  | some o =>
   by_cases ht:C = tA
   ·exact absurd ht hCt
   ·obtain ⟨sl,e⟩:=S1.since.slot C o q ht; rw [hC] at e; cases e
 refine ⟨m,hn3,fun h' hs'=>hr _ (S3.upd ok (b:=C) hC0 (fun a o ne e=>(hs'.2 a ne).trans e) hCt hCX (fun o e=>⟨(Ns.nofields hn3 o e).1,.inr (Ns.nofields hn3 o e).2⟩) (fun p hp q=>by have:=S1.pin p hp; rw [q,hC] at this; cases this) rfl rfl S3.toks)⟩
theorem Sm0 {g:PyData→Option PyData} (ok:CxOk c)
  (hi:EvI c ρ iter ds) (hsz:ds.length ≤ sizeLine) (hclos:Cf0 c.env.cells scope.names [] = some cl) (hvis:Vis c.env scope cl ρ ρ')
  (hnd:(scope.names.map (·.1)).Nodup) (hkind:scope.kind = .function)
  (turn:∀ C X s1,CxOk (c.comp ρ scope cl C X s1)→∀ (i:Nat) d,ds[i]? = some d→Ii1 (c.comp ρ scope cl C X s1) ρ' target ifs elt d (g d))
  (hs:∀ x,foldedSetIterable iter c.env x = pure x:=by intro _; rfl):EvD c ρ (.ListComp elt [⟨target,iter,ifs,0⟩] scope pos) (.list (ds.filterMap g)) :=
 Nl0 ok (Eu1 hi) hsz hclos hvis hnd hkind turn (fun _ _ _ _ k r=>r.mono' k) hs
theorem Lj0 {py spos:Pos} {g:PyData→Option PyData} (ok:CxOk c) (S:St c ρ s)
  (hy:c.env.kindOf y = some .local) (hcd:(y == ("__classdict__" : Str)) = false)
  (hsw:swapsWith (.ListComp elt [⟨target,iter,ifs,0⟩] scope pos) (some (.Name y py)) spos.line c.env = pure true)
  (hi:EvI c ρ iter ds) (hsz:ds.length ≤ sizeLine) (hclos:Cf0 c.env.cells scope.names [] = some cl) (hvis:Vis c.env scope cl ρ ρ')
  (hnd:(scope.names.map (·.1)).Nodup) (hkind:scope.kind = .function)
  (turn:∀ C X s1,CxOk (c.comp ρ scope cl C X s1)→∀ (i:Nat) d,ds[i]? = some d→Ii1 (c.comp ρ scope cl C X s1) ρ' target ifs elt d (g d))
  (hr:∀ s',St c ((y,.val (.list (ds.filterMap g))) :: ρ) s'→wpAny (MM c.w) c.A (execs rest c.env) Q E s')
  (hs:∀ x,foldedSetIterable iter c.env x = pure x:=by intro _; rfl):wpAny (MM c.w) c.A (execs (.Assign [.Name y py] (.ListComp elt [⟨target,iter,ifs,0⟩] scope pos) spos :: rest) c.env) Q E s :=
 Dg0 ok S hy hcd hsw (Eu1 hi) hsz hclos hvis hnd hkind turn (fun _ _ _ _ k r=>r.mono' k) hr hs
noncomputable abbrev Nm0 (c:Cx) (rest:List Stmt) (Q:Flow→Shared→Prop) (E:Value→Shared→Prop):Flow→Shared→Prop:=fun f s'=>match f with | .next=>wpAny (MM c.w) c.A (execs rest c.env) Q E s' | f=>Q f s'
section
theorem Dp0 (ok:CxOk c):∀ a ∈ c.X0,a ∈ c.XX ρ:=fun a ha=>List.mem_append_right _ (ok.x0 a ha)
theorem Ax0 (ok:CxOk c) (S:St c ρ s) (h:EvD c ρ e d) (hq:∀ v s',St c ρ s'→Rd (fz (c.XX ρ) s'.heap) v d→Q (.ret v) s'):wpAny (MM c.w) c.A (execs (.Return (some e) pos :: rest) c.env) Q E s :=
 wC (wpAny_Return_some (Ad0 ok h S (.refl _ _) fun v s' S' _ _ r=>hq v s' S' r))
theorem Ji0 (ok:CxOk c) (S:St c ρ s) (h:EvD c ρ e d):wpAny (MM c.w) c.A (execs (.Return (some e) pos :: rest) c.env) (Hz1 c d) E s :=
 Ax0 ok S h fun v s' S' r=>⟨S'.since,r.mono (Ao0 (Dp0 ok))⟩
theorem Ap0 (ok:CxOk c) (S:St c ρ s) (h:EvD c ρ e d) (hx:c.env.kindOf x = some .local ∨ (c.env.kindOf x = some .cell∧(c.env.cells.lookup x).isSome = true∧c.cn.contains x = true)) (hcd:(x == ("__classdict__" : Str)) = false)
  (hs:swapsWith e (some (.Name x pos')) pos.line c.env = pure false) (hr:∀ s',St c ((x,.val d) :: ρ) s'→wpAny (MM c.w) c.A (execs rest c.env) Q E s'):wpAny (MM c.w) c.A (execs (.Assign [.Name x pos'] e pos :: rest) c.env) Q E s :=
 wC (wpAny_Assign_Name (Ad0 ok h S (.refl _ _) fun v s' S' _ _ r=>S'.store ok hx hcd r fun s2 S2 _ _=>hr s2 S2) hs)
theorem Em0 {b:Bool} {t:Expr} {orelse:List Stmt} (ok:CxOk c) (S:St c ρ s) (h:EvB c ρ t b)
  (h1:b = true→∀ s',St c ρ s'→wpAny (MM c.w) c.A (execs body c.env) (Nm0 c rest Q E) E s')
  (h2:b = false→∀ s',St c ρ s'→wpAny (MM c.w) c.A (execs orelse c.env) (Nm0 c rest Q E) E s') :
  wpAny (MM c.w) c.A (execs (.If t body orelse pos :: rest) c.env) Q E s :=
 wC (wpAny_If (Cw0 ok h S (.refl _ _) fun s' S' _ _=>by
  cases b with
  | true=>exact h1 rfl s' S'
  | false=>exact h2 rfl s' S'))
end
theorem Iv0 (ok:CxOk c) (hx:c.env.kindOf x = some .local ∨ (c.env.kindOf x = some .cell∧(c.env.cells.lookup x).isSome = true∧c.cn.contains x = true)) (hcd:(x == ("__classdict__" : Str)) = false) :
  Asg c ρ (.Name x pos) d [(x,.val d)]:=fun s v S r E Q h=>wpAny_assign_Name (S.store ok hx hcd r fun s' S' n n'=>h s' S' n n')
theorem Xz0 {r:Option PyData} (ok:CxOk c)
  (hx:c.env.kindOf x = some .local ∨ (c.env.kindOf x = some .cell∧(c.env.cells.lookup x).isSome = true∧c.cn.contains x = true)) (hn:ρ.lookup x = none)
  (ht:EvBs c ((x,.val d) :: ρ) ifs r.isSome) (he:∀ e,r = some e→EvD c ((x,.val d) :: ρ) elt e) (hcd:(x == ("__classdict__" : Str)) = false:=by rfl):Ii1 c ρ (.Name x pos) ifs elt d r :=
 have key:∀ (y:Str) (sl:Slot),List.lookup y [(x,Slot.val d)] = some sl→ρ.lookup y = none:=by
  intro y sl h
  rw [List.lookup_cons] at h
  cases q:y == x with
  | true=>rw [eq_of_beq q]; exact hn
  | false=>rw [q] at h; cases h
 ⟨[(x,.val d)],rfl,key,Iv0 ok hx hcd,ht,he⟩
theorem Fe0 {α β:Type} (p:α→Bool) (h:α→β):∀ l:List α,(l.filterMap fun a=>if p a = true then some (h a) else none) = (l.filter p).map h
 | []=>rfl
 | a :: l=>by
  rw [List.filterMap_cons,List.filter_cons,Fe0 p h l]
  cases p a <;> rfl
section
variable {α:Type} {f h:α→PyData} {p:α→Bool} {ys:List α} {t:Expr} {tpos:Pos}
noncomputable abbrev Jj0 (c:Cx) (ρ:Rho) (scope:Scope) (cl:List (Str × Addr)) (x:Str):Prop:=∀ C X s1,let c':=c.comp ρ scope cl C X s1; c'.env.kindOf x = some .local ∨ (c'.env.kindOf x = some .cell∧(c'.env.cells.lookup x).isSome = true∧c'.cn.contains x = true)
theorem Cj1 (hx:Jj0 c ρ scope cl x) (hn:ρ'.lookup x = none) (hcd:(x == ("__classdict__" : Str)) = false) (C:Addr) (X:List Addr) (s1:Shared) (ok':CxOk (c.comp ρ scope cl C X s1)) (a:α) {ifs:List Expr} (ht:EvBs (c.comp ρ scope cl C X s1) ((x,.val (f a)) :: ρ') ifs (p a))
  (he:p a = true→EvD (c.comp ρ scope cl C X s1) ((x,.val (f a)) :: ρ') elt (h a)):Ii1 (c.comp ρ scope cl C X s1) ρ' (.Name x tpos) ifs elt (f a) (if p a = true then some (h a) else none):=by
 refine Xz0 ok' (hx C X s1) hn ?_ (fun e q=>?_) hcd
 ·cases hp:p a <;> (rw [hp] at ht; exact ht)
 ·cases hp:p a <;> rw [hp] at q <;> cases q
  exact he hp
theorem Bx0 (ok:CxOk c) (hi:EvI c ρ iter (ys.map f)) (hsz:ys.length ≤ sizeLine) (hclos:Cf0 c.env.cells scope.names [] = some cl) (hvis:Vis c.env scope cl ρ ρ') (hnd:(scope.names.map (·.1)).Nodup) (hkind:scope.kind = .function)
  (hx:Jj0 c ρ scope cl x) (hn:ρ'.lookup x = none) (he:∀ C X s1,CxOk (c.comp ρ scope cl C X s1)→∀ a ∈ ys,EvD (c.comp ρ scope cl C X s1) ((x,.val (f a)) :: ρ') elt (h a))
  (hcd:(x == ("__classdict__" : Str)) = false:=by rfl) (hs:∀ x,foldedSetIterable iter c.env x = pure x:=by intro _; rfl):EvD c ρ (.ListComp elt [⟨.Name x tpos,iter,[],0⟩] scope pos) (.list (ys.map h)):=by
 have:=Nl0 (V:=fun a g v=>Rd g v (f a)) (g:=fun a=>some (h a)) (pos:=pos) (target:=.Name x tpos) (ifs:=[]) (elt:=elt) ok (Nk0 hi) hsz hclos hvis hnd hkind (fun C X s1 ok' i a ha=>Cj1 (p:=fun _=>true) hx hn hcd C X s1 ok' a Fq0 fun _=>he C X s1 ok' a (List.mem_of_getElem? ha)) (fun _ _ _ _ k r=>r.mono' k) hs
 rwa [show (fun a=>some (h a)) = some ∘ h from rfl,List.filterMap_eq_map] at this
theorem Iw0 (ok:CxOk c) (hi:EvI c ρ iter (ys.map f)) (hsz:ys.length ≤ sizeLine) (hclos:Cf0 c.env.cells scope.names [] = some cl) (hvis:Vis c.env scope cl ρ ρ') (hnd:(scope.names.map (·.1)).Nodup) (hkind:scope.kind = .function)
  (hx:Jj0 c ρ scope cl x) (hn:ρ'.lookup x = none) (ht:∀ C X s1,CxOk (c.comp ρ scope cl C X s1)→∀ a ∈ ys,EvB (c.comp ρ scope cl C X s1) ((x,.val (f a)) :: ρ') t (p a))
  (he:∀ C X s1,CxOk (c.comp ρ scope cl C X s1)→∀ a ∈ ys,p a = true→EvD (c.comp ρ scope cl C X s1) ((x,.val (f a)) :: ρ') elt (h a))
  (hcd:(x == ("__classdict__" : Str)) = false:=by rfl) (hs:∀ x,foldedSetIterable iter c.env x = pure x:=by intro _; rfl):EvD c ρ (.ListComp elt [⟨.Name x tpos,iter,[t],0⟩] scope pos) (.list ((ys.filter p).map h)):=by
 have:=Nl0 (V:=fun a g v=>Rd g v (f a)) (g:=fun a=>if p a = true then some (h a) else none) (pos:=pos) (target:=.Name x tpos) (ifs:=[t]) (elt:=elt) ok (Nk0 hi) hsz hclos hvis hnd hkind (fun C X s1 ok' i a ha=>Cj1 hx hn hcd C X s1 ok' a (Gt0 ok' (ht C X s1 ok' a (List.mem_of_getElem? ha))) (he C X s1 ok' a (List.mem_of_getElem? ha))) (fun _ _ _ _ k r=>r.mono' k) hs
 rwa [Fe0] at this
end
section
variable {d1 d2:PyData}
theorem Ev1 (ok:CxOk c) (h1:EvD c ρ l d1) (h2:EvD c ρ r d2) (a:d1.canLay0 = true) (b:d2.canLay0 = true) (hd:d1.depth ≤ 64) (hm:behindInMarks .Eq r = false:=by rfl):EvD c ρ (.Compare l [.Eq] [r] pos) (.bool (d1.eqv d2)) :=
 Ni0 ok h1 h2 (Bq0 ok _) (Lz0 ok a b hd) hm
theorem Ew1 (ok:CxOk c) (h1:EvD c ρ l d1) (h2:EvD c ρ r d2) (a:d1.canLay0 = true) (b:d2.canLay0 = true) (hd:d1.depth ≤ 64) (hm:behindInMarks .NotEq r = false:=by rfl):EvD c ρ (.Compare l [.NotEq] [r] pos) (.bool (!d1.eqv d2)) :=
 Ni0 ok h1 h2 (Bq0 ok _) (Ma0 ok a b hd) hm
theorem Nn0 (ok:CxOk c) (h1:EvD c ρ l d1) (h2:EvD c ρ r d2) (a:d1.canLay0 = true) (b:d2.canLay0 = true) (hd:d1.depth ≤ 64) (hm:behindInMarks .Eq r = false:=by rfl):EvB c ρ (.Compare l [.Eq] [r] pos) (d1.eqv d2) :=
 Aq0 ok h1 h2 (Bq0 ok _) (Lz0 ok a b hd) hm
theorem No0 (ok:CxOk c) (h1:EvD c ρ l d1) (h2:EvD c ρ r d2) (a:d1.canLay0 = true) (b:d2.canLay0 = true) (hd:d1.depth ≤ 64) (hm:behindInMarks .NotEq r = false:=by rfl):EvB c ρ (.Compare l [.NotEq] [r] pos) (!d1.eqv d2) :=
 Aq0 ok h1 h2 (Bq0 ok _) (Ma0 ok a b hd) hm
end
noncomputable def Asc (x:Str):Prop:=∀ c ∈ x.cps,c < 128
theorem Asc.ok (h:Asc x):PyData.canLay0 (.str x) = true:=by
 show PyData.strOk x = true
 unfold PyData.strOk
 rw [Array.all_eq_true']
 intro c hc
 have:=h c hc
 simp; exact Nat.lt_of_lt_of_le ‹_› (by decide)
theorem Ci0 (h:∀ y ∈ ys,Asc y):PyData.canLay0 (.list (ys.map .str)) = true:=by
 show PyData.canLayAll0 _ = true
 induction ys with
 | nil=>rfl
 | cons y r ih =>
  rw [List.map_cons,PyData.canLayAll0,Bool.and_eq_true]
  exact ⟨(h y (.head _)).ok,ih fun z hz=>h z (.tail _ hz)⟩
theorem Cj0 (ys:List Str):PyData.depth (.list (ys.map .str)) = 1:=by
 show PyData.depthAll _ + 1 = 1
 induction ys with
 | nil=>rfl
 | cons y r ih=>rw [List.map_cons,PyData.depthAll]; simpa [PyData.depth] using ih
theorem Ya0 (h:Asc x):∀ y ∈ Bc0 x,Asc y:=fun y hy=>by
 obtain ⟨c,hc,hQ61⟩:=List.mem_map.mp hy; subst hQ61
 intro d hd
 simp at hd
 subst hd
 exact h _ (Array.mem_toList_iff.mp hc)
theorem Fr0 {a:Expr} {T id:String} {P1 P2 P:Heap→Value→Prop} (ok:CxOk c) (pa:PlainAttrs T) (slot:PySem.Slot T name id) (hty:typeOf (.builtin id) = pure (.type "method_descriptor"))
  (h1:Ev c ρ o P1) (h2:Ev c ρ a P2) (st:Pi0 c ρ P1) (ht:∀ (s:Shared) v,P1 s.heap v→s.TypeIs v T∧∀ b,v = .ref b→∃ ob,s.heap.get? b = some ob∧ob.dict = none)
  (h:∀ s v u,St c ρ s→P1 s.heap v→P2 s.heap u→∀ E,wpAny (MM c.w) c.A (call (.builtin id) [v,u]) (fun r s'=>Kp c.fs s s'∧P s'.heap r) E s)
  (hbase:attributeBase o name c.env (eval o c.env) = eval o c.env:=by rfl) (he:starEach [a] c.env = [(false,eval a c.env)]:=by rfl) (hline:(apos.endLine == pos.line) = true:=by rfl) :
  Ev c ρ (.Call (.Attribute o name apos) [a] [] pos) P:=fun s S E=>by
 refine wpAny_Call_method_lateS hbase (by rw [he]; rfl) hline (Ad0 ok h1 S (.refl _ _) fun v s1 S1 k1 _ p=>?_)
 refine ⟨T,id,pa,slot,hty,(ht s1 v p).1,(ht s1 v p).2,?_⟩
 have hp:∀ Q,wpAny (MM c.w) c.A (eval a c.env) (fun v s'=>Q ⟨[v],[]⟩ s') E s1→wpAny (MM c.w) c.A (evalArgs (.builtin id) true (backTo pos (starEach [a] c.env)) []) Q E s1:=by
  intro Q hq; rw [he]; exact evalArgs_plain (spliced_cons (wM hq (fun _ _ h=>spliced_nil h) fun _ _ x=>x))
 exact callWith_builtin (by rw [he]; rfl) (hp (fun a s₁=>wpAny (MM c.w) c.A (call (.builtin id) ([v] ++ a.pos) a.kw) (fun r s3=>Kp c.fs s s3∧P s3.heap r) E s₁)
  (Ad0 ok h2 S1 k1 fun u s2 S2 k2 k2' p2=>wM (h s2 v u S2 (st _ _ _ S1 k2 p) p2 E) (fun r s3 hh1=>by obtain ⟨k3,r3⟩:=hh1; exact (⟨k2'.trans k3,r3⟩:Kp c.fs s s3∧P s3.heap r)) fun _ _ x=>x))
theorem Yb0:∀ (l:List (Str × Tok)),RdAll g (strValues l) ((l.map (·.1)).map .str)
 | []=>.nil
 | (x,t) :: r=>.cons (.str _ _) (Yb0 r)
section
variable {a:Expr}
theorem We0 {t u:Tok} {Q:Value→Shared→Prop} (hy:(y.length == 0) = false)
  (h:∀ l k,l.map (·.1) = Txt.split x y→Q (.ref s.heap.objs.size) { s with heap:=s.heap.push { cls:=.type "list",data:=.seq (strValues l).toArray },toks:=k }) (hsz:x.length + 2 ≤ sizeLine) :
  wpAny (MM w) A (call (.builtin "str.split") [.str x t,.str y u]) Q E s:=by
 have hn:(Builtin.Str.partsBetween x (Builtin.Str.occurrences x y 0 x.length (x.length + 1)) y.length).length ≤ sizeLine:=by
  have e1:=StrLaws.occ_length_le x y 0 x.length (x.length + 1)
  rw [length_partsBetween]; exact Nat.lt_of_le_of_lt ‹_› ‹_›
 cases h1:(decide (x.length < y.length) || decide (Builtin.Str.strKind x < Builtin.Str.strKind y))
 ·cases hf:(Builtin.Str.occurrences x y 0 x.length (x.length + 1)).isEmpty
  ·refine call_meets F.slot_str_split (typeIs_str _ _ _) F.entry_str_split (F.args_str_split_2 _ _) (meets_str_split_sep x y t u h1 hy hf (by lia) hn) ?_
   show wants Q E _ { s with toks:=_,heap:=s.heap.push { cls:=.type "list",data:=.seq (strsFrom s.toks (Builtin.Str.partsBetween x (Builtin.Str.occurrences x y 0 x.length (x.length + 1)) y.length)).toArray } }
   rw [strsFrom_eq]
   exact h (numbered s.toks _) _ ((numbered_texts _ _).trans ((if_neg (ne_true_of_eq_false h1)).trans (if_neg (ne_true_of_eq_false hf))).symm)
  ·exact call_meets F.slot_str_split (typeIs_str _ _ _) F.entry_str_split (F.args_str_split_2 _ _) (meets_str_split_not_found x y t u h1 hy hf) (h [(x,t)] s.toks ((if_neg (ne_true_of_eq_false h1)).trans (if_pos hf)).symm)
 ·exact call_meets F.slot_str_split (typeIs_str _ _ _) F.entry_str_split (F.args_str_split_2 _ _) (meets_str_split_cannot_occur x y t u h1) (h [(x,t)] s.toks (if_pos h1).symm)
theorem Wf0:∀ (s:Shared) v,Rd g v (.str x)→s.TypeIs v "str" ∧ ∀ b,v = .ref b→∃ ob,s.heap.get? b = some ob∧ob.dict = none:=fun s v p=>by
 obtain ⟨t,hQ62⟩:=p.str_inv; subst hQ62; exact ⟨typeIs_str _ _ _,fun b e=>by cases e⟩
theorem Np0 (ok:CxOk c) (h1:EvD c ρ o (.str x)) (h2:EvD c ρ a (.str y)) (hy:(y.length == 0) = false) (hsz:x.length + 2 ≤ sizeLine)
  (hbase:attributeBase o (oS "split") c.env (eval o c.env) = eval o c.env:=by rfl) (he:starEach [a] c.env = [(false,eval a c.env)]:=by rfl) (hline:(apos.endLine == pos.line) = true:=by rfl) :
  EvD c ρ (.Call (.Attribute o (oS "split") apos) [a] [] pos) (.list ((Txt.split x y).map .str)) :=
 Fr0 ok F.plainAttrs_str F.slot_str_split F.type_str_split h1 h2 (Bq0 ok _) (fun s v p=>Wf0 s v p) (fun s v u S p q E=>by
  obtain ⟨t,hQ63⟩:=p.str_inv; subst hQ63; obtain ⟨t',hQ64⟩:=q.str_inv; subst hQ64
  refine We0 hy (fun l k hl=>⟨(Kp.push _ _).trans (.toks _ _),?_⟩) hsz
  rw [← hl]
  exact Rd.newList S.fresh (by simpa using Yb0 l)) hbase he hline
theorem Fr1 (ok:CxOk c) (h1:EvD c ρ o (.str x)) (h2:EvD c ρ a (.str y))
  (hbase:attributeBase o (oS "find") c.env (eval o c.env) = eval o c.env:=by rfl) (he:starEach [a] c.env = [(false,eval a c.env)]:=by rfl) (hline:(apos.endLine == pos.line) = true:=by rfl) :
  EvD c ρ (.Call (.Attribute o (oS "find") apos) [a] [] pos) (.int (Txt.find x y)) :=
 Fr0 ok F.plainAttrs_str F.slot_str_find F.type_str_find h1 h2 (Bq0 ok _) (fun s v p=>Wf0 s v p) (fun s v u S p q E=>by
  obtain ⟨t,hQ65⟩:=p.str_inv; subst hQ65; obtain ⟨t',hQ66⟩:=q.str_inv; subst hQ66
  exact SC.find ⟨.toks _ _,.int _ _⟩) hbase he hline
theorem RdAll.values (r:RdAll g vs (ys.map .str)):∃ l:List (Str × Tok),vs = strValues l∧l.map (·.1) = ys:=by
 induction ys generalizing vs with
 | nil=>exact ⟨[],r.nil_inv,rfl⟩
 | cons y ys ih =>
  obtain ⟨v,vs,hQ67,p,q⟩:=r.cons_inv; subst hQ67
  obtain ⟨t,hQ68⟩:=p.str_inv; subst hQ68
  obtain ⟨l,hQ69,e⟩:=ih q; subst hQ69
  exact ⟨(y,t) :: l,rfl,congrArg _ e⟩
theorem Fs1 (ok:CxOk c) (h1:EvD c ρ o (.str x)) (h2:EvL c ρ a (ys.map .str)) (hj:JoinOk x ys = true)
  (hbase:attributeBase o (oS "join") c.env (eval o c.env) = eval o c.env:=by rfl) (he:starEach [a] c.env = [(false,eval a c.env)]:=by rfl) (hline:(apos.endLine == pos.line) = true:=by rfl) :
  EvD c ρ (.Call (.Attribute o (oS "join") apos) [a] [] pos) (.str (Txt.join x ys)) :=
 Fr0 ok F.plainAttrs_str F.slot_str_join F.type_str_join h1 h2 (Bq0 ok _) (fun s v p=>Wf0 s v p) (fun s v u S p q E=>by
  obtain ⟨t,hQ70⟩:=p.str_inv; subst hQ70; obtain ⟨la,hQ71,r⟩:=q; subst hQ71; obtain ⟨vs,hl,r⟩:=r.isListL
  obtain ⟨l,hQ72,e⟩:=r.values; subst hQ72
  exact SC.join hl e hj (fun t' k=>⟨.toks _ _,.str _ _⟩)) hbase he hline
theorem Ft1 (ok:CxOk c) (hf:Ev c ρ (.Name "repr" np) fun _ v=>v = .builtin "repr") (h:EvD c ρ e (.str x)) (hsz:(reprText x).length ≤ sizeLine) (he:starEach [e] c.env = [(false,eval e c.env)]:=by rfl) :
  EvD c ρ (.Call (.Name "repr" np) [e] [] pos) (.str (reprText x)) :=
 Bt0 ok hf (.inl ⟨_,rfl⟩) h (fun s v S p E=>by
  obtain ⟨t,hQ73⟩:=p.str_inv; subst hQ73
  exact PySem.P.repr_of_str ⟨.toks _ _,.str _ _⟩ hsz) he
theorem Pp0 {n:Int} (ok:CxOk c) (hf:Ev c ρ (.Name "str" np) fun _ v=>v = .type "str") (h:EvD c ρ e (.int n)) (hsz:n.natAbs.log2 < 1920) (he:starEach [e] c.env = [(false,eval e c.env)]:=by rfl) :
  EvD c ρ (.Call (.Name "str" np) [e] [] pos) (.str (oS (toString n))) :=
 Bt0 ok hf (.inr ⟨_,rfl⟩) h (fun s v S p E=>by
  obtain ⟨t,hQ74⟩:=p.int_inv; subst hQ74
  exact PySem.P.str_of_int hsz ⟨.toks _ _,.str _ _⟩) he
theorem Fu1 {n m:Int} {e':Expr} (ok:CxOk c) (hf:Ev c ρ (.Name "max" np) fun _ v=>v = .builtin "max") (h:EvD c ρ e (.int n)) (h':EvD c ρ e' (.int m)) (he:starEach [e,e'] c.env = [(false,eval e c.env),(false,eval e' c.env)]:=by rfl) (hl3:Nat.ble 3 c.lvl = true:=by rfl) :
  EvD c ρ (.Call (.Name "max" np) [e,e'] [] pos) (.int (max n m)) :=
 Ci1 ok hf (.inl ⟨_,rfl⟩) h h' (Bq0 ok _) (fun s v u S p q E=>by
  obtain ⟨t,hQ75⟩:=p.int_inv; subst hQ75; obtain ⟨t',hQ76⟩:=q.int_inv; subst hQ76
  refine max_two_ints (ok.hand hl3) fun h' tk hk=>⟨.of_all rfl rfl hk,?_⟩
  by_cases hnm:m > n
  ·rw [if_pos hnm,show max n m = m by lia]; exact .int _ _
  ·rw [if_neg hnm,show max n m = n by grind]; exact .int _ _) he
theorem Mc0 (ok:CxOk c) (hf:Ev c ρ (.Name "tuple" np) fun _ v=>v = .type "tuple") (h:EvL c ρ e ds) (hsz:ds.length ≤ sizeLine) (he:starEach [e] c.env = [(false,eval e c.env)]:=by rfl) :
  EvD c ρ (.Call (.Name "tuple" np) [e] [] pos) (.tuple ds) :=
 Bt0 ok hf (.inr ⟨_,rfl⟩) h (fun s v S p E=>by
  obtain ⟨la,hQ77,r⟩:=p; subst hQ77; obtain ⟨vs,hl,r⟩:=r.isList
  have hlen:=r.length
  simp only [Array.length_toList] at hlen
  refine call_tuple_list hl (fun h' hk=>⟨Kp.of_all rfl rfl fun a o e=>Heap.get?_push_of_some _ (hk a o e),?_⟩) (by simp_all)
  have kk:Kp c.fs s { s with heap:=h' }:=Kp.of_all rfl rfl hk
  have S':=S.step ok kk S.toks
  exact Rd.newTuple S'.fresh (r.step kk (Dy0 ok) (Ii0 ok))) he
end
theorem Sn0 (ns:List Int):∀ n ≤ ns.length,preSum (fun i=>ns.getD i 0) n = (ns.take n).sum:=by
 intro n
 induction n with
 | zero=>intro _; rfl
 | succ n ih =>
  intro h
  have hlt:n < ns.length:=by assumption
  rw [preSum,ih (by exact Nat.le_of_lt ‹_›),List.take_succ_eq_append_getElem hlt,List.sum_append]
  simp [List.getD,hlt]
theorem Ij1 {ns:List Int} (ok:CxOk c) (hf:Ev c ρ (.Name "sum" np) fun _ v=>v = .builtin "sum") (h:EvL c ρ e (ns.map .int)) (he:starEach [e] c.env = [(false,eval e c.env)]:=by rfl) (hl3:Nat.ble 3 c.lvl = true:=by rfl) :
  EvD c ρ (.Call (.Name "sum" np) [e] [] pos) (.int ns.sum) :=
 Bt0 ok hf (.inl ⟨_,rfl⟩) h (fun s v S p E=>by
  obtain ⟨a,hQ78,vs,n,sl,e0,rr⟩:=p; subst hQ78
  have hl:s.heap.IsList a vs:=⟨_,e0,rfl,n,rfl⟩
  have hne:a ≠ s.heap.objs.size:=Nat.ne_of_lt (Heap.lt_size e0)
  have hlen:=rr.length
  simp only [Array.length_toList,List.length_map] at hlen
  refine call_sum_walkG (wpAny_pyIter_list hl ?_)
  refine ⟨_,_,_,_,_,_,fun i=>ns.getD i 0,rfl,Walks.list (A:=c.A.in1) (ok.hand hl3) s.heap.objs.size a hne vs,⟨⟨_,Heap.get?_push_size _ rfl,rfl,rfl⟩,⟨_,Heap.get?_push_of_some _ e0,rfl,n,rfl⟩⟩,?_,?_,?_⟩
  ·intro b hb
   rw [Heap.size_push]
   simp only [List.mem_cons,List.not_mem_nil,or_false] at hb
   rcases hb with q | q
   ·subst q; exact Nat.lt_succ_self _
   ·subst q; exact Nat.lt_succ_of_lt (Heap.lt_size e0)
  ·intro i v hv
   obtain ⟨d,hd,r⟩:=rr.get' i v (by simpa using hv)
   rw [List.getElem?_map] at hd
   obtain ⟨k,hk,hQ79⟩:=Option.map_eq_some_iff.mp hd; subst hQ79
   obtain ⟨t,hQ80⟩:=r.int_inv; subst hQ80
   exact ⟨t,by simp [List.getD,hk]⟩
  ·intro h' tk t' hk
   have e1:preSum (fun i=>ns.getD i 0) vs.size = ns.sum:=by
    rw [hlen,Sn0 ns ns.length (Nat.le_refl _),List.take_length]
   rw [e1]
   refine ⟨Kp.of_all rfl rfl fun b o eb=>hk b o (fun q=>?_) (Heap.get?_push_of_some _ eb),.int _ _⟩
   simp only [List.mem_cons,List.not_mem_nil,or_false] at q
   subst q
   exact Nat.lt_irrefl _ (Heap.lt_size eb)) he
theorem Pq0 (w:World):nsIn (KF w) mainGlobals (oS "skip_until") = some (some (.ref 58)):=by rfl
theorem Lk0 (w:World):nsIn (KF w) mainGlobals (oS "suffixed_err") = some (some (.ref 65)):=by rfl
theorem Fv1 (w:World):nsIn (KF w) mainGlobals (oS "quote") = some (some (.ref 198)):=by rfl
theorem So0 (w:World):nsIn (KF w) mainGlobals (oS "_law_words") = some (some (.ref 205)):=by rfl
theorem Hu0 (w:World):nsIn (KF w) mainGlobals (oS "_law_bare") = some (some (.ref 210)):=by rfl
theorem Md0 (w:World):nsIn (KF w) mainGlobals (oS "_law_text") = some (some (.ref 215)):=by rfl
theorem Pr0 (w:World):nsIn (KF w) mainGlobals (oS "_law_places") = some (some (.ref 220)):=by rfl
theorem Sp0 (w:World):nsIn (KF w) mainGlobals (oS "_law_found") = some (some (.ref 227)):=by rfl
theorem Sq0 (w:World):nsIn (KF w) mainGlobals (oS "_law_until") = some (some (.ref 234)):=by rfl
theorem Jk0 (w:World):nsIn (KF w) mainGlobals (oS "_law_until_due") = some (some (.ref 241)):=by rfl
theorem Ps0 (w:World):nsIn (KF w) mainGlobals (oS "_law_untils") = some (some (.ref 246)):=by rfl
theorem Yc0 (w:World):nsIn (KF w) mainGlobals (oS "_law_due") = some (some (.ref 251)):=by rfl
theorem Pt0 (w:World):nsIn (KF w) mainGlobals (oS "_law_rounds") = some (some (.ref 258)):=by rfl
theorem Wg0 (w:World):nsIn (KF w) mainGlobals (oS "_law_plan") = some (some (.ref 263)):=by rfl
theorem Eb0 (w:World):nsIn (KF w) mainGlobals (oS "TOMLDecodeError") = some (some (.ref 48)):=by rfl
theorem Wh0 (w:World):nsIn (KF w) mainGlobals (oS "_NodeInfo") = some (some (.ref 84)):=by rfl
theorem Gf0 (w:World):nsIn (KF w) mainGlobals (oS "TopologicalSorter") = some (some (.ref 181)):=by rfl
theorem Nq0 (w:World):nsIn (KF w) mainGlobals (oS "_find_unsafe") = some (some (.ref 191)):=by rfl
theorem Me0 (w:World):nsIn (KF w) mainGlobals (oS "_NODE_OUT") = some (some (.int (-1) 334)):=by rfl
theorem Sr0 (w:World):nsIn (KF w) mainGlobals (oS "_NODE_DONE") = some (some (.int (-2) 337)):=by rfl
theorem Lc1 (w:World):nsIn (KF w) mainGlobals (oS "len") = some none:=by rfl
theorem Cy0 (ok:CxOk c) (hx:c.env.kindOf (oS "len") = some .globalImplicit):Ev c ρ (.Name (oS "len") np) fun _ v=>v = .builtin "len" := At0 ok (Lc1 _) (by boot_fast) (by decide) hx
theorem Fw1 (w:World):nsIn (KF w) mainGlobals (oS "range") = some none:=by rfl
theorem Dq0 (ok:CxOk c) (hx:c.env.kindOf (oS "range") = some .globalImplicit):Ev c ρ (.Name (oS "range") np) fun _ v=>v = .type "range" := At0 ok (Fw1 _) (by boot_fast) (by decide) hx
theorem Ld1 (w:World):nsIn (KF w) mainGlobals (oS "sum") = some none:=by rfl
theorem Le1 (ok:CxOk c) (hx:c.env.kindOf (oS "sum") = some .globalImplicit):Ev c ρ (.Name (oS "sum") np) fun _ v=>v = .builtin "sum" := At0 ok (Ld1 _) (by boot_fast) (by decide) hx
theorem Lf1 (w:World):nsIn (KF w) mainGlobals (oS "max") = some none:=by rfl
theorem Ik1 (ok:CxOk c) (hx:c.env.kindOf (oS "max") = some .globalImplicit):Ev c ρ (.Name (oS "max") np) fun _ v=>v = .builtin "max" := At0 ok (Lf1 _) (by boot_fast) (by decide) hx
theorem Ck1 (w:World):nsIn (KF w) mainGlobals (oS "sorted") = some none:=by rfl
theorem Cl1 (ok:CxOk c) (hx:c.env.kindOf (oS "sorted") = some .globalImplicit):Ev c ρ (.Name (oS "sorted") np) fun _ v=>v = .builtin "sorted" := At0 ok (Ck1 _) (by boot_fast) (by decide) hx
theorem Il1 (w:World):nsIn (KF w) mainGlobals (oS "repr") = some none:=by rfl
theorem Im1 (ok:CxOk c) (hx:c.env.kindOf (oS "repr") = some .globalImplicit):Ev c ρ (.Name (oS "repr") np) fun _ v=>v = .builtin "repr" := At0 ok (Il1 _) (by boot_fast) (by decide) hx
theorem Lg1 (w:World):nsIn (KF w) mainGlobals (oS "str") = some none:=by rfl
theorem Cm1 (ok:CxOk c) (hx:c.env.kindOf (oS "str") = some .globalImplicit):Ev c ρ (.Name (oS "str") np) fun _ v=>v = .type "str" := At0 ok (Lg1 _) (by boot_fast) (by decide) hx
theorem Fx1 (w:World):nsIn (KF w) mainGlobals (oS "tuple") = some none:=by rfl
theorem Yd0 (ok:CxOk c) (hx:c.env.kindOf (oS "tuple") = some .globalImplicit):Ev c ρ (.Name (oS "tuple") np) fun _ v=>v = .type "tuple" := At0 ok (Fx1 _) (by boot_fast) (by decide) hx
theorem In1 (w:World):nsIn (KF w) mainGlobals (oS "list") = some none:=by rfl
theorem Io1 (ok:CxOk c) (hx:c.env.kindOf (oS "list") = some .globalImplicit):Ev c ρ (.Name (oS "list") np) fun _ v=>v = .type "list" := At0 ok (In1 _) (by boot_fast) (by decide) hx
theorem Ss0 (w:World):nsIn (KF w) mainGlobals (oS "frozenset") = some none:=by rfl
theorem Jl0 (ok:CxOk c) (hx:c.env.kindOf (oS "frozenset") = some .globalImplicit):Ev c ρ (.Name (oS "frozenset") np) fun _ v=>v = .type "frozenset" := At0 ok (Ss0 _) (by boot_fast) (by decide) hx
theorem Lh1 (w:World):nsIn (KF w) mainGlobals (oS "set") = some none:=by rfl
theorem Li1 (ok:CxOk c) (hx:c.env.kindOf (oS "set") = some .globalImplicit):Ev c ρ (.Name (oS "set") np) fun _ v=>v = .type "set" := At0 ok (Lh1 _) (by boot_fast) (by decide) hx
theorem Ip1 (w:World):nsIn (KF w) mainGlobals (oS "iter") = some none:=by rfl
theorem Iq1 (ok:CxOk c) (hx:c.env.kindOf (oS "iter") = some .globalImplicit):Ev c ρ (.Name (oS "iter") np) fun _ v=>v = .builtin "iter" := At0 ok (Ip1 _) (by boot_fast) (by decide) hx
theorem Ir1 (w:World):nsIn (KF w) mainGlobals (oS "bool") = some none:=by rfl
theorem Is1 (ok:CxOk c) (hx:c.env.kindOf (oS "bool") = some .globalImplicit):Ev c ρ (.Name (oS "bool") np) fun _ v=>v = .type "bool" := At0 ok (Ir1 _) (by boot_fast) (by decide) hx
theorem Pu0 (w:World):nsIn (KF w) mainGlobals (oS "ValueError") = some none:=by rfl
theorem Pv0 (ok:CxOk c) (hx:c.env.kindOf (oS "ValueError") = some .globalImplicit):Ev c ρ (.Name (oS "ValueError") np) fun _ v=>v = .type "ValueError" := At0 ok (Pu0 _) (by boot_fast) (by decide) hx
theorem Jm0 (w:World):nsIn (KF w) mainGlobals (oS "StopIteration") = some none:=by rfl
theorem Jn0 (ok:CxOk c) (hx:c.env.kindOf (oS "StopIteration") = some .globalImplicit):Ev c ρ (.Name (oS "StopIteration") np) fun _ v=>v = .type "StopIteration" := At0 ok (Jm0 _) (by kernel_rfl) (by decide) hx
noncomputable def Pw0 (w:World) (f:Addr):Bool:=match (KF w).lookup f with | some ⟨_,_,.func _,_⟩=>true | _=>false
theorem Jo0 (h:Pw0 w f = true):∃ oc od fd osl,(KF w).lookup f = some ⟨oc,od,.func fd,osl⟩:=by
 delta Pw0 at h
 revert h
 cases (KF w).lookup f with
 | none=>exact fun h=>absurd h Bool.false_ne_true
 | some o =>
  obtain ⟨oc,od,data,osl⟩:=o
  cases data <;> first | exact fun _=>⟨_,_,_,_,rfl⟩ | exact fun h=>absurd h Bool.false_ne_true
theorem Gg0 {n:Nat} (ok:CxOk c)
  (hg:nsIn (KF c.w) mainGlobals x = some (some (.ref f))) (hx:c.env.kindOf x = some .globalImplicit) (hK:Pw0 c.w f = true)
  (ha:Fb0 c ρ (e :: es) ds) (h:FnD c.w n f ds d) (hn:n ≤ c.lvl) (hd:(x == ("__debug__" : Str)) = false:=by rfl)
  (he:starEach (e :: es) c.env = (false,eval e c.env) :: starEach es c.env:=by rfl):EvD c ρ (.Call (.Name x np) (e :: es) [] pos) d:=by
 obtain ⟨_,_,_,_,hK⟩:=Jo0 hK
 exact Xw0 ok hg hx hK ha h hn hd he
theorem Fy1 (w:World):Pw0 w 198 = true:=by rfl
theorem St0 (w:World):Pw0 w 205 = true:=by rfl
theorem Hv0 (w:World):Pw0 w 210 = true:=by rfl
theorem Mf0 (w:World):Pw0 w 215 = true:=by rfl
theorem Px0 (w:World):Pw0 w 220 = true:=by rfl
theorem Su0 (w:World):Pw0 w 227 = true:=by rfl
theorem Sv0 (w:World):Pw0 w 234 = true:=by rfl
theorem Jp0 (w:World):Pw0 w 241 = true:=by rfl
theorem Py0 (w:World):Pw0 w 246 = true:=by rfl
theorem Ye0 (w:World):Pw0 w 251 = true:=by rfl
theorem Pz0 (w:World):Pw0 w 258 = true:=by rfl
theorem Wi0 (w:World):Pw0 w 263 = true:=by rfl
noncomputable abbrev Cx.more (c:Cx) (a:Addr):Cx:={ c with X:=a :: c.X }
theorem CxOk.more (ok:CxOk c) (a:Addr):CxOk (c.more a) :=
 { ok with
  fsX:=fun b hb=>.tail _ (ok.fsX b hb)
  tX:=.tail _ ok.tX
  x0:=fun b hb=>.tail _ (ok.x0 b hb)
  locX:=.tail _ ok.locX
  cellX:=fun n b h=>.tail _ (ok.cellX n b h) }
theorem St.pushOwn (ok:CxOk c) (S:St c ρ s) (o:Obj) (hf:o.isFreed = false) (hnf:∀ ws,o.data ≠ .fields ws):St (c.more s.heap.objs.size) ρ { s with heap:=s.heap.push o }:=by
 have hne:∀ b o',s.heap.get? b = some o'→b ≠ s.heap.objs.size:=fun b o' e=>Nat.ne_of_lt (Heap.lt_size e)
 have kk:Kp c.fs s { s with heap:=s.heap.push o }:=.push _ _
 have S2:=S.step ok kk S.toks
 have hfz:∀ b o',fz (c.XX ρ) s.heap b = some o'→fz ((c.more s.heap.objs.size).XX ρ) (s.heap.push o) b = some o':=fun b o' e=>by
  refine Bf0 (Heap.get?_push_of_some _ (Ah0 e)) fun q=>?_
  rcases List.mem_append.mp q with q | q
  ·exact Ae0 e (List.mem_append_left _ q)
  ·rcases List.mem_cons.mp q with q | q
   ·exact hne b o' (Ah0 e) q
   ·exact Ae0 e (List.mem_append_right _ q)
 refine ⟨S2.since,S2.toks,S2.frs,S2.ns,S2.cell,fun x d e=>?_,fun a ha=>?_,fun x a ds e=>?_,S2.raw,S2.pin,fun p hp q=>?_⟩
 ·obtain ⟨v,y,r⟩:=S.loc x d e
  exact ⟨v,y.step (S.tab ok) kk.slot,r.mono hfz⟩
 ·rcases List.mem_append.mp ha with q | q
  ·exact S2.has a (List.mem_append_left _ q)
  ·rcases List.mem_cons.mp q with q | q
   ·rw [q]; exact ⟨o,Heap.get?_push_size _ hf,.inr hnf⟩
   ·exact S2.has a (List.mem_append_right _ q)
 ·obtain ⟨y,⟨vs,n,sl,e1,r⟩,n1⟩:=S.own x a ds e
  exact ⟨y.step (S.tab ok) kk.slot,⟨vs,n,sl,Heap.get?_push_of_some _ e1,r.mono hfz⟩,n1⟩
 ·rcases List.mem_append.mp q with q | q
  ·exact S.pinx p hp (List.mem_append_left _ q)
  ·rcases List.mem_cons.mp q with q | q
   ·exact hne _ _ (S.pin p hp) q
   ·exact S.pinx p hp (List.mem_append_right _ q)
theorem St.new0 (ok:CxOk c) (S:St c ρ s) {a:Addr} (h:s.heap.get? a = none) (ht:a ≠ tA):c.s0.heap.get? a = none:=by
 cases q:c.s0.heap.get? a with
 | none=>rfl
 | some o=>obtain ⟨sl,e⟩:=S.since.slot a o q ht; rw [h] at e; cases e
theorem St.big (ok:CxOk c) (S:St c ρ s):269 ≤ s.heap.objs.size:=by
 have h268:=(S.amb ok).wd.k 268 (((KF c.w).lookup 268).get (by rfl)) (by rfl)
 exact Heap.lt_size h268
theorem Aj0 (h:Heap):h.get? h.objs.size = none:=by
 cases q:h.get? h.objs.size with
 | none=>rfl
 | some o=>exact absurd (Heap.lt_size q) (Nat.lt_irrefl _)
theorem Yf0 {lp:Pos} (ok:CxOk c) (S:St c ρ s) (h:Fb0 c ρ es ds) (hsz:ds.length ≤ sizeLine)
  (hx:c.env.kindOf x = some .local ∨ (c.env.kindOf x = some .cell∧(c.env.cells.lookup x).isSome = true∧c.cn.contains x = true)) (hcd:(x == ("__classdict__" : Str)) = false)
  (hr:∀ a s',c.s0.heap.get? a = none→a ∉ c.XX ρ→(∀ p,c.pin p→p.1 ≠ a)→(∀ b o,s.heap.get? b = some o→b ≠ c.env.locals→(∀ n,(n,b) ∉ c.env.cells)→b ∉ c.fs→b ≠ tA→s'.heap.get? b = some o)→St c ((x,.own a ds) :: ρ) s'→wpAny (MM c.w) c.A (execs rest c.env) Q E s') :
  wpAny (MM c.w) c.A (execs (.Assign [.Name x pos'] (.List es lp) pos :: rest) c.env) Q E s:=by
 refine wC (wpAny_Assign_Name (List_ (Bj0 ok h S (.refl _ _) fun vs s1 S1 k _ r=>wpAny_newList ?_ (by rw [r.length]; exact hsz))) rfl)
 have hbig:=S1.big ok
 have hat:s1.heap.objs.size ≠ tA:=Nat.ne_of_gt (Nat.lt_of_lt_of_le (by decide) hbig)
 have hfr:=Aj0 s1.heap
 have ok2:=ok.more s1.heap.objs.size
 have S2:=S1.pushOwn ok { cls:=.type "list",data:=.seq vs.toArray } rfl (by intro _ h; cases h)
 refine S2.storeS (c:=c.more s1.heap.objs.size) ok2 hx hcd (.inr rfl) fun s3 S3 nd kl=>hr s1.heap.objs.size s3 (S1.new0 ok hfr hat) S1.fresh (fun p hp q=>by have:=S1.pin p hp; rw [q,hfr] at this; cases this) (fun b o e h1 h2 h3 h4=>kl b o h1 h2 (Heap.get?_push_of_some _ (k.keep b o e h3 h4))) ?_
 have hXX:∀ b,b ∈ c.XX ((x,.own s1.heap.objs.size ds) :: ρ) ↔ b ∈ (c.more s1.heap.objs.size).XX ((x,Slot.raw (.ref s1.heap.objs.size)) :: ρ):=fun b=>by
  show b ∈ (s1.heap.objs.size :: As0 ρ) ++ c.X ↔ b ∈ As0 ρ ++ (s1.heap.objs.size :: c.X)
  simp only [List.mem_append,List.mem_cons]
  constructor <;> (intro q; rcases q with q | q <;> (try rcases q with q | q) <;> simp [q])
 have hfz:∀ b o',fz ((c.more s1.heap.objs.size).XX ((x,Slot.raw (.ref s1.heap.objs.size)) :: ρ)) s3.heap b = some o'→fz (c.XX ((x,.own s1.heap.objs.size ds) :: ρ)) s3.heap b = some o':=Ao0 fun b hb=>(hXX b).mp hb
 have hobj:s3.heap.get? s1.heap.objs.size = some { cls:=.type "list",data:=.seq vs.toArray }:=nd _ _ (Heap.get?_push_size _ rfl) (by intro _ _ h; cases h) (by intro _ h; cases h) hat
 have hsee:Sees c.env s3.heap x (.ref s1.heap.objs.size):=S3.raw x _ (by rw [List.lookup_cons]; simp)
 refine ⟨S3.since,S3.toks,S3.frs,S3.ns,S3.cell,fun y d e=>?_,fun b hb=>S3.has b ((hXX b).mp hb),fun y b dd e=>?_,fun y v e=>?_,S3.pin,fun p hp q=>S3.pinx p hp ((hXX _).mp q)⟩
 ·rw [List.lookup_cons] at e
  cases hyx:y == x with
  | true=>rw [hyx] at e; cases e
  | false =>
   rw [hyx] at e
   obtain ⟨v,a1,a2⟩:=S3.loc y d (by rw [List.lookup_cons,hyx]; exact e)
   exact ⟨v,a1,a2.mono hfz⟩
 ·rw [List.lookup_cons] at e
  cases hyx:y == x with
  | true =>
   rw [hyx] at e; cases e
   rw [eq_of_beq hyx]
   refine ⟨hsee,⟨vs.toArray,0,#[],hobj,?_⟩,hat⟩
   refine RdAll.mono' (fun a o ws n hd ea=>?_) (by simpa using r)
   refine Bf0 (nd a o (Heap.get?_push_of_some _ (Ah0 ea)) (by rw [hd]; intro _ _ h; cases h) (by rw [hd]; intro _ h; cases h) fun q=>?_) fun q=>?_
   ·rw [q] at ea; exact Ae0 ea (Ii0 ok)
   ·have hq:a ∈ As0 ρ ++ (s1.heap.objs.size :: c.X):=(hXX a).mp q
    rcases List.mem_append.mp hq with q | q
    ·exact Ae0 ea (List.mem_append_left _ q)
    ·rcases List.mem_cons.mp q with q | q
     ·rw [q] at ea; have:=Ah0 ea; rw [hfr] at this; cases this
     ·exact Ae0 ea (List.mem_append_right _ q)
  | false =>
   rw [hyx] at e
   obtain ⟨a1,⟨ws,n,sl,e1,a2⟩,a3⟩:=S3.own y b dd (by rw [List.lookup_cons,hyx]; exact e)
   exact ⟨a1,⟨ws,n,sl,e1,a2.mono hfz⟩,a3⟩
 ·rw [List.lookup_cons] at e
  cases hyx:y == x with
  | true=>rw [hyx] at e; cases e
  | false =>
   rw [hyx] at e
   exact S3.raw y v (by rw [List.lookup_cons,hyx]; exact e)
theorem Mg0 {lp:Pos} (ok:CxOk c) (S:St c ρ s) (h:Fb0 c ρ es ds) (hsz:ds.length ≤ sizeLine)
  (hx:c.env.kindOf x = some .local ∨ (c.env.kindOf x = some .cell∧(c.env.cells.lookup x).isSome = true∧c.cn.contains x = true)) (hcd:(x == ("__classdict__" : Str)) = false)
  (hr:∀ a s',c.s0.heap.get? a = none→a ∉ c.XX ρ→(∀ p,c.pin p→p.1 ≠ a)→St c ((x,.own a ds) :: ρ) s'→wpAny (MM c.w) c.A (execs rest c.env) Q E s') :
  wpAny (MM c.w) c.A (execs (.Assign [.Name x pos'] (.List es lp) pos :: rest) c.env) Q E s :=
 Yf0 ok S h hsz hx hcd fun a s' h1 h2 h3 _ S'=>hr a s' h1 h2 h3 S'
theorem St.grown {es:List PyData} {tk:Nat} (ok:CxOk c) (S:St c ρ s) (hx:ρ.lookup x = some (.own a ds)) (hn:c.s0.heap.get? a = none) (hal:∀ y b es,y ≠ x→ρ.lookup y = some (.own b es)→b ≠ a)
  (hs:Heap.SameBut a s.heap h') {vs:Array Value} {n:Nat} {sl:Array (Option Value)} (ho:h'.get? a = some ⟨.type "list",none,.seq vs n,sl⟩) (hr:RdAll (fz (c.XX ρ) s.heap) vs.toList es) (htk:0 < tk) :
  St c ((x,.own a es) :: ρ) { s with heap:=h',toks:=tk }:=by
 obtain ⟨hsee,⟨vs0,n0,sl0,e0,r0⟩,hat⟩:=S.own x a ds hx
 have haX:a ∈ As0 ρ:=List.mem_filterMap.mpr ⟨_,Ag0 hx,rfl⟩
 have hXX:∀ b,b ∈ c.XX ((x,.own a es) :: ρ) ↔ b ∈ c.XX ρ:=fun b=>by
  show b ∈ (a :: As0 ρ) ++ c.X ↔ b ∈ As0 ρ ++ c.X
  simp only [List.mem_append,List.mem_cons]
  constructor
  ·rintro ((q | q) | q)
   ·exact .inl (q ▸ haX)
   ·exact .inl q
   ·exact .inr q
  ·rintro (q | q)
   ·exact .inl (.inr q)
   ·exact .inr q
 have hk:∀ b o,b ≠ a→s.heap.get? b = some o→h'.get? b = some o:=fun b o ne e=>(hs.2 b ne).trans e
 have hfz:∀ b o',fz (c.XX ρ) s.heap b = some o'→fz (c.XX ((x,.own a es) :: ρ)) h' b = some o':=fun b o' e =>
  Bf0 (hk b o' (fun q=>Ae0 e (q ▸ List.mem_append_left _ haX)) (Ah0 e)) fun q=>Ae0 e ((hXX b).mp q)
 have hns:∀ b m,s.heap.Ns b m→h'.Ns b m:=fun b m q=>q.at' fun o e=>hk b o (fun w=>by
  obtain ⟨o',es',ep,e',d',_⟩:=q; rw [w,e0] at e'; cases e'; cases d') e
 have hcl:∀ b m,s.heap.IsCell b m→h'.IsCell b m:=fun b m q=>by
  obtain ⟨o,e,d⟩:=q
  exact ⟨o,hk b o (fun w=>by rw [w,e0] at e; cases e; cases d) e,d⟩
 have hse:∀ y v,Sees c.env s.heap y v→Sees c.env h' y v:=fun y v q=>by
  rcases q with ⟨a1,m,q,e⟩ | ⟨a1,a2,cc,e,q⟩
  ·exact .inl ⟨a1,m,hns _ _ q,e⟩
  ·exact .inr ⟨a1,a2,cc,e,hcl _ _ q⟩
 have htab:TabOk h':=by
  exact (S.tab ok).keepF (fun _ e=>hk _ _ (Ne.symm hat) e) fun _ o ws f2 f3 f1=>hk _ _ (fun w=>by rw [w,e0] at f1; cases f1; cases f3) f1
 refine ⟨⟨S.since.gens,S.since.os,fun b o e h1 h2=>hk b o (fun w=>by rw [w,hn] at e; cases e) (S.since.keep b o e h1 h2),fun b o e h2=>?_,fun _=>htab⟩,htk,
  fun l hl=>(S.frs l hl).upd hk (.inl fun o e es n q=>by rw [e0] at e; cases e; cases q),?_,?_,?_,?_,?_,?_,?_,?_⟩
 ·obtain ⟨sl,e'⟩:=S.since.slot b o e h2
  exact ⟨sl,hk b _ (fun w=>by rw [w,hn] at e; cases e) e'⟩
 ·obtain ⟨m,q⟩:=S.ns; exact ⟨m,hns _ _ q⟩
 ·intro n b hm; obtain ⟨v,q⟩:=S.cell n b hm; exact ⟨v,hcl _ _ q⟩
 ·intro y d e
  rw [List.lookup_cons] at e
  cases hyx:y == x with
  | true=>rw [hyx] at e; cases e
  | false=>rw [hyx] at e; obtain ⟨v,q,r⟩:=S.loc y d e; exact ⟨v,hse _ _ q,r.mono hfz⟩
 ·intro b hb
  by_cases q:b = a
  ·rw [q]; exact ⟨_,ho,.inr fun ws w=>by cases w⟩
  ·obtain ⟨o,e,nf⟩:=S.has b ((hXX b).mp hb); exact ⟨o,hk b o q e,nf⟩
 ·intro y b dd e
  rw [List.lookup_cons] at e
  cases hyx:y == x with
  | true =>
   rw [hyx] at e; cases e; rw [eq_of_beq hyx]
   exact ⟨hse _ _ hsee,⟨vs,n,sl,ho,hr.mono hfz⟩,hat⟩
  | false =>
   rw [hyx] at e
   obtain ⟨q,⟨ws,n,sl,e1,r⟩,n1⟩:=S.own y b dd e
   have hb:=hal y b dd (by intro w; rw [w] at hyx; simp at hyx) e
   exact ⟨hse _ _ q,⟨ws,n,sl,hk b _ hb e1,r.mono hfz⟩,n1⟩
 ·intro y v e
  rw [List.lookup_cons] at e
  cases hyx:y == x with
  | true=>rw [hyx] at e; cases e
  | false=>rw [hyx] at e; exact hse _ _ (S.raw y v e)
 ·intro p hp; exact hk _ _ (fun q=>S.pinx p hp (q ▸ List.mem_append_left _ haX)) (S.pin p hp)
 ·intro p hp q; exact S.pinx p hp ((hXX _).mp q)
theorem Ff0 (ok:CxOk c) (S:St c ρ s)
  (hx:ρ.lookup x = some (.own a ds)) (h:EvD c ρ e d) (hn:c.s0.heap.get? a = none) (hal:∀ y b es,y ≠ x→ρ.lookup y = some (.own b es)→b ≠ a) (hsz:ds.length ≤ sizeLine)
  (hr:∀ s',St c ((x,.own a (ds ++ [d])) :: ρ) s'→wpAny (MM c.w) c.A (execs rest c.env) Q E s') (hd:(x == ("__debug__" : Str)) = false:=by rfl)
  (he:starEach [e] c.env = [(false,eval e c.env)]:=by rfl) (hline:(apos.endLine == cpos.line) = true:=by rfl) (hi:interactive c.env = false:=by rfl) :
  wpAny (MM c.w) c.A (execs (.Expr (.Call (.Attribute (.Name x np) (oS "append") apos) [e] [] cpos) pos :: rest) c.env) Q E s:=by
 refine wC (wpAny_Expr ?_ hi rfl)
 have hval:Ev c ρ (.Name x np) fun _ v=>v = .ref a:=Dd0 ok (fun s S=>⟨_,(S.own x a ds hx).1,rfl⟩) hd
 refine wpAny_Call_method_lateS rfl (by rw [he]; rfl) hline (Ad0 ok hval S (.refl _ _) fun v s1 S1 k1 _ p=>?_)
 subst p
 obtain ⟨hsee,⟨vs0,n0,sl0,e0,r0⟩,hat⟩:=S1.own x a ds hx
 refine ⟨"list", "list.append",F.plainAttrs_list,slot_list_append,F.type_list_append,⟨_,e0,rfl⟩,(fun b q=>by cases q; exact ⟨_,e0,rfl⟩),?_⟩
 have hp:∀ Q,wpAny (MM c.w) c.A (eval e c.env) (fun v s'=>Q ⟨[v],[]⟩ s') E s1→wpAny (MM c.w) c.A (evalArgs (.builtin "list.append") true (backTo cpos (starEach [e] c.env)) []) Q E s1:=by
  intro Q hq; rw [he]; exact evalArgs_plain (spliced_cons (wM hq (fun _ _ h=>spliced_nil h) fun _ _ x=>x))
 refine callWith_builtin (by rw [he]; rfl) (hp (fun a' s₁=>wpAny (MM c.w) c.A (call (.builtin "list.append") ([.ref a] ++ a'.pos) a'.kw) _ E s₁) (Ad0 ok h S1 k1 fun u s2 S2 k2 k2' p2=>?_))
 obtain ⟨_,⟨vs,n,sl,e2,r2⟩,_⟩:=S2.own x a ds hx
 have hlen:=r2.length
 simp only [Array.length_toList] at hlen
 refine Ch0 e2 (fun h' n' e' hs'=>?_) (by simp_all)
 refine hr _ (S2.grown ok hx hn hal hs' e' (es:=ds ++ [d]) ?_ S2.toks)
 rw [Array.toList_push]
 exact r2.append (.cons p2 .nil)
noncomputable abbrev Cx.pins (c:Cx) (ps:Addr × Obj→Prop):Cx:={ c with pin:=ps }
noncomputable abbrev CxOk.cx (_:CxOk c):Cx:=c
theorem CxOk.pins (ok:CxOk c) (ps:Addr × Obj→Prop):CxOk (c.pins ps):={ ok with }
theorem St.pins (S:St c ρ s) (ps:Addr × Obj→Prop) (h1:∀ p,ps p→s.heap.get? p.1 = some p.2) (h2:∀ p,ps p→p.1 ∉ c.XX ρ):St (c.pins ps) ρ s :=
 ⟨S.since,S.toks,S.frs,S.ns,S.cell,S.loc,S.has,S.own,S.raw,h1,h2⟩
theorem St.unpin {ps:Addr × Obj→Prop} (S:St (c.pins ps) ρ s) (h:∀ p,c.pin p→ps p):St c ρ s :=
 ⟨S.since,S.toks,S.frs,S.ns,S.cell,S.loc,S.has,S.own,S.raw,fun p hp=>S.pin p (h p hp),fun p hp=>S.pinx p (h p hp)⟩
inductive Sub (ρ:Rho):Rho→Prop
 | nil:Sub ρ []
 | cons {x:Str} {sl:Slot} {r:Rho}:ρ.lookup x = some sl→Sub ρ r→Sub ρ ((x,sl) :: r)
theorem Sub.get (h:Sub ρ ρ'):∀ p ∈ ρ',ρ.lookup p.1 = some p.2:=by
 induction h with
 | nil=>intro p hp; cases hp
 | cons e _ ih =>
  intro p hp
  rcases List.mem_cons.mp hp with q | q
  ·rw [q]; exact e
  ·exact ih p q
theorem St.drop (S:St c ρ s) (h:Sub ρ ρ'):St c ρ' s :=
 S.weaken (fun x sl e=>h.get _ (Ag0 e)) fun a ha=>by
  obtain ⟨p,hp,e⟩:=List.mem_filterMap.mp ha
  exact List.mem_filterMap.mpr ⟨_,Ag0 (h.get p hp),e⟩
noncomputable abbrev Cx.mores (c:Cx) (Y:List Addr):Cx:={ c with X:=Y ++ c.X }
theorem CxOk.mores (ok:CxOk c) (Y:List Addr):CxOk (c.mores Y) :=
 { ok with
  fsX:=fun b hb=>List.mem_append_right _ (ok.fsX b hb)
  tX:=List.mem_append_right _ ok.tX
  x0:=fun b hb=>List.mem_append_right _ (ok.x0 b hb)
  locX:=List.mem_append_right _ ok.locX
  cellX:=fun n b h=>List.mem_append_right _ (ok.cellX n b h) }
noncomputable def Yg0 (Y:List Addr) (I:Heap→Prop):Prop:=∀ h h',(∀ a ∈ Y,∀ o,h.get? a = some o→h'.get? a = some o)→I h→I h'
theorem Yh0 {ρs:Nat→Rho} (J:Nat→List Addr→Heap→Prop) (Y0:List Addr) (B:Shared→Prop) (R:Value→Shared→Prop) (ok:CxOk c) (S:St (c.mores Y0) (ρs 0) s)
  (hi:Cc1 (c.mores Y0) (ρs 0) true iter ds) (hJ0:J 0 Y0 s.heap) (hJ:∀ i Y,Yg0 Y (J i Y)) (hY:∀ i Y h,J i Y h→∀ a ∈ Y,a ≠ c.env.locals∧(∀ n,(n,a) ∉ c.env.cells)∧a ∉ c.fs∧a ≠ tA)
  (turn:∀ (i:Nat) d pins Y,ds[i]? = some d→(∃ h,J i Y h)→CxOk ((c.mores Y).pins pins)→∃ bs,Asg ((c.mores Y).pins pins) (ρs i) target d bs∧∀ s',St ((c.mores Y).pins pins) (bs ++ ρs i) s'→J i Y s'.heap→∀ E',wpAny (MM ((c.mores Y).pins pins).w) ((c.mores Y).pins pins).A (execs body ((c.mores Y).pins pins).env) (fun fl s''=>match fl with
   | .next | .cont=>∃ Y',St ((c.mores Y').pins pins) (ρs (i + 1)) s''∧J (i + 1) Y' s''.heap
   | .brk=>(∀ p,c.pin p→pins p)→B s'' | .ret v=>(∀ p,c.pin p→pins p)→R v s'') E' s')
  (hend:∀ Y s',St (c.mores Y) (ρs ds.length) s'→J ds.length Y s'.heap→wpAny (MM c.w) c.A (execs rest c.env) Q E s')
  (hbrk:∀ s',B s'→wpAny (MM c.w) c.A (execs rest c.env) Q E s') (hret:∀ v s',R v s'→Q (.ret v) s')
  (hs:∀ x,foldedSetIterable iter c.env x = pure x:=by intro _; rfl):wpAny (MM c.w) c.A (execs (.For target iter body [] pos :: rest) c.env) Q E s:=by
 refine wC (wpAny_For (hi s S _ _ fun s1 I o fp P ST S1 k1 src=>?_) hs)
 have hI:=src.hI
 subst hI
 have ok0:=ok.mores Y0
 have hbig:=S1.big ok0
 have hat:s1.heap.objs.size ≠ tA:=Nat.ne_of_gt (Nat.lt_of_lt_of_le (by decide) hbig)
 have hfr:=Aj0 s1.heap
 have hI0:c.s0.heap.get? s1.heap.objs.size = none:=St.new0 (c:=c.mores Y0) ok0 S1 hfr hat
 let P0:Addr × Obj→Prop:=fun p=>c.pin p ∨ (fz ((c.mores Y0).XX (ρs 0)) s1.heap p.1 = some p.2∧∃ vs n,p.2.data = .seq vs n)
 have hP0:∀ p,P0 p→s1.heap.get? p.1 = some p.2:=fun p hp=>hp.elim (fun q=>S1.pin p q) fun q=>Ah0 q.1
 have hP0I:∀ p,P0 p→p.1 ≠ s1.heap.objs.size:=fun p hp q=>by have:=hP0 p hp; rw [q,hfr] at this; cases this
 have S1':St ((c.mores Y0).pins P0) (ρs 0) s1:=S1.pins P0 hP0 fun p hp=>hp.elim (fun q=>S1.pinx p q) fun q=>Ae0 q.1
 have S2:St ((c.mores Y0).pins P0) (ρs 0) { s1 with heap:=s1.heap.push o }:=S1'.step (ok0.pins P0) (.push _ _) S1.toks
 have hJ1:J 0 Y0 s1.heap:=hJ 0 Y0 _ _ (fun a ha o e=>k1.keep a o e (hY _ _ _ hJ0 a ha).2.2.1 (hY _ _ _ hJ0 a ha).2.2.2) hJ0
 have hJ2:J 0 Y0 (s1.heap.push o):=hJ 0 Y0 _ _ (fun a ha o e=>Heap.get?_push_of_some _ e) hJ1
 have hIup:∀ (i:Nat) (Y:List Addr) (s:Shared) (h':Heap) (tk:Nat),s1.heap.objs.size ∉ (c.mores Y).XX (ρs i)→St ((c.mores Y).pins P0) (ρs i) s→ST i s.heap→(∀ b o,b ∉ [s1.heap.objs.size]→s.heap.get? b = some o→h'.get? b = some o)→1 ≤ tk →
   St ((c.mores Y).pins P0) (ρs i) { s with heap:=h',toks:=tk }:=by
  intro i Y s h' tk hIX S st hk' ht
  obtain ⟨oI,fI,nI,e1,e2,e3,e4,e5⟩:=src.obj i s.heap st
  refine S.upd ((ok.mores Y).pins P0) (b:=s1.heap.objs.size) hI0 (fun a o ne e=>hk' a o (by simpa using ne) e) hat hIX (fun o e=>?_) hP0I rfl rfl ht
  rw [e1] at e; cases e; exact ⟨(by rw [e2]; intro _ _ h; cases h),.inl (by rw [e3]; intro q; cases q; exact e4 rfl)⟩
 have hJup:∀ (i:Nat) (Y:List Addr) (h h':Heap),s1.heap.objs.size ∉ (c.mores Y).XX (ρs i)→J i Y h→(∀ b o,b ∉ [s1.heap.objs.size]→h.get? b = some o→h'.get? b = some o)→J i Y h':=by
  intro i Y h h' hIX j hk'
  refine hJ i Y h h' (fun a ha o e=>hk' a o (fun q=>hIX ?_) e) j
  rw [← List.mem_singleton.mp q]; exact List.mem_append_right _ (List.mem_append_left _ ha)
 refine codeAny_forLoop_any (fun k s'=>∃ i Y,k = ds.length + 1 - i∧i ≤ ds.length∧St ((c.mores Y).pins P0) (ρs i) s'∧ST i s'.heap∧J i Y s'.heap∧s1.heap.objs.size ∉ (c.mores Y).XX (ρs i)) ?_ (ds.length + 1) ⟨0,Y0,rfl,Nat.zero_le _,S2,src.start,hJ2,S1.fresh⟩
 rintro k s' ⟨i,Y,rfl,hi,S',st,j,hIX⟩
 by_cases hlt:i < ds.length
 ·refine wpAny_with_toks (n:=1) S'.toks (src.walk.item i s' _ _ hlt st fun v h' tk hP st' hk' ht=>?_)
  have S3:=hIup i Y s' h' tk hIX S' st hk' ht
  have j3:=hJup i Y s'.heap h' hIX j hk'
  have hdi:ds[i]? = some ds[i]:=List.getElem?_eq_getElem hlt
  obtain ⟨d,hd,rv⟩:=src.item i v hlt hP
  rw [hdi] at hd; cases hd
  refine Gu0 (c:=c) (src.obj (i + 1) h' st') ?_
  let P1:Addr × Obj→Prop:=fun p=>P0 p ∨ (p.1 = s1.heap.objs.size∧h'.get? p.1 = some p.2)
  obtain ⟨bs,hasg,hbody⟩:=turn i _ P1 Y hdi ⟨_,j⟩ ((ok.mores Y).pins P1)
  have S4:St ((c.mores Y).pins P1) (ρs i) _:=S3.pins P1 (fun p hp=>hp.elim (S3.pin p) fun q=>q.2) fun p hp=>hp.elim (S3.pinx p) fun q=>by rw [q.1]; exact hIX
  have rv':Rd (fz ((c.mores Y).XX (ρs i)) h') v ds[i]:=by
   refine rv.mono' fun a o vs n hda ea=>?_
   exact Bf0 (S3.pin (a,o) (.inr ⟨ea,vs,n,hda⟩)) (S3.pinx (a,o) (.inr ⟨ea,vs,n,hda⟩))
  refine hasg _ v S4 rv' _ _ fun s5 S5 _ hl=>wM (hbody s5 S5 (hJ i Y _ _ (fun a ha o e=>hl a o (hY _ _ _ j3 a ha).1 (hY _ _ _ j3 a ha).2.1 e) j3) _) (fun fl s6 h6=>?_) fun _ _ x=>x
  have hnext:(∃ Y',St ((c.mores Y').pins P1) (ρs (i + 1)) s6∧J (i + 1) Y' s6.heap)→∃ m,m < ds.length + 1 - i∧∃ i' Y',m = ds.length + 1 - i'∧i' ≤ ds.length∧St ((c.mores Y').pins P0) (ρs i') s6∧ST i' s6.heap∧J i' Y' s6.heap∧s1.heap.objs.size ∉ (c.mores Y').XX (ρs i'):=by
   rintro ⟨Y',S6,j6⟩
   obtain ⟨oI,fI,nI,e1,e2,e3,e4,e5⟩:=src.obj (i + 1) h' st'
   refine ⟨ds.length + 1 - (i + 1),by grind,i + 1,Y',rfl,hlt,St.unpin (c:=(c.mores Y').pins P0) S6 (fun p hp=>.inl hp),src.walk.frame _ _ _ st' fun b hb o e=>?_,j6,S6.pinx (_,oI) (.inr ⟨rfl,e1⟩)⟩
   by_cases hbI:b = s1.heap.objs.size
   ·exact S6.pin (b,o) (.inr ⟨hbI,e⟩)
   ·obtain ⟨ob,vs,n,f1,f2⟩:=src.seqs b hb hbI
    have hp:P0 (b,ob):=.inr ⟨Bf0 f1 (src.apart rfl b hb hbI),vs,n,f2⟩
    have f3:=S3.pin (b,ob) hp
    have:h'.get? b = some ob:=f3
    rw [this] at e; cases e
    exact S6.pin (b,_) (.inl hp)
  cases fl with
  | next=>exact hnext h6
  | cont=>exact hnext h6
  | brk=>exact hbrk s6 (h6 fun p hp=>.inl (.inl hp))
  | ret u=>exact hret u s6 (h6 fun p hp=>.inl (.inl hp))
 ·have hin:i = ds.length:=by lia
  subst hin
  refine wpAny_with_toks (n:=1) S'.toks (src.walk.done s' _ _ st fun h' tk hk' ht=>?_)
  have S3:=hIup _ Y s' h' tk hIX S' st hk' ht
  exact wN (hend Y _ (St.unpin (c:=c.mores Y) S3 fun p hp=>.inl hp) (hJup _ Y _ _ hIX j hk'))
section
open PySem.Builtin.Re
noncomputable def Mh0:Array Nat:=#[14,17,4,1,1,21,9,0,604043296,1,0,0,0,0,0,8,4,0,13,14,21,9,0,604043296,1,0,0,0,0,0,8,4,0,1]
theorem Mi0 (c:Nat) (h:c = 97 ∨ c = 98) (seen:Sre.Seen):∃ seen',Sre.inSet Mh0 c Mh0.size 5 true seen = .ok (false,seen'):=by
 rcases h with h | h <;> subst h <;> exact ⟨_,rfl⟩
theorem Yi0 (c:Nat) (h:c = 32 ∨ c = 39 ∨ c = 35 ∨ c = 10) (seen:Sre.Seen):∃ seen',Sre.inSet Mh0 c Mh0.size 5 true seen = .ok (true,seen'):=by
 rcases h with h | h | h | h <;> subst h <;> exact ⟨_,rfl⟩
theorem Sw0 (c:Nat) (h:c = 32 ∨ c = 39 ∨ c = 35 ∨ c = 10) (seen:Sre.Seen):∃ seen',Sre.accepts Mh0 18 c seen = .ok (true,seen'):=by
 rcases h with h | h | h | h <;> subst h <;> exact ⟨_,rfl⟩
noncomputable def Dr0 (c:Nat):Prop:=c = 97 ∨ c = 98 ∨ c = 32 ∨ c = 39 ∨ c = 35 ∨ c = 10
theorem Ik0 (m:Sre.M) (hc:m.code = Mh0):∀ (f s:Nat) (seen:Sre.Seen),(∀ i,s ≤ i→i < m.lim→m.text.getD i 0 = 97 ∨ m.text.getD i 0 = 98)→∃ seen',m.admitted f s seen = .ok (none,seen')
 | 0,s,seen,_=>⟨_,rfl⟩
 | f + 1,s,seen,h=>by
  rw [show m.admitted (f + 1) s seen = (if s ≥ m.lim then _ else _) from rfl]
  by_cases q:s ≥ m.lim
  ·rw [if_pos q]; exact ⟨_,rfl⟩
  ·rw [if_neg q,hc]
   obtain ⟨s1,e⟩:=Mi0 _ (h s (Nat.le_refl _) (by exact Nat.not_le.mp ‹_›)) seen
   rw [e]
   exact Ik0 m hc f (s + 1) s1 fun i hi=>h i (by exact Nat.le_of_lt ‹_›)
theorem Gw0 (m:Sre.M) (hc:m.code = Mh0) (ha:∀ i,i < m.lim→Dr0 (m.text.getD i 0)):∀ (f s:Nat) (seen:Sre.Seen),m.lim < f + s→(∃ i,s ≤ i∧i < m.lim∧¬ (m.text.getD i 0 = 97 ∨ m.text.getD i 0 = 98)) →
  ∃ i seen',i < m.lim∧(m.text.getD i 0 = 32 ∨ m.text.getD i 0 = 39 ∨ m.text.getD i 0 = 35 ∨ m.text.getD i 0 = 10)∧m.admitted f s seen = .ok (some i,seen')
 | 0,s,seen,h,⟨i,h1,h2,_⟩=>by grind
 | f + 1,s,seen,h,hex=>by
  rw [show m.admitted (f + 1) s seen = (if s ≥ m.lim then _ else _) from rfl]
  obtain ⟨i,h1,h2,h3⟩:=hex
  rw [if_neg (by lia),hc]
  by_cases q:m.text.getD s 0 = 97 ∨ m.text.getD s 0 = 98
  ·obtain ⟨s1,e⟩:=Mi0 _ q seen
   rw [e]
   have hne:s ≠ i:=fun w=>h3 (w ▸ q)
   exact Gw0 m hc ha f (s + 1) s1 (by lia) ⟨i,by exact Nat.lt_of_le_of_ne ‹_› ‹_›,h2,h3⟩
  ·have hA:=ha s (by exact Nat.lt_of_le_of_lt ‹_› ‹_›)
   have hu:m.text.getD s 0 = 32 ∨ m.text.getD s 0 = 39 ∨ m.text.getD s 0 = 35 ∨ m.text.getD s 0 = 10:=by
    rcases hA with w | w | w | w | w | w
    ·exact absurd (.inl w) q
    ·exact absurd (.inr w) q
    ·exact .inl w
    ·exact .inr (.inl w)
    ·exact .inr (.inr (.inl w))
    ·exact .inr (.inr (.inr w))
   obtain ⟨s1,e⟩:=Yi0 _ hu seen
   rw [e]
   exact ⟨s,s1,by exact Nat.lt_of_le_of_lt ‹_› ‹_›,hu,rfl⟩
theorem Qa0 (m:Sre.M) (hc:m.code = Mh0) (hf:m.frames = []) (ho:m.outcome = none) (h:∀ i,i < m.lim→m.text.getD i 0 = 97 ∨ m.text.getD i 0 = 98) :
  ((m.attemptFrom 0 true).runFor 4).outcome = some .failed:=by
 delta Sre.M.attemptFrom
 have hh:m.hasFirstSet = true:=by delta Sre.M.hasFirstSet; rw [hc]; rfl
 rw [hh]
 obtain ⟨s1,e⟩:=Ik0 m hc (m.lim + 1 - 0) 0 m.seen (fun i _ hi=>h i hi)
 rw [e]
 show (Sre.M.runFor 4 (Sre.M.say { m with seen:=s1 } false)).outcome = _
 show (if m.outcome.isSome = true then _ else _:Sre.M).outcome = _
 rw [if_neg (by show ¬ (m.outcome.isSome = true); rw [ho]; simp)]
 have hstep:Sre.M.step (Sre.M.say { m with seen:=s1 } false) = { Sre.M.say { m with seen:=s1 } false with outcome:=some .failed }:=by
  delta Sre.M.step
  rw [if_neg (by show ¬ (m.outcome.isSome = true); rw [ho]; simp)]
  show (match some false,m.frames with
   | some yes,[]=>{ Sre.M.say { m with seen:=s1 } false with outcome:=some (if yes then .matched else .failed) }
   | some yes,f :: rest=>_
   | none,_=>_) = _
  rw [hf]; rfl
 rw [hstep]
 rfl
theorem Sx0 (text:Array Nat) (hn:1 ≤ text.size) (h:∀ i,i < text.size→text.getD i 0 = 97 ∨ text.getD i 0 = 98) :
  ((Sre.forSearch Mh0 text 0 0 text.size false).runFor 4).outcome = some .failed:=by
 delta Sre.forSearch
 have hh:Sre.header Mh0 = (1,18):=rfl
 rw [hh]
 dsimp only
 rw [if_neg (by show ¬ ((decide (0 > text.size) || decide (text.size - 0 < 1)) = true); rw [Bool.or_eq_true,decide_eq_true_eq,decide_eq_true_eq]; lia)]
 exact Qa0 _ rfl rfl rfl h
theorem Fz1 (m:Sre.M) (hc:m.code = Mh0) (hpc:m.pc = 18):m.exec = if m.pos ≥ m.lim then ({ m with seen:=m.seen.add 13 }:Sre.M).say false else
  match Sre.accepts Mh0 18 (m.text.getD m.pos 0) (m.seen.add 13) with
  | .error why=>({ m with seen:=m.seen.add 13 }:Sre.M).stick why
  | .ok (false,seen)=>({ m with seen }:Sre.M).say false
  | .ok (true,seen)=>{ m with seen,pc:=33,pos:=m.pos + 1 }:=by
 cases m; dsimp only at hc hpc; subst hc hpc; rfl
theorem Yj0 (m:Sre.M) (hc:m.code = Mh0) (hpc:m.pc = 33) (h1:m.wholeText = false) (h2:m.mustAdvance = false):m.exec = ({ m with seen:=m.seen.add 1,handed:=m.pos }:Sre.M).say true:=by
 cases m; dsimp only at hc hpc h1 h2; subst hc hpc h1 h2
 delta Sre.M.exec
 show (if (_ && ((false && _) || (false && _))) = true then _ else _) = _
 rw [if_neg (by simp)]
 rfl
theorem Qb0 (m:Sre.M) (hc:m.code = Mh0) (hf:m.frames = []) (ho:m.outcome = none) (ha:m.answer = none) (hw:m.weight = 0) (hpc:m.pc = 18) (hwt:m.wholeText = false) (hal:∀ i,i < m.lim→Dr0 (m.text.getD i 0))
  (h:∃ i,i < m.lim∧¬ (m.text.getD i 0 = 97 ∨ m.text.getD i 0 = 98)) :
  ((m.attemptFrom 0 true).runFor 4).outcome = some .matched:=by
 delta Sre.M.attemptFrom
 have hh:m.hasFirstSet = true:=by delta Sre.M.hasFirstSet; rw [hc]; rfl
 rw [hh]
 obtain ⟨i,h1,h2⟩:=h
 obtain ⟨s,s1,hs,hu,e⟩:=Gw0 m hc hal (m.lim + 1 - 0) 0 m.seen (by exact Nat.le_refl _) ⟨i,Nat.zero_le _,h1,h2⟩
 rw [e]
 clear e hh h1 h2 hal
 obtain ⟨code,text,lim,start,lastStart,wholeText,mustAdvance,pc,pos,handed,outermost,marks,lastmark,lastindex,loops,inner,frames,weight,answer,seen,outcome⟩:=m
 dsimp only at hc hf ho ha hw hpc hwt hs hu
 subst hc hf ho ha hw hpc hwt
 simp only [Bool.not_true,Bool.false_eq_true,if_false]
 delta Sre.M.attemptAt Sre.M.attempt
 dsimp only
 rw [if_neg (by decide)]
 have step_exec:∀ m:Sre.M,m.outcome = none→m.answer = none→m.code = Mh0→m.pc < 34→m.step = m.exec:=by
  intro m h1 h2 h3 h4
  cases m; dsimp only at h1 h2 h3 h4; subst h1 h2 h3
  delta Sre.M.step
  rw [if_neg (by simp)]
  show (if _ < Mh0.size then _ else _) = _
  exact if_pos h4
 have run1:∀ (n:Nat) (m:Sre.M),m.outcome = none→Sre.M.runFor (n + 1) m = Sre.M.runFor n m.step:=by
  intro n m h
  exact if_neg (by rw [h]; simp)
 obtain ⟨s2,ea⟩:=Sw0 _ hu (s1.add 13)
 rw [run1 3 _ rfl,step_exec _ rfl rfl rfl (by show 18 < 34; decide),Fz1 _ rfl rfl]
 dsimp only
 rw [if_neg (by exact Nat.not_le.mpr ‹_›),ea]
 dsimp only
 rw [run1 2 _ rfl,step_exec _ rfl rfl rfl (by show 33 < 34; decide),Yj0 _ rfl rfl rfl rfl,run1 1 _ rfl,run1 0 _ rfl]
 rfl
theorem Sy0 (text:Array Nat) (hn:1 ≤ text.size) (hal:∀ i,i < text.size→Dr0 (text.getD i 0)) (h:∃ i,i < text.size∧¬ (text.getD i 0 = 97 ∨ text.getD i 0 = 98)) :
  ((Sre.forSearch Mh0 text 0 0 text.size false).runFor 4).outcome = some .matched:=by
 delta Sre.forSearch
 have hh:Sre.header Mh0 = (1,18):=rfl
 rw [hh]
 dsimp only
 rw [if_neg (by show ¬ ((decide (0 > text.size) || decide (text.size - 0 < 1)) = true); rw [Bool.or_eq_true,decide_eq_true_eq,decide_eq_true_eq]; lia)]
 exact Qb0 _ rfl rfl rfl rfl rfl rfl rfl hal h
open PySem.Builtin.Re
section
theorem Wj0 {m:Sre.M} {o:Sre.Outcome} (h:(m.runFor 4).outcome = some o):reDrive (2 ^ 64) m = pure (m.runFor 4):=by
 show reDrive (18446744073709551615 + 1) m = _
 show (if (m.runFor 4).outcome.isSome = true then _ else _) = _
 rw [h]; rfl
theorem Hw0 {M:Model} {seen:Sre.Seen} {Q:PUnit→Shared→Prop} (h:Q ⟨⟩ s):∀ l:List Nat,wpAny M A (forIn l PUnit.unit fun i _=>(if seen.has i = true then do rule (Sre.names.getD i ""); pure (ForInStep.yield PUnit.unit) else pure (ForInStep.yield PUnit.unit):Sem (ForInStep PUnit))) Q E s
 | []=>by rw [List.forIn_nil]; exact wP h
 | i :: r=>by
  rw [List.forIn_cons]
  refine wB ?_
  split
  ·exact wB (wpAny_rule (wP (Hw0 h r)))
  ·exact wP (Hw0 h r)
theorem Yk0 {M:Model} {m:Sre.M} {o:Sre.Outcome} {Q:Option Sre.M→Shared→Prop} (h:(m.runFor 4).outcome = some o) (hq:match o with | .matched=>Q (some (m.runFor 4)) s | .failed=>Q none s | .stuck _=>False):wpAny M A (reRunToEnd m) Q E s:=by
 delta reRunToEnd
 rw [Wj0 h]
 refine wB (wP ?_)
 refine wB (Hw0 ?_ _)
 rw [h]
 cases o with
 | matched=>exact wP hq
 | failed=>exact wP hq
 | stuck _=>exact hq.elim
end
section
noncomputable abbrev Um0 (id:String) (x:Value):Obj:={ cls:=.type "builtin_function_or_method",data:=.fields #[.builtin id,x] }
theorem Cn1 {u:Addr} {id:String} {x:Value} {bt:Builtin} {Q:Value→Shared→Prop} (ho:s.heap.get? u = some (Um0 id x)) (hcheck:∀ (A':Around) (P:Unit→Shared→Prop) (E':Value→Shared→Prop),P () s→wpAny (MM w) A' (checkBoundCall id ⟨x :: vs,[]⟩) P E' s) (hq:(Code.builtin id ⟨x :: vs,[]⟩).quiet = true) (he:entryFor table id = some bt)
  (h:∀ (A':Around) (P:Fin→Shared→Prop) (E':Value→Shared→Prop),A'.handled = A.handled→(∀ v s',Q v s'→P (.done (.ret v)) s')→(∀ v s',E v s'→E' v s')→wpAny (MM w) A' (bt ⟨x :: vs,[]⟩) P E' s):wpAny (MM w) A (call (.ref u) vs) Q E s:=by
 refine wpAny_call (codeAny_of_tree ?_)
 show wpAny _ A.in1 (callAny (.ref u) ⟨vs,[]⟩) _ _ s
 simp -iota only [callAny]
 refine wB (wpAny_load ho ?_)
 simp -iota only [Um0,show (Value.type "builtin_function_or_method" == Value.type "method" || Value.type "builtin_function_or_method" == Value.type "builtin_function_or_method" || Value.type "builtin_function_or_method" == Value.type "method-wrapper") = true by decide,if_true]
 show wpAny _ A.in1 (if (Value.type "builtin_function_or_method" != Value.type "method") = true then do
     checkBoundCall id { pos:=x :: vs }
     again (Code.builtin id { pos:=x :: vs })
    else again (Code.call (.builtin id) { pos:=x :: vs })) _ _ s
 rw [if_pos (by decide)]
 refine wB (hcheck _ _ _ ?_)
 refine wB (wP (wP ?_))
 exact ⟨hq,codeAny_builtin he (h _ _ _ rfl (fun v s' q=>q) (fun v s' q=>q))⟩
theorem Qc0 {u:Addr} {id:String} {xx:Value} {first:List Value} {args:List (Bool × Sem Value)} {Q:Value→Shared→Prop} (hplain:args.any (·.1) = false)
  (h:wpAny (MM w) A (evalArgs (.ref u) true args []) (fun x s₁=>s₁.heap.get? u = some (Um0 id xx)∧wpAny (MM w) A (call (.ref u) (first ++ x.pos) x.kw) Q E s₁) E s):wpAny (MM w) A (callWith pos (.ref u) first args []) Q E s:=by
 delta callWith
 refine wB (wpAny_holding (wM h (fun x s₁ h₁=>wB (wpAny_standAt ?_)) fun _ _ x=>x))
 obtain ⟨ho,hcall⟩:=h₁
 simp -iota only [hplain,List.any_nil,Bool.or_false]
 refine wB (m:=keeperOf (.ref u)) ?_
 delta keeperOf
 refine wB (wpAny_load ho ?_)
 simp -iota only [Um0,show (Value.type "builtin_function_or_method" != Value.type "method") = true by decide,show (Value.type "builtin_function_or_method" == Value.type "builtin_function_or_method" || Value.type "builtin_function_or_method" == Value.type "method-wrapper") = true by decide,if_true,Bool.and_true]
 refine wP ?_
 exact wB (wM hcall (fun r s₂ hr=>wB (wpAny_holding (wpAny_point (wP hr)))) fun _ _ x=>x)
theorem Qd0:entryFor table "re.Pattern.search" = some Builtin.«re.Pattern.search»:=entryFor_of_tree (by kernel_rfl)
theorem Qe0 {as:Args}:(Code.builtin "re.Pattern.search" as).quiet = true:=Code.quiet_builtin _ (by decide +kernel)
noncomputable def sgS:Manifest.Signature:=⟨.keywords, "Pattern.search", "search",.self,[⟨"string",.posOrKw,true⟩,⟨"pos",.posOrKw,false⟩,⟨"endpos",.posOrKw,false⟩]⟩
theorem Wk0:Manifest.signature? "re.Pattern.search" = some sgS:=by kernel_rfl
theorem Sz0:builtinKind "re.Pattern.search" = some .method:=by kernel_rfl
theorem Qf0 {o:Obj} {t:Tok} {P:Unit→Shared→Prop} (ho:s.heap.get? a = some o) (hc:o.cls = .type "re.Pattern") {fv:Array Value} (hd:o.data = .fields fv) (h:P () s):wpAny (MM w) A (checkBoundCall "re.Pattern.search" ⟨[.ref a,.str x t],[]⟩) P E s:=by
 have hty:s.TypeIs (.ref a) "re.Pattern" := ⟨o,ho,hc⟩
 delta checkBoundCall
 rw [Wk0,Sz0]
 dsimp only
 rw [if_neg (by decide)]
 refine wB (wpAny_isInstance hty (b:=false) (by rw [isSubtype_type]; kernel_rfl) ?_)
 rw [if_neg (by decide +kernel)]
 refine wB ?_
 simp -iota only [isType,loadHead]
 refine wB (wB (wpAny_loadPart ho (wP ?_)))
 rw [hd]
 refine wP ?_
 refine wB (wpAny_typeOf hty ?_)
 exact wpAny_of_eq (a:=()) (by kernel_rfl) h
end
open PySem.Builtin.Re
section
noncomputable def Jq0 (x:Str):Bool:=x.cps.all fun c=>c == 97 || c == 98
theorem Wl0 {t:Tok} {P:Fin→Shared→Prop} {f0 f1 f3 f4:Value} (ho:s.heap.get? a = some { cls:=.type "re.Pattern",data:=.fields #[f0,f1,.int 0 0,f3,f4,.ref b,.int 0 0] })
  {cv:Array Value} (hb:s.heap.get? b = some { cls:=.type "tuple",data:=.seq cv }) (hcv:Array.map (fun x=>Int.toNat x) (Array.map reRawOf cv) = Mh0) (hn:1 ≤ x.cps.size) (hsz:x.cps.size < 2 ^ 62) (hal:∀ c ∈ x.cps,Dr0 c)
  (h1:Jq0 x = true→P (.done (.ret .none)) s) (h2:Jq0 x = false→∀ h' r,(∀ b o,s.heap.get? b = some o→h'.get? b = some o)→P (.done (.ret (.ref r))) { s with heap:=h' }) :
  wpAny (MM w) A (Builtin.«re.Pattern.search» ⟨[.ref a,.str x t],[]⟩) P E s:=by
 delta Builtin.«re.Pattern.search»
 refine wB ?_
 delta reTarget
 dsimp only
 refine wB (wpAny_of_eq (a:=[some (.str x t),none,none]) (by kernel_rfl) ?_)
 dsimp only
 refine wB (wP ?_)
 refine wB (wP ?_)
 refine wB (wpAny_fieldsOf ho rfl ?_)
 refine wB (wpAny_of_eq (a:=(x.cps,0)) (by rfl) ?_)
 dsimp only
 rw [if_neg (by show ¬ (0 == 0 && 0 == 1) = true; decide),if_neg (by show ¬ (0 == 0 && 0 == 0 && _) = true; decide)]
 refine wB (wpAny_of_eq (a:=()) (by rfl) ?_)
 refine wB ?_
 delta reRawItems
 refine wB (wpAny_seqItems hb rfl (wP (wP ?_)))
 have hcode:Array.map (fun x=>Int.toNat x) (Array.map reRawOf ((some cv).getD #[])) = Mh0:=hcv
 have hpos:min (Int.toNat 0) x.cps.size = 0:=by simp
 have hlim:min (2 ^ 63 - 1:Int).toNat x.cps.size = x.cps.size:=by
  rw [Nat.min_eq_right]; have:(2 ^ 63 - 1:Int).toNat = 2 ^ 63 - 1:=by decide
  exact Nat.le_of_lt (Nat.lt_of_lt_of_le ‹_› (by decide))
 have hgr:reRawNat (#[f0,f1,Value.int 0 0,f3,f4,Value.ref b,Value.int 0 0].getD 2 Value.none) = 0:=rfl
 rw [hcode,hpos,hlim,hgr]
 delta reAnswer
 have hget:∀ i,i < x.cps.size→x.cps.getD i 0 ∈ x.cps:=fun i hi=>by
  rw [Array.getD_eq_getD_getElem?,Array.getElem?_eq_getElem hi]; exact Array.getElem_mem hi
 cases hs:Jq0 x with
 | true =>
  have hall:∀ i,i < x.cps.size→x.cps.getD i 0 = 97 ∨ x.cps.getD i 0 = 98:=fun i hi=>by
   have:=Array.all_eq_true'.mp hs _ (hget i hi)
   simpa using this
  refine wB (Yk0 (Sx0 x.cps hn hall) ?_)
  exact wP (h1 hs)
 | false =>
  have hex:∃ i,i < x.cps.size∧¬ (x.cps.getD i 0 = 97 ∨ x.cps.getD i 0 = 98):=by
   apply Classical.byContradiction
   intro hno
   have:Jq0 x = true:=by
    unfold Jq0
    rw [Array.all_eq_true']
    intro c hc
    obtain ⟨i,hi,hQ81⟩:=Array.mem_iff_getElem.mp hc; subst hQ81
    have:=Classical.byContradiction fun q=>hno ⟨i,hi,q⟩
    rw [Array.getD_eq_getD_getElem?,Array.getElem?_eq_getElem hi] at this
    simpa using this
   rw [hs] at this; cases this
  refine wB (Yk0 (Sy0 x.cps hn (fun i hi=>hal _ (hget i hi)) hex) ?_)
  refine wB ?_
  delta reNewMatch
  dsimp only
  simp -iota only [List.range_zero,List.any_nil,List.flatMap_nil,Bool.false_eq_true,if_false]
  refine wB (wpAny_newTuple ?_ (by show 2 ≤ sizeLine; decide))
  delta newFields
  refine wpAny_newObj_type (wP (h2 hs _ _ fun b o e=>Heap.get?_push_of_some _ (Heap.get?_push_of_some _ e)))
end
end
section
open PySem.Builtin PySem.Builtin.Str
theorem Qg0 (x y:Str) (i:Int) (t u v:Tok) (k:Nat) (r:List Nat) (h:occurrences x y (fromIndex x.length i) x.length 1 = k :: r):Gives («str.index» ⟨[.str x t,.str y u,.int i v],[]⟩) (.int k):=by
 show Gives (match occurrences x y (fromIndex x.length i) (min x.length x.length) 1 with | k :: _=>retInt k | []=>_) _
 rw [Nat.min_self,h]
 exact .of_eq rfl
theorem Nr0 (x y:Str) (i:Int) (t u v:Tok) (h:occurrences x y (fromIndex x.length i) x.length 1 = []):Meets («str.index» ⟨[.str x t,.str y u,.int i v],[]⟩) (raisesNew "ValueError"):=by
 intro prog w A R s hS
 show wpAny _ _ (match occurrences x y (fromIndex x.length i) (min x.length x.length) 1 with | i :: _=>retInt i | []=>_) _ _ s
 rw [Nat.min_self,h]
 first
  | exact wB (wpAny_rule (by exact_raiseError plainExc_ValueError hS.1 hS.2))
  | exact wB (wpAny_rule (wB (by exact_raiseError plainExc_ValueError hS.1 hS.2)))
theorem Qh0 (x y:Str) (i j:Int) (t u v v':Tok):Gives («str.count» ⟨[.str x t,.str y u,.int i v,.int j v'],[]⟩) (.int (occurrences x y (fromIndex x.length i) (min (fromIndex x.length j) x.length) (x.length + 1)).length):=.of_eq rfl
theorem Ns0 (x y:Str) (i j:Int) (t u v v':Tok) (k:Nat) (h:lastOccurrence x y (fromIndex x.length i) (min (fromIndex x.length j) x.length) = some k):Gives («str.rindex» ⟨[.str x t,.str y u,.int i v,.int j v'],[]⟩) (.int k):=by
 show Gives (match lastOccurrence x y (fromIndex x.length i) (min (fromIndex x.length j) x.length) with | some k=>retInt k | none=>_) _
 rw [h]
 exact .of_eq rfl
section
variable {prog:Program} {t u v v':Tok} {i j:Int} {Q:Value→Shared→Prop}
theorem Ta0 {k:Nat} {r:List Nat} (h:occurrences x y (fromIndex x.length i) x.length 1 = k :: r) (hq:Q (.int k s.toks) { s with toks:=s.toks + 1 }):wpAny (model prog w) A (call (.builtin "str.index") [.str x t,.str y u,.int i v]) Q E s :=
 call_gives F.slot_str_index (typeIs_str _ _ _) F.entry_str_index (F.args_str_index_3 _ _ _) (Qg0 x y i t u v k r h) hq
theorem Ll0 (hA:A.handled = none) (h:occurrences x y (fromIndex x.length i) x.length 1 = []) (hq:∀ h' tk e,Heap.NewExc s.heap h' e "ValueError" → E (.ref e) { s with heap:=h',toks:=tk }):wpAny (model prog w) A (call (.builtin "str.index") [.str x t,.str y u,.int i v]) Q E s :=
 call_meets F.slot_str_index (typeIs_str _ _ _) F.entry_str_index (F.args_str_index_3 _ _ _) (Nr0 x y i t u v h) ⟨hA,hq⟩
theorem Tb0 (hq:Q (.int (occurrences x y (fromIndex x.length i) (min (fromIndex x.length j) x.length) (x.length + 1)).length s.toks) { s with toks:=s.toks + 1 }):wpAny (model prog w) A (call (.builtin "str.count") [.str x t,.str y u,.int i v,.int j v']) Q E s :=
 call_gives F.slot_str_count (typeIs_str _ _ _) F.entry_str_count (F.args_str_count_4 _ _ _ _) (Qh0 x y i j t u v v') hq
theorem Qi0 {k:Nat} (h:lastOccurrence x y (fromIndex x.length i) (min (fromIndex x.length j) x.length) = some k) (hq:Q (.int k s.toks) { s with toks:=s.toks + 1 }):wpAny (model prog w) A (call (.builtin "str.rindex") [.str x t,.str y u,.int i v,.int j v']) Q E s :=
 call_gives F.slot_str_rindex (typeIs_str _ _ _) F.entry_str_rindex (F.args_str_rindex_4 _ _ _ _) (Ns0 x y i j t u v v' k h) hq
end
theorem Nt0 {T id:String} {P1 P:Heap→Value→Prop} (ok:CxOk c) (pa:PlainAttrs T) (slot:PySem.Slot T name id) (hty:typeOf (.builtin id) = pure (.type "method_descriptor"))
  (h1:Ev c ρ o P1) (h2:Fb0 c ρ (e :: es) ds) (st:Pi0 c ρ P1) (ht:∀ (s:Shared) v,P1 s.heap v→s.TypeIs v T∧∀ b,v = .ref b→∃ ob,s.heap.get? b = some ob∧ob.dict = none)
  (h:∀ s v us,St c ρ s→P1 s.heap v→RdAll (fz (c.XX ρ) s.heap) us ds→∀ E,wpAny (MM c.w) c.A (call (.builtin id) (v :: us)) (fun r s'=>Kp c.fs s s'∧P s'.heap r) E s)
  (hbase:attributeBase o name c.env (eval o c.env) = eval o c.env:=by rfl) (he:starEach (e :: es) c.env = (false,eval e c.env) :: starEach es c.env:=by rfl) (hpl:(backTo pos (starEach es c.env)).any (·.1) = false:=by rfl) (hcond:((((backTo pos (starEach (e :: es) c.env)).all fun x=>!x.1) && (backToKw pos (keywordEach [] c.env)).all fun x=>x.1.isSome) && decide (((e :: es).length + ([]:List Keyword).length + if ([]:List Keyword).isEmpty = true then 0 else 1) < 30)) = true:=by rfl) (hline:(apos.endLine == pos.line) = true:=by rfl) :
  Ev c ρ (.Call (.Attribute o name apos) (e :: es) [] pos) P:=fun s S E=>by
 refine wpAny_Call_method_lateS hbase hcond hline (Ad0 ok h1 S (.refl _ _) fun v s1 S1 k1 _ p=>?_)
 refine ⟨T,id,pa,slot,hty,(ht s1 v p).1,(ht s1 v p).2,?_⟩
 have hp:∀ Q,wpAny (MM c.w) c.A (spliced (backTo pos (starEach (e :: es) c.env))) (fun vs s'=>Q ⟨vs,[]⟩ s') E s1→wpAny (MM c.w) c.A (evalArgs (.builtin id) true (backTo pos (starEach (e :: es) c.env)) []) Q E s1:=by
  intro Q hq; rw [he] at hq ⊢; exact evalArgs_plain hq
 refine callWith_builtin (by rw [he]; show (false || (backTo pos (starEach es c.env)).any (·.1)) = false; rw [hpl]; rfl) (hp _ (Bj0 ok h2 S1 k1 fun us s2 S2 k2 k2' p2=>?_))
 exact wM (h s2 v us S2 (st _ _ _ S1 k2 p) p2 E) (fun r s3 hh1=>by obtain ⟨k3,r3⟩:=hh1; exact ⟨k2'.trans k3,r3⟩) fun _ _ x=>x
section
variable {n:Int}
theorem Fs0 (ok:CxOk c) (h:EvD c ρ e (.int n)) (hd:n.natAbs.log2 < 1920):EvD c ρ (.FormattedValue e (-1) none pos) (.str (oS (toString n))):=fun s S E =>
 wpAny_FormattedValue_plain (Ad0 ok h S (.refl _ _) fun v s1 S1 k1 _ p=>by
  obtain ⟨t,hQ82⟩:=p.int_inv; subst hQ82
  exact wpAny_formatField_int hd ⟨k1.trans (.toks _ _),.str _ _⟩)
theorem Mj0 (ok:CxOk c) (h:EvD c ρ e (.str x)) (hx:x.length ≤ sizeLine):EvD c ρ (.FormattedValue e (-1) none pos) (.str x):=fun s S E =>
 wpAny_FormattedValue_plain (Ad0 ok h S (.refl _ _) fun v s1 S1 k1 _ p=>by
  obtain ⟨t,hQ83⟩:=p.str_inv; subst hQ83
  exact wpAny_formatField_str ⟨k1,.str _ _⟩ ⟨k1.trans (.toks _ _),.str _ _⟩ hx)
theorem Jr0 (ok:CxOk c) (h:EvD c ρ e (.str x)) (hx:(reprText x).length ≤ sizeLine):EvD c ρ (.FormattedValue e 114 none pos) (.str (reprText x)):=fun s S E =>
 wpAny_FormattedValue_repr (Ad0 ok h S (.refl _ _) fun v s1 S1 k1 _ p=>by
  obtain ⟨t,hQ84⟩:=p.str_inv; subst hQ84
  exact pyReprObj_str (wpAny_formatField_str ⟨k1.trans (.toks _ _),.str _ _⟩ ⟨(k1.trans (.toks _ _)).trans (.toks _ _),.str _ _⟩ hx) hx)
end
inductive EvJ (c:Cx) (ρ:Rho):List Expr→List Str→Prop
 | nil:EvJ c ρ [] []
 | cons {e:Expr} {es:List Expr} {y:Str} {ys:List Str}:EvD c ρ e (.str y)→EvJ c ρ es ys→EvJ c ρ (e :: es) (y :: ys)
theorem Yl0 (ok:CxOk c) {es:List Expr} {ys:List Str} (h:EvJ c ρ es ys):∀ {acc:Str} {Q:Str→Shared→Prop} {E:Value→Shared→Prop} {s s₀:Shared},St c ρ s→Kp c.fs s₀ s→(∀ k ≤ ys.length,((ys.take k).foldl (· ++ ·) acc).length ≤ sizeLine) →
  (∀ s',St c ρ s'→Kp c.fs s₀ s'→Q (ys.foldl (· ++ ·) acc) s')→Joins (MM c.w) c.A E (evalEach es c.env) acc Q s:=by
 induction h with
 | nil=>intro acc Q E s s₀ S k _ hq; exact hq s S k
 | cons h1 _ ih =>
  intro acc Q E s s₀ S k hl hq
  refine Ad0 ok h1 S k fun v s1 S1 _ k1 p=>?_
  obtain ⟨t,hQ85⟩:=p.str_inv; subst hQ85
  refine ⟨_,_,rfl,?_,ih S1 k1 (fun j hj=>?_) hq⟩
  ·simpa using hl 1 (by simp)
  ·simpa using hl (j + 1) (by simpa using hj)
theorem Cz0 (ys:List Str) (acc:Str):(ys.foldl (· ++ ·) acc).length = acc.length + (ys.map Str.length).sum:=by
 induction ys generalizing acc with
 | nil=>simp
 | cons y r ih=>rw [List.foldl_cons,ih,List.map_cons,List.sum_cons]; rw [show (acc ++ y).length = acc.length + y.length from by show (acc.cps ++ y.cps).size = _; rw [Array.size_append]; rfl]; exact Nat.add_assoc _ _ _
theorem Fg0 {v1 v2:Expr} (ok:CxOk c) (h:EvJ c ρ (v1 :: v2 :: es) ys) (hsz:(ys.map Str.length).sum ≤ sizeLine):EvD c ρ (.JoinedStr (v1 :: v2 :: es) pos) (.str (ys.foldl (· ++ ·) Str.empty)):=fun s S E=>by
 have hle:∀ k,((ys.take k).foldl (· ++ ·) Str.empty).length ≤ sizeLine:=fun k=>by
  rw [Cz0]
  have h1:((ys.take k).map Str.length).sum ≤ (ys.map Str.length).sum:=by
   rw [← List.take_append_drop k ys,List.map_append,List.sum_append,List.take_append_drop]; exact Nat.le_add_right _ _
  show 0 + _ ≤ _; lia
 refine wpAny_JoinedStr (Yl0 ok h S (.refl _ _) (fun k _=>hle k) fun s' S' k=>⟨?_,k.trans (.toks _ _),.str _ _⟩)
 simpa using hle ys.length
end
noncomputable abbrev Il0:Str:=oS "suffixed_err.<locals>.coord_repr"
theorem Co1 (k:(KF w).In h):CodeHd h 64 60:=by
 have e:=k 64 _ (show (KF w).lookup 64 = some _ from rfl)
 exact ⟨_,_,_,_,_,_,_,_,_,e,rfl,rfl,rfl,rfl,rfl,rfl,rfl,rfl,by decide⟩
theorem Tc0 {params:Arguments} {fl:Nat} {Q:Value→Shared→Prop} (ok:CxOk c) (S:St c ρ s)
  (hcode:c.env.code = .ref 64) (hl:(pos.line:Int) = 22) (hc:(pos.col:Int) = 4) (hclos:closureFor scope c.env = pure [])
  (h:∀ f c' oc ws t ctv doc pm s',s'.heap.get? f = some ⟨.type "function",none,.func (fnOf name Il0 params body scope .none .none doc pm none (.ref c') ctv),#[]⟩→s'.heap.get? c' = some oc→oc.data = .fields ws→ws[1]? = some (.str Il0 t) →
   s.heap.get? f = none→c' ∉ c.XX ρ→Kp c.fs s s'→0 < s'.toks→Q (.ref f) s') :
  wpAny (MM c.w) c.A (makeFunction name Il0 params (.stmts body) scope c.env [] [] [] pos fl) Q E s:=by
 have am:=S.amb ok
 obtain ⟨mg,hg,hgb⟩:=S.glob ok (x:=oS "__builtins__") (v:=.ref 4) (by rfl)
 obtain ⟨ob,hbo,hbc,hbd,hbp⟩:=am.wd.bm
 have C:=Co1 am.wd.k
 obtain ⟨vs,hP,hvs⟩:=S.tab ok
 rw [makeFunction_eq]
 simp only [List.zip_nil_right,List.filterMap_nil,List.isEmpty_nil,if_true,pure_bind]
 refine wpAny_with_toks (n:=1) S.toks ?_
 rcases hvs with rfl | ⟨l,k,cc,rfl,hll,hkk,⟨oc,ws,t,f1,f2,f3,f4⟩,h5,h6⟩
 ·unfold makeTail
  rw [hclos,ok.glob]
  refine wB (wP ?_)
  simp only [List.isEmpty_nil,if_true]
  refine wB (wP ?_)
  refine wB (wpAny_functionCodeX hcode (C.code hP trivial) (C.tab hP) rfl fun c' h' tk hx hge hlt _ hrec htb hcb=>?_)
  have hg':=hg.extBut hx (by decide)
  refine wB (wpAny_builtinsFor hg' hgb (by decide) (hx _ _ (by decide) hbo) hbc hbd hbp ?_)
  refine wB (wpAny_nsGet hg' ?_)
  obtain ⟨P',_,_,⟨⟨oc,vs',g1,g2,g3,_⟩,_⟩⟩:=hcb
  obtain ⟨cc,oc',ws,t,r1,r2,r3,r4⟩:=hrec
  cases r1
  rw [g1] at r2; cases r2
  rw [g3] at r3; cases r3
  have hbig:=S.big ok
  have hc60:c' ≠ tA:=Nat.ne_of_gt (Nat.lt_of_lt_of_le (show 60 < 269 by decide) (Nat.le_trans hbig hge))
  have hkeep:∀ (o:Obj) b o',s.heap.get? b = some o'→b ≠ tA→(h'.push o).get? b = some o':=fun o b o' e hne=>Heap.get?_push_of_some _ (hx b o' hne e)
  have hnew:s.heap.get? h'.objs.size = none:=by
   cases q:s.heap.get? h'.objs.size with
   | none=>rfl
   | some o=>exact absurd (Heap.lt_size (hx _ _ (Nat.ne_of_gt (Nat.lt_of_lt_of_le (show 60 < 269 by decide) (Nat.le_trans hbig (Nat.le_trans hge (Nat.le_of_lt hlt))))) q)) (Nat.lt_irrefl _)
  have hcX:c' ∉ c.XX ρ:=fun q=>by
   obtain ⟨o,e,_⟩:=S.has c' q
   exact absurd (Heap.lt_size e) (Nat.not_lt.mpr hge)
  have fin:∀ doc ctv tk',0 < tk'→Q (.ref h'.objs.size) { s with heap:=h'.push ⟨.type "function",none,.func (fnOf name Il0 params body scope .none .none doc ((mg "__name__").getD .none) none (.ref c') ctv),#[]⟩,toks:=tk' }:=fun doc ctv tk' htk =>
   h _ c' oc vs' t ctv doc _ _ (Heap.get?_push_size _ rfl) (Heap.get?_push_of_some _ g1) g3 r4 hnew hcX
    ⟨rfl,rfl,fun b o e _ h2=>hkeep _ b o e h2,fun b o e h2=>⟨o.slots,hkeep _ b o e h2⟩,fun _=>⟨_,Heap.get?_push_of_some _ htb.2,.inr ⟨pos.line,pos.col,c',rfl,by simp [hl],by simp [hc],⟨oc,vs',t,Heap.get?_push_of_some _ g1,g2,g3,r4⟩,hc60,Nat.le_trans hbig hge⟩⟩⟩ htk
  cases hdoc:docOf body with
  | none=>exact wB (wP (wpAny_newObj_type (fun ht=>fin .none .none tk ht) (by size_fits)))
  | some t=>exact wB (wpAny_mkText (wpAny_newObj_type (fun ht=>fin _ .none _ ht) (by size_fits)))
 ·have hcX:cc ∉ c.XX ρ:=fun q=>by
   obtain ⟨o,e,nf⟩:=S.has cc q
   rw [f1] at e; cases e
   rcases nf with w | w
   ·exact h5 w
   ·exact w _ f3
  refine makeTail_hit (cv:=.ref cc) hclos ok.glob hg hcode C hP trivial ?_ ⟨4,ob,hgb,by decide,by decide,by decide,hbo,hbc,hbd,hbp⟩ fun ctv doc h' tk hk hsz ht=>?_
  ·show (if (l == (pos.line:Int) && k == (pos.col:Int)) = true then some (Value.ref cc) else codeAmong pos []) = _
   rw [hl,hc,hll,hkk]; rfl
  ·have hnew:s.heap.get? h'.objs.size = none:=by
    cases q:s.heap.get? h'.objs.size with
    | none=>rfl
    | some o=>exact absurd (Heap.lt_size (hk _ _ q)) (Nat.lt_irrefl _)
   exact h _ cc oc ws t ctv doc _ _ (Heap.get?_push_size _ rfl) (Heap.get?_push_of_some _ (hk _ _ f1)) f3 f4 hnew hcX (.of_all rfl rfl fun b o e=>Heap.get?_push_of_some _ (hk b o e)) ht
theorem It1 {params:Arguments} (ok:CxOk c) (S:St c ρ s)
  (hcode:c.env.code = .ref 64) (hl:(pos.line:Int) = 22) (hc:(pos.col:Int) = 4) (hclos:closureFor scope c.env = pure []) (hx:c.env.kindOf name = some .local) (hcd:(name == ("__classdict__" : Str)) = false) (hq:qualnameIn c.env name name = Il0)
  (hd0:params.defaults = []) (hk0:params.kw_defaults = []) (ha:annTrees params none c.env = [])
  (hr:∀ f c' oc ws t ctv doc pm s' P,oc.data = .fields ws→ws[1]? = some (.str Il0 t)→P (f,⟨.type "function",none,.func (fnOf name Il0 params body scope .none .none doc pm none (.ref c') ctv),#[]⟩)→P (c',oc) →
   St (c.pins P) ((name,.raw (.ref f)) :: ρ) s'→wpAny (MM (c.pins P).w) (c.pins P).A (execs rest (c.pins P).env) Q E s') :
  wpAny (MM c.w) c.A (execs (.FunctionDef name params body [] none [] scope none name pos :: rest) c.env) Q E s:=by
 refine wC (nestDef_K hd0 hk0 ha ?_)
 rw [hq]
 refine Tc0 ok S hcode hl hc hclos fun f c' oc ws t ctv doc pm s' e1 e2 e3 e4 e5 e6 k ht=>?_
 have S':=S.step ok k ht
 let P:Addr × Obj→Prop:=fun p=>p = (f,⟨.type "function",none,.func (fnOf name Il0 params body scope .none .none doc pm none (.ref c') ctv),#[]⟩) ∨ p = (c',oc)
 have S2:St (c.pins P) ρ s':=S'.pins P (fun p hp=>by rcases hp with rfl | rfl; exact e1; exact e2) (fun p hp=>by
  rcases hp with rfl | rfl
  ·intro q; obtain ⟨o,e,_⟩:=S.has f q; rw [e5] at e; cases e
  ·exact e6)
 exact S2.storeS (ok.pins P) (.inl hx) hcd (.inr rfl) fun s3 S3 _ _=>hr f c' oc ws t ctv doc pm s3 P e3 e4 (.inl rfl) (.inr rfl) S3
theorem Td0 {oc:Value} {od:Option Addr} {fd:FuncData} {osl:Array (Option Value)} (ok:CxOk c)
  (hx:ρ.lookup x = some (.raw (.ref f))) (hp:c.pin (f,⟨oc,od,.func fd,osl⟩)) (ha:Fb0 c ρ (e :: es) ds)
  (h:∀ s vs,St c ρ s→RdAll (fz (c.XX ρ) s.heap) vs ds→codeAny (MM c.w) c.A (.call (.ref f) ⟨vs,[]⟩) (fun r s'=>∃ v,r = .ok (.ret v)∧Kp c.fs s s'∧Rd (fz (c.XX ρ) s'.heap) v d) s)
  (hd:(x == ("__debug__" : Str)) = false:=by rfl) (he:starEach (e :: es) c.env = (false,eval e c.env) :: starEach es c.env:=by rfl):EvD c ρ (.Call (.Name x np) (e :: es) [] pos) d:=fun s S E =>
 wpAny_Call_NameR (Ad0 ok (Dd0 (P:=fun _ v=>v = .ref f) ok (fun s S=>⟨_,S.raw x _ hx,rfl⟩) hd) S (.refl _ _) fun u s1 S1 k1 _ hu=>by
  subst hu
  have hp':∀ Q,wpAny (MM c.w) c.A (spliced (backTo pos (starEach (e :: es) c.env))) (fun vs s'=>Q ⟨vs,[]⟩ s') E s1→wpAny (MM c.w) c.A (evalArgs (.ref f) true (backTo pos (starEach (e :: es) c.env)) []) Q E s1:=by
   intro Q hq; rw [he] at hq ⊢; exact evalArgs_plain hq
  refine callWith_function (o:=⟨oc,od,.func fd,osl⟩) (fd:=fd) (hp' _ (Bj0 ok ha S1 k1 fun vs s2 S2 k2 k2' r=>?_))
  refine ⟨⟨S2.pin _ hp,rfl⟩,wpAny_call (codeAny_mono (h _ _ S2 r) fun rr s3 hh=>?_)⟩
  obtain ⟨v,e1,k3,r3⟩:=hh
  subst e1
  exact ⟨k2'.trans k3,r3⟩)
section
open PySem.Builtin PySem.Builtin.Str
noncomputable abbrev Gh0:Obj:=excClassObj (oS "TOMLDecodeError") (oS "TOMLDecodeError") 48 47 [.type "ValueError"] [.type "ValueError",.type "Exception",.type "BaseException",.type "object"] true [] [] false none none
 (some (.ref 39)) none (some (.str (oS "TOMLDecodeError") 291)) (some (.str (oS "TOMLDecodeError") 299)) (some (.bool true)) "ValueError.__new__"
theorem Iu1 (w:World):(KF w).lookup 48 = some Gh0:=by rfl
theorem Ex1 (w:World):nsOkIn (KF w) 47 = true:=by first | kernel_rfl | rfl
theorem My1 (X:(KF w).In h):∃ mN,h.Ns 47 mN∧mN (oS "__init__") = none :=
 ⟨_,.of_isNs (isNs_of_in X (Ex1 w)),nsMap_none_of_in X (Ex1 w) (by rfl)⟩
theorem Nu0 {first:List Value} {args:List (Bool × Sem Value)} {Q:Value→Shared→Prop} (hplain:args.any (·.1) = false)
  (h:wpAny (MM w) A (evalArgs (.ref 48) true args []) (fun x s₁=>s₁.heap.get? 48 = some Gh0∧wpAny (MM w) A (call (.ref 48) (first ++ x.pos) x.kw) Q E s₁) E s):wpAny (MM w) A (callWith pos (.ref 48) first args []) Q E s:=by
 delta callWith
 refine wB (wpAny_holding (wM h (fun x s₁ h₁=>wB (wpAny_standAt ?_)) fun _ _ x=>x))
 obtain ⟨ho,hcall⟩:=h₁
 simp -iota only [hplain,List.any_nil,Bool.or_false]
 obtain ⟨hp,g,d,tk,os⟩:=s₁
 refine wB (m:=keeperOf (.ref 48)) (wpAny_keeperOf_exc ho ?_)
 exact wB (wM hcall (fun r s₂ hr=>wB (wpAny_holding (wpAny_point (wP hr)))) fun _ _ x=>x)
theorem Cp1 {Q:Value→Shared→Prop} (X:(KF w).In s.heap) (hq:∀ h' e,Heap.MadeExcOf s.heap h' e (.ref 48) [v]→Q (.ref e) { s with heap:=h' }):wpAny (MM w) A (call (.ref 48) [v]) Q E s:=by
 obtain ⟨mN,hn,hi⟩:=My1 X
 obtain ⟨hp,g,d,tk,os⟩:=s
 exact wpAny_call_exc_sub F.excBase_ValueError (X 48 _ (Iu1 w)) hn hi (fun h' e hm=>hq h' e hm) (by show 1 ≤ sizeLine; decide)
noncomputable abbrev nl:Str:=oS "\n"
noncomputable def Bn0 (src:Str) (p:Nat):Nat:=(occurrences src nl 0 (min p src.length) (src.length + 1)).length
noncomputable def Fy0 (src:Str) (p:Nat):Option Nat:=lastOccurrence src nl 0 (min p src.length)
noncomputable def Cc0 (src:Str) (p:Nat):Str :=
 if src.length ≤ p then oS "end of document"
 else [oS "line ",oS (toString ((Bn0 src p:Int) + 1)),oS ", column ",oS (toString (if ((Bn0 src p:Int) + 1 == 1) then (p:Int) + 1 else (p:Int) - ((Fy0 src p).getD 0:Nat)))].foldl (· ++ ·) Str.empty
noncomputable def Qj0 (src:Str) (p:Nat) (msg:Str):Str:=[msg,oS " (at ",Cc0 src p,oS ")"].foldl (· ++ ·) Str.empty
theorem Un0 {m:Nat} (h:m < 2 ^ 20):m.log2 < 1920:=by
 by_cases q:m = 0
 ·subst q; decide
 ·have:=(Nat.log2_lt q).mpr h; exact Nat.lt_of_lt_of_le ‹_› (by decide)
theorem Cd0 (n p:Nat):fromIndex n (p:Int) = p:=by
 delta fromIndex
 rw [if_neg (by simp +arith)]
 rfl
theorem Wm0 {a b:Int} (ok:Ay0 c) (h1:EvD c ρ l (.int a)) (h2:EvD c ρ r (.int b)):EvD c ρ (.BinOp l .Sub r pos) (.int (a - b)) :=
 Ei0 ok h1 h2 (Ph0 ok _) fun s u v S p q E=>by
  obtain ⟨t,rfl⟩:=p.int_inv; obtain ⟨t',rfl⟩:=q.int_inv
  exact PyProof.Rows.sub_int ⟨.toks _ _,.int _ _⟩
theorem RdAll.three {us:List Value} {a b:PyData} (r:RdAll g us [a,b,d]):∃ u v w,us = [u,v,w]∧Rd g u a∧Rd g v b∧Rd g w d:=by
 cases r with | cons r1 r=>cases r with | cons r2 r=>cases r with | cons r3 r=>cases r; exact ⟨_,_,_,rfl,r1,r2,r3⟩
theorem Te0 (ok:CxOk c) (S:St c ρ s) (hx:c.env.kindOf (oS "TOMLDecodeError") = some .globalImplicit) (h:EvD c ρ e (.str x))
  (hq:∀ e h1 t s',Kp c.fs s s'→St c ρ s'→(∃ s1,h1 = s1.heap∧Kp c.fs s s1)→Heap.MadeExcOf h1 s'.heap e (.ref 48) [.str x t]→Q (.ret (.ref e)) s') (he:starEach [e] c.env = [(false,eval e c.env)]:=by rfl) :
  wpAny (MM c.w) c.A (execs (.Return (some (.Call (.Name (oS "TOMLDecodeError") np) [e] [] cpos)) pos :: rest) c.env) Q E s:=by
 refine wC (wpAny_Return_some (wpAny_Call_NameR (Ad0 ok (Bp0 ok (Eb0 _) hx) S (.refl _ _) fun u s1 S1 k1 _ hu=>?_)))
 subst hu
 have hp:∀ Q,wpAny (MM c.w) c.A (eval e c.env) (fun v s'=>Q ⟨[v],[]⟩ s') E s1→wpAny (MM c.w) c.A (evalArgs (.ref 48) true (backTo cpos (starEach [e] c.env)) []) Q E s1:=by
  intro Q hq; rw [he]; exact evalArgs_plain (spliced_cons (wM hq (fun _ _ h=>spliced_nil h) fun _ _ x=>x))
 refine Nu0 (by rw [he]; rfl) (hp _ (Ad0 ok h S1 k1 fun u s2 S2 k2 k2' r=>?_))
 obtain ⟨t,rfl⟩:=r.str_inv
 refine ⟨S2.kf ok (Iu1 _) (by decide) (by decide),Cp1 (S2.amb ok).wd.k fun h' e hm=>?_⟩
 have k3:Kp c.fs s2 { s2 with heap:=h' }:=.of_all rfl rfl hm.keeps
 exact hq e s2.heap t _ (k2'.trans k3) (S2.step ok k3 S2.toks) ⟨s2,rfl,k2'⟩ hm
inductive ErrEnd (fs:List Addr) (s:Shared) (m:Str) (r:Result) (s':Shared):Prop
 | mk (e:Addr) (h1:Heap) (t:Tok):r = .ok (.ret (.ref e))→Kp fs s s'→(∀ b o,s.heap.get? b = some o→b ∉ fs→b ≠ tA→h1.get? b = some o)→Heap.MadeExcOf h1 s'.heap e (.ref 48) [.str m t]→s.heap.get? e = none→0 < s'.toks→(∀ b,h1.get? b = none→b ≠ tA→s.heap.get? b = none)→ErrEnd fs s m r s'
theorem Iv1 (w:World) (src msg:Str) (p:Nat) (hs:src.length ≤ 1000) (hp:p ≤ 1000) (hm:msg.length ≤ 100000) (hcl:(Cc0 src p).length ≤ 100000) (hna:Bn0 src p ≤ 1000) (hlast:Bn0 src p ≠ 0→∃ k,Fy0 src p = some k∧k ≤ 1000) {A:Around} {fs X:List Addr} {s:Shared} {vs:List Value}
  (am:Amb w A fs X 2 s) (rv:RdAll (fz X s.heap) vs [.str src,.int p,.str msg]) :
  codeAny (MM w) A (.call (.ref 65) ⟨vs,[]⟩) (ErrEnd fs s (Qj0 src p msg)) s:=by
 have hvl:=rv.length
 have hsum:∀ ys:List Str,Cc0 src p = ys.foldl (· ++ ·) Str.empty→(ys.map Str.length).sum ≤ sizeLine:=fun ys e=>by
  have:=Cz0 ys Str.empty
  rw [← e] at this
  have h0:(Str.empty).length = 0:=rfl
  delta sizeLine; lia
 have e65:=am.wd.k 65 _ (show (KF w).lookup 65 = some _ from rfl)
 refine Ht0 (ps:=[oS "src",oS "pos",oS "msg"]) am e65 (codeRec_of am.wd.k (show codeIn (KF w) (.ref 64) (oS "suffixed_err") = true from rfl)) (by simpa using hvl) (BdAll.ofRd rv) ?_ (by decide) (by rfl) (by decide) (by rfl) ?_
 ·obtain ⟨v,u,t,rfl⟩:=Mw1 hvl
  exact BindsTo.of_eq rfl
 ·intro X' fs' L s1 c Q E _ ok S
  refine It1 ok S rfl rfl rfl rfl rfl rfl rfl rfl rfl rfl fun f c' oc ws t ctv doc pm s2 P e1 e2 p1 p2 S2=>?_
  have ok2:=ok.pins P
  refine Te0 (x:=Qj0 src p msg) ok2 S2 rfl ?_ fun e h1 t s' k S' hh3 hm=>?_
  ·refine Fg0 (ys:=[msg,oS " (at ",Cc0 src p,oS ")"]) ok2 (.cons (Mj0 ok2 (Aa0 ok2 rfl) ?_) (.cons Am0 (.cons (Mj0 ok2 (Td0 ok2 rfl p1 (Ab0 ok2 (Aa0 ok2 rfl) (Ab0 ok2 (Aa0 ok2 rfl) Ac0)) ?_) ?_) (.cons Am0 .nil)))) ?_
   ·delta sizeLine; exact Nat.le_trans ‹_› (by decide)
   ·intro s3 vs' S3 rv'
    have hvl':=rv'.length
    refine Ht0 (ps:=[oS "src",oS "pos"]) (lvl:=0) ((S3.amb ok2).down (Nat.le_of_ble_eq_true rfl)) (S3.pin _ p1) ⟨c',oc,ws,t,rfl,S3.pin _ p2,e1,e2⟩ (by simpa using hvl') (BdAll.ofRd rv') ?_ (by decide) (by rfl) (by decide) (by rfl) ?_
    ·obtain ⟨v,u,rfl⟩:=Hy1 hvl'
     exact BindsTo.of_eq rfl
    ·intro X3 fs3 L3 s4 c3 Q3 E3 _ ok3 S4
     refine Em0 (b:=decide ((src.length:Int) ≤ (p:Int))) ok3 S4 (Aq0 ok3 (Aa0 ok3 rfl) (Ca0 ok3 (Cy0 ok3 rfl) (Aa0 ok3 rfl) (by exact Nat.lt_of_le_of_lt ‹_› (by decide))) (Bq0 ok3 _) Lb1) ?_ ?_
     ·intro hb s5 S5
      refine Ax0 (d:=.str (Cc0 src p)) ok3 S5 ?_ fun v s' S' r=>⟨_,rfl,S'.since,r.mono (Ao0 (Dp0 ok3))⟩
      rw [show Cc0 src p = oS "end of document" by delta Cc0; rw [if_pos (by have:=of_decide_eq_true hb; exact Int.ofNat_le.mp ‹_›)]]
      exact Am0
     ·intro hb s5 S5
      have hlt:¬ src.length ≤ p:=by have:=of_decide_eq_false hb; simp_all
      refine wN ?_
      refine Ap0 (d:=.int ((Bn0 src p:Int) + 1)) ok3 S5 (Bi0 ok3 (Nt0 ok3 F.plainAttrs_str F.slot_str_count F.type_str_count (Aa0 ok3 rfl) (Ab0 ok3 Am0 (Ab0 ok3 Ar0 (Ab0 ok3 (Aa0 ok3 rfl) Ac0))) (Bq0 ok3 _) (fun s v p=>Wf0 s v p) ?_) Ar0) (.inl rfl) rfl rfl fun s6 S6=>?_
      ·intro s' v us Ss pv ru E'
       obtain ⟨t1,rfl⟩:=pv.str_inv
       obtain ⟨u1,u2,u3,rfl,q1,q2,q3⟩:=ru.three
       obtain ⟨t2,rfl⟩:=q1.str_inv; obtain ⟨t3,rfl⟩:=q2.int_inv; obtain ⟨t4,rfl⟩:=q3.int_inv
       refine Tb0 ⟨.toks _ _,?_⟩
       rw [Cd0,show fromIndex src.length 0 = 0 from Cd0 _ 0]
       exact .int _ _
      refine Em0 (b:=((Bn0 src p:Int) + 1 == 1)) ok3 S6 (Aq0 ok3 (Aa0 ok3 rfl) Ar0 (Bq0 ok3 _) Gp0) ?_ ?_
      ·intro hb1 s7 S7
       refine Ap0 (d:=.int ((p:Int) + 1)) ok3 S7 (Bi0 ok3 (Aa0 ok3 rfl) Ar0) (.inl rfl) rfl rfl fun s8 S8=>wN ?_
       refine Ax0 (d:=.str (Cc0 src p)) ok3 S8 ?_ fun v s' S' r=>⟨_,rfl,S'.since,r.mono (Ao0 (Dp0 ok3))⟩
       delta Cc0
       rw [if_neg hlt,if_pos hb1]
       refine Fg0 ok3 (.cons Am0 (.cons (Fs0 ok3 (Aa0 ok3 rfl) ?_) (.cons Am0 (.cons (Fs0 ok3 (Aa0 ok3 rfl) ?_) .nil)))) ?_
       ·exact Un0 (by exact Fp1 ‹_›)
       ·exact Un0 (by exact Fp1 ‹_›)
       ·exact hsum _ (by rw [Cc0,if_neg hlt,if_pos hb1])
      ·intro hb1 s7 S7
       obtain ⟨k,hk,hk1⟩:=hlast (by intro q; rw [q] at hb1; simp at hb1)
       refine Ap0 (d:=.int ((p:Int) - (k:Nat))) ok3 S7 (Wm0 ok3 (Aa0 ok3 rfl) (Nt0 ok3 F.plainAttrs_str F.slot_str_rindex F.type_str_rindex (Aa0 ok3 rfl) (Ab0 ok3 Am0 (Ab0 ok3 Ar0 (Ab0 ok3 (Aa0 ok3 rfl) Ac0))) (Bq0 ok3 _) (fun s v p=>Wf0 s v p) ?_)) (.inl rfl) rfl rfl fun s8 S8=>wN ?_
       ·intro s' v us Ss pv ru E'
        obtain ⟨t1,rfl⟩:=pv.str_inv
        obtain ⟨u1,u2,u3,rfl,q1,q2,q3⟩:=ru.three
        obtain ⟨t2,rfl⟩:=q1.str_inv; obtain ⟨t3,rfl⟩:=q2.int_inv; obtain ⟨t4,rfl⟩:=q3.int_inv
        refine Qi0 (k:=k) ?_ ⟨.toks _ _,.int _ _⟩
        rw [Cd0,show fromIndex src.length 0 = 0 from Cd0 _ 0]
        exact hk
       refine Ax0 (d:=.str (Cc0 src p)) ok3 S8 ?_ fun v s' S' r=>⟨_,rfl,S'.since,r.mono (Ao0 (Dp0 ok3))⟩
       delta Cc0
       rw [if_neg hlt,if_neg (by rw [hb1]; decide),hk]
       refine Fg0 ok3 (.cons Am0 (.cons (Fs0 ok3 (Aa0 ok3 rfl) ?_) (.cons Am0 (.cons (Fs0 ok3 (Aa0 ok3 rfl) ?_) .nil)))) ?_
       ·exact Un0 (by exact Fp1 ‹_›)
       ·show ((p:Int) - (k:Nat)).natAbs.log2 < 1920; exact Un0 (by lia)
       ·exact hsum _ (by rw [Cc0,if_neg hlt,if_neg (by rw [hb1]; decide),hk])
   ·delta sizeLine; exact Nat.le_trans ‹_› (by decide)
   ·show msg.length + (5 + ((Cc0 src p).length + (1 + 0))) ≤ sizeLine
    delta sizeLine; lia
  ·obtain ⟨s3,hh,k3⟩:=hh3
   subst hh
   have k0:=S2.since
   have k4:=Hq0 ok2 S2.since k3
   have k5:=Hq0 ok2 S2.since k
   refine ⟨e,s3.heap,t,rfl,k5,k4.keep,hm,?_,S'.toks,fun b hb hbt=>?_⟩
   rotate_left
   ·cases q:s.heap.get? b with
    | none=>rfl
    | some o=>obtain ⟨sl,e'⟩:=k4.slot b o q hbt; rw [hb] at e'; cases e'
   cases q:s.heap.get? e with
   | none=>rfl
   | some o =>
    by_cases h60:e = tA
    ·obtain ⟨tv,te,_⟩:=k4.tab am.tab
     rw [← h60,hm.new] at te; cases te
    ·obtain ⟨sl,e'⟩:=k4.slot e o q h60
     rw [hm.new] at e'; cases e'
end
theorem Uo0 {l:List Env} (x:FrOk l h):∀ {base:Heap},(∀ b ∈ l.filterMap (·.frame),base.get? b = none)→h.FunFrames base l:=by
 induction l with
 | nil=>intro _ _; trivial
 | cons env r ih =>
  intro base hb
  obtain ⟨a,L,o,e1,e2,⟨es,n,e3⟩,e4⟩:=x env (.head _)
  refine ⟨a,⟨L,o,e1,hb L (by rw [List.filterMap_cons,e1]; exact .head _),e2,fun vs q=>by rw [e3] at q; cases q⟩,ih (fun e he=>x e (.tail _ he)) fun b hm=>hb b ?_⟩
  rw [List.filterMap_cons,e1]; exact .tail _ hm
theorem Wn0 {M:Model} {outer:List Env} {L e:Addr} {oe:Obj} {vs:Array Value} {Q:Unit→Shared→Prop}
  (hfr:A.frames = some (env :: outer)) (hl:FrOk (env :: outer) s.heap) (hf:env.frame = some L) (he:s.heap.get? e = some oe) (hd:oe.data = .fields vs) (h1:vs[1]? = some .none)
  (h:∀ h' T ts,h'.get? e = some (oe.mapFields (·.setIfInBounds 1 (.ref T)))→h'.get? T = some { cls:=.type "traceback",dict:=none,data:=.fields ts }→ts[3]? = some (rawInt L)→s.heap.get? T = none →
   (∀ b o,b ≠ e→b ∉ (env :: outer).filterMap (·.frame)→s.heap.get? b = some o→h'.get? b = some o)→(∀ b o,b ≠ e→s.heap.get? b = some o→∃ sl,h'.get? b = some { o with slots:=sl })→Q () { s with heap:=h' }) :
  wpAny M A (noteFrame (.ref e) env) Q E s:=by
 have hl':s.heap.FunFrames (hideAll s.heap ((env :: outer).filterMap (·.frame))) (env :: outer):=Uo0 hl fun b hb=>hideAll_none _ hb
 have hsz:1 < vs.size:=(Array.getElem?_eq_some_iff.mp h1).1
 have hene:e ∉ (env :: outer).filterMap (·.frame):=fun hm=>by
  obtain ⟨_,o,ho,hnf⟩:=hl'.mem hm
  rw [he] at ho; injection ho with ho; subst ho; exact hnf vs hd
 delta noteFrame
 simp -iota only [hf]
 refine wB (wpAny_field he hd h1 ?_)
 rw [if_neg (by decide)]
 refine wB (wpAny_frameOf_fun hfr hl' hf fun h₁ hs₁=>?_)
 refine wB (wpAny_entryPlaceOf fun pl hpl=>?_)
 delta EntryCells.newEntry newFields
 refine wB (wpAny_newObj_type ?_ (hpl.sizeOk5 _ _ _ _ _))
 have he₁:h₁.get? e = some oe:=(hs₁.2.1 e hene).trans he
 have he₂:=Heap.get?_push_of_some (h:=h₁) { cls:=.type "traceback",dict:=none,data:=.fields ([Value.none,.ref L,.none,rawInt L,.none] ++ (if pl.isEmpty then List.replicate 6 Value.none else pl)).toArray } he₁
 refine wpAny_setField he₂ hd hsz ?_
 have hTe:h₁.objs.size ≠ e:=Nat.ne_of_gt (Heap.lt_size he₁)
 have hd₃:=Obj.data_mapFields hd (·.setIfInBounds 1 (Value.ref h₁.objs.size))
 have he₃:=Heap.get?_update_self (Obj.mapFields (·.setIfInBounds 1 (Value.ref h₁.objs.size))) he₂ (Obj.isFreed_of_fields hd₃)
 have hT₃:=(Heap.get?_update_other (h₁.push { cls:=.type "traceback",dict:=none,data:=.fields ([Value.none,.ref L,.none,rawInt L,.none] ++ (if pl.isEmpty then List.replicate 6 Value.none else pl)).toArray })
  (Obj.mapFields (·.setIfInBounds 1 (Value.ref h₁.objs.size))) (Ne.symm hTe)).trans (Heap.get?_push_size h₁ rfl)
 have keep:∀ b o,b ≠ e→h₁.get? b = some o →
   ((h₁.push { cls:=.type "traceback",dict:=none,data:=.fields ([Value.none,.ref L,.none,rawInt L,.none] ++ (if pl.isEmpty then List.replicate 6 Value.none else pl)).toArray }).update e (Obj.mapFields (·.setIfInBounds 1 (Value.ref h₁.objs.size)))).get? b = some o :=
  fun b o hbe hb=>by
   rw [Heap.get?_update_other _ _ (Ne.symm hbe)]
   exact Heap.get?_push_of_some _ hb
 refine h _ h₁.objs.size _ he₃ hT₃ (by first | (simp; done) | (rcases hpl with rfl | ⟨_,_,_,_,_,_,_,rfl⟩ <;> simp)) ?_ (fun b o hbe hbf e'=>keep b o hbe ((hs₁.2.1 b hbf).trans e')) fun b o hbe e'=>?_
 ·rw [hs₁.1]; exact Aj0 s.heap
 ·obtain ⟨sl,q⟩:=hs₁.2.2 b o e'
  exact ⟨sl,keep b _ hbe q⟩
theorem En0 {M:Model} {e T:Addr} {oe oT:Obj} {vs ts:Array Value} {Q:Unit→Shared→Prop}
  (he:s.heap.get? e = some oe) (hd:oe.data = .fields vs) (h1:vs[1]? = some (.ref T)) (hT:s.heap.get? T = some oT) (hdT:oT.data = .fields ts) (hs:3 < ts.size)
  (h:Q () { s with heap:=s.heap.update T (Obj.mapFields (·.setIfInBounds 3 .none)) }):wpAny M A (setFlight (.ref e) none) Q E s:=by
 delta setFlight
 refine wB (wpAny_field he hd h1 ?_)
 rw [if_pos (show (Value.ref T != Value.none) = true from by simp)]
 exact wpAny_setField hT hdT hs h
theorem Nv0:entryFor table "proto.unchain" = some Builtin.«proto.unchain»:=entryFor_of_tree (by kernel_rfl)
theorem Js0 {x y:Sem Value} {e0:Addr} (hh:A.handled = some (.ref e0)) (hy:∀ (Q:Value→Shared→Prop) (E:Value→Shared→Prop) s,Q .none s→wpAny (MM w) A y Q E s)
  (h:wpAny (MM w) A x (fun v s₁=>∃ e t oe0 vs0,v = .ref e∧e ≠ e0∧s₁.heap.get? 48 = some Gh0 ∧
   s₁.heap.get? e = some { cls:=.ref 48,data:=.fields #[.ref t,.none,.none,.none,.bool false,.none] }∧s₁.heap.get? e0 = some oe0∧oe0.data = .fields vs0∧vs0[2]? = some .none ∧
   ∀ h',h'.get? e = some { cls:=.ref 48,data:=.fields #[.ref t,.none,.ref e0,.none,.bool true,.none] }→Heap.SameBut e s₁.heap h'→E (.ref e) { s₁ with heap:=h' }) E s) :
  wpAny (MM w) A (raiseStmt env (some x) (some y)) Q E s:=by
 delta raiseStmt
 refine wB (wM h (fun v s₁ h₁=>?_) fun _ _ x=>x)
 obtain ⟨e,t,oe0,vs0,hQ86,hne,hC,he,he0,hd0,h2,hE⟩:=h₁; subst hQ86
 have hcB:(Value.ref 48 :: [.type "ValueError",.type "Exception",.type "BaseException",.type "object"]:List Value).contains (.type "BaseException") = true:=by decide
 have hexc:∀ (msg:String) (Q':Value→Shared→Prop),Q' (.ref e) s₁→wpAny (MM w) A (excFromValue (.ref e) msg) Q' E s₁:=by
  intro msg Q' hq
  obtain ⟨hp,g,d,tk,os⟩:=s₁
  delta excFromValue
  repeat (first | exact hq | with_reducible refine wpAny_loadPart_at he ?_ | with_reducible refine wpAny_loadPart_at hC ?_ | (with_reducible refine wpAny_isSubtype_exc hC ?_; rw [hcB]) | wp_step)
 refine wB (wpAny_holding (hy _ _ _ ?_))
 refine wB (wP ?_)
 dsimp only
 refine wB (wpAny_holding (hexc _ _ ?_))
 rw [if_pos (by decide)]
 refine wB (wP ?_)
 refine wB (wpAny_setField he rfl (by show 3 < 6; decide) ?_)
 have he1:=Heap.get?_update_self (Obj.mapFields (·.setIfInBounds 3 Value.none)) he rfl
 refine wB (wpAny_setField he1 rfl (by show 4 < 6; decide) ?_)
 have he2:=Heap.get?_update_self (Obj.mapFields (·.setIfInBounds 4 (Value.bool true))) he1 rfl
 simp -iota only [isType,loadHead]
 refine wB (wB (wpAny_loadPart he2 (wP ?_)))
 rw [if_neg (by intro q; cases q)]
 have h48:e ≠ 48:=fun q=>by rw [q,hC] at he; cases he
 have hs2:Heap.SameBut e s₁.heap ((s₁.heap.update e (Obj.mapFields fun x=>x.setIfInBounds 3 Value.none)).update e (Obj.mapFields fun x=>x.setIfInBounds 4 (Value.bool true))):=(Heap.SameBut.update ..).trans (Heap.SameBut.update ..)
 generalize ((s₁.heap.update e (Obj.mapFields fun x=>x.setIfInBounds 3 Value.none)).update e (Obj.mapFields fun x=>x.setIfInBounds 4 (Value.bool true))) = h2' at hs2 he2 ⊢
 have he2':h2'.get? e = some { cls:=.ref 48,data:=.fields #[.ref t,.none,.none,.none,.bool true,.none] }:=he2
 have hC2:h2'.get? 48 = some Gh0:=(hs2.2 48 (Ne.symm h48)).trans hC
 delta raisedInstance
 simp -iota only [typeOf]
 refine wB (wB (wB (wpAny_loadPart he2' (wP ?_))))
 dsimp only
 refine wB (wB (wpAny_loadPart hC2 (wP ?_)))
 rw [if_pos (by decide)]
 refine wP ?_
 delta setFlight
 refine wB (wB (wpAny_field he2' rfl (x:=.none) rfl ?_))
 rw [if_neg (by decide)]
 refine wP ?_
 delta raiseNew
 refine wB (wpAny_handled ?_)
 rw [hh]
 dsimp only
 rw [if_pos (by simpa using Ne.symm hne)]
 have he02:h2'.get? e0 = some oe0:=(hs2.2 e0 (Ne.symm hne)).trans he0
 refine wB (wpAny_holding (wpAny_runValue ?_))
 refine codeAny_builtin Nv0 ?_
 delta Builtin.«proto.unchain»
 dsimp only
 refine wB (wpAny_field he02 hd0 h2 ?_)
 rw [if_pos (by decide)]
 refine wP ?_
 refine wB ?_
 delta updateField
 refine wB (wpAny_load (s:=⟨h2',s₁.gens,s₁.drawn,s₁.toks,s₁.os⟩) he2' ?_)
 dsimp only
 rw [if_pos (by show 2 < 6; decide)]
 refine wpAny_update (s:=⟨h2',s₁.gens,s₁.drawn,s₁.toks,s₁.os⟩) he2' ?_
 refine wpAny_throw (hE _ (Heap.get?_update_self _ he2' rfl) (hs2.trans (Heap.SameBut.update ..)))
structure Thrown (fs:List Addr) (l:List Env) (s s':Shared) (e:Addr) (msg:Str):Prop where
 ex:∃ base t tk,Heap.FlyingW base l e (.ref 48) (.ref t) s'.heap∧s'.heap.TupAt t [.str msg tk]∧base.get? t = none∧(∀ b o,s.heap.get? b = some o→b ∉ fs→b ≠ tA→base.get? b = some o)∧TabOk base
 kp:Kp fs s s'
 toks:0 < s'.toks
 new:s.heap.get? e = none
theorem TabOk.hide (x:TabOk h) {as:List Addr} (ht:tA ∉ as) (hc:∀ a ∈ as,∀ o,h.get? a = some o→o.cls ≠ .type "code" ∨ ∀ ws,o.data ≠ .fields ws):TabOk (hideAll h as):=by
 obtain ⟨vs,e,q⟩:=x
 refine ⟨vs,hideAll_get _ e ht,q.imp id ?_⟩
 rintro ⟨l,k,c',e1,e2,e3,⟨o,ws,tt,f1,f2,f3,f4⟩,e5,e6⟩
 exact ⟨l,k,c',e1,e2,e3,⟨o,ws,tt,hideAll_get _ f1 fun hm=>(hc c' hm o f1).elim (fun q=>q f2) (fun q=>q _ f3),f2,f3,f4⟩,e5,e6⟩
theorem Qk0 {outer:List Env} {L e t:Addr} {v2 v4:Value} {msg:Str} {tk:Tok} {Q:Unit→Shared→Prop} (ok:CxOk c) (S:St c ρ s)
  (hfr:c.A.frames = some (env :: outer)) (hf:env.frame = some L) (hfs:∀ b ∈ outer.filterMap (·.frame),b ∈ c.fs0)
  (he:s.heap.get? e = some { cls:=.ref 48,data:=.fields #[.ref t,.none,v2,.none,v4,.none] }) (ht:s.heap.get? t = some { cls:=.type "tuple",data:=.seq #[.str msg tk] })
  (hne:c.s0.heap.get? e = none) (hnt:c.s0.heap.get? t = none)
  (hq:∀ s',Thrown c.fs0 outer c.s0 s' e msg→Q () s'):wpAny (MM c.w) c.A (leaving env (.ref e)) Q E s:=by
 have hl:=S.frs _ hfr
 have hcfs:∀ b ∈ (env :: outer).filterMap (·.frame),b ∈ c.fs:=by
  obtain ⟨l,h1,h2⟩:=ok.frames
  rw [hfr] at h1; cases h1; rw [h2]; exact fun b hb=>hb
 have het:e ≠ tA:=fun q=>by obtain ⟨vs,w,_⟩:=S.tab ok; rw [q,w] at he; cases he
 have htt:t ≠ tA:=fun q=>by obtain ⟨vs,w,_⟩:=S.tab ok; rw [q,w] at ht; cases ht
 have hXt:∀ b ∈ c.fs,b ≠ tA∧∃ o es n,s.heap.get? b = some o∧o.data = .dict es n:=by
  intro b hb
  obtain ⟨l,h1,h2⟩:=ok.frames
  rw [hfr] at h1; cases h1
  rw [h2] at hb
  obtain ⟨en,hen,hfe⟩:=List.mem_filterMap.mp hb
  obtain ⟨_,L',o,e1,e2,⟨es,n,e3⟩,e4⟩:=hl en hen
  rw [hfe] at e1; cases e1
  exact ⟨e4,o,es,n,e2,e3⟩
 let base:=hideAll s.heap (e :: t :: c.fs)
 have hkb:base.StaysIn s.heap:=fun b o q=>of_hideAll _ q
 have hff:s.heap.FunFrames base (env :: outer):=Uo0 hl fun b hb=>hideAll_none _ (.tail _ (.tail _ (hcfs b hb)))
 have htab:TabOk base:=(S.tab ok).hide (by
  intro q
  rcases List.mem_cons.mp q with q | q
  ·exact het q.symm
  ·rcases List.mem_cons.mp q with q | q
   ·exact htt q.symm
   ·exact (hXt _ q).1 rfl) (by
  intro a ha o eo
  rcases List.mem_cons.mp ha with q | q
  ·subst q; rw [he] at eo; cases eo; exact .inl (by intro w; cases w)
  ·rcases List.mem_cons.mp q with q | q
   ·subst q; rw [ht] at eo; cases eo; exact .inr (by intro ws w; cases w)
   ·obtain ⟨_,o',es,n,e1,e2⟩:=hXt a q
    rw [eo] at e1; cases e1
    exact .inr (by intro ws w; rw [e2] at w; cases w))
 have hsub:∀ b o,c.s0.heap.get? b = some o→b ∉ c.fs0→b ≠ tA→base.get? b = some o:=by
  intro b o eb h1 h2
  refine hideAll_get _ (S.since.keep b o eb h1 h2) fun hm=>?_
  rcases List.mem_cons.mp hm with q | q
  ·rw [q,hne] at eb; cases eb
  ·rcases List.mem_cons.mp q with q | q
   ·rw [q,hnt] at eb; cases eb
   ·rw [ok.new b q h1] at eb; cases eb
 refine wpAny_leaving_firstW (a0:=.ref t) hfr hff hf he hkb (hideAll_none _ (.head _)) rfl rfl rfl fun h' hL=>hq _ ⟨⟨base,t,tk,?_,?_,hideAll_none _ (.tail _ (.head _)),hsub,htab⟩,?_,S.toks,hne⟩
 ·obtain ⟨k1,⟨_,_,k2⟩,k3,k4⟩:=hL
  exact ⟨k1,hideAll_none _ (.head _),k2,k3⟩
 ·exact Heap.TupAt.of_slots ⟨_,_,ht,rfl,rfl⟩ hL.2.2.2
 ·obtain ⟨k1,_,_,k4⟩:=hL
  refine ⟨S.since.gens,S.since.os,fun b o eb h1 h2=>k1 b o (hsub b o eb h1 h2),fun b o eb h2=>?_,fun _=>htab.keeps k1⟩
  obtain ⟨sl,e'⟩:=S.since.slot b o eb h2
  by_cases hb:b ∈ c.fs0
  ·obtain ⟨_,o',es,n,e1,e2⟩:=hXt b (ok.fs0 b hb)
   rw [e'] at e1; cases e1
   obtain ⟨sl2,q⟩:=k4 b _ e' (by intro vs w; rw [e2] at w; cases w)
   exact ⟨sl2,q⟩
  ·exact ⟨o.slots,k1 b o (hsub b o eb hb h2)⟩
noncomputable abbrev Cx.mark (c:Cx) (e:Addr):Cx:={ c with A:=c.A.mark (some (.ref e)),lvl:=2 }
theorem CxOk.mark (ok:CxOk c) (e:Addr) (hl:Nat.ble 2 c.lvl = true):CxOk (c.mark e) :=
 { ok with
  hand:=fun q=>by cases q
  depth:=by have:=ok.depth; have:=Nat.ble_eq.mp hl; show c.A.depth + 2 ≤ 500; lia
  units:=by have:=ok.units; have:=Nat.ble_eq.mp hl; show c.A.units + 4 * 2 ≤ 3000; lia }
theorem St.mark (S:St c ρ s) (e:Addr):St (c.mark e) ρ s :=
 ⟨S.since,S.toks,S.frs,S.ns,S.cell,S.loc,S.has,S.own,S.raw,S.pin,S.pinx⟩
theorem St.unmark {e:Addr} (S:St (c.mark e) ρ s):St c ρ s :=
 ⟨S.since,S.toks,S.frs,S.ns,S.cell,S.loc,S.has,S.own,S.raw,S.pin,S.pinx⟩
theorem Ql0 {s1:Shared} {e:Addr} {ob:Obj} {vs:Array Value} {Q:Unit→Shared→Prop} (ok:CxOk c) (S:St c ρ s) {env:Env} {outer:List Env} {L:Addr} (hfr:c.A.frames = some (env :: outer)) (hf:env.frame = some L)
  (keeps:∀ b o,s.heap.get? b = some o→s1.heap.get? b = some o) (new:s.heap.get? e = none) (he:s1.heap.get? e = some ob) (hd:ob.data = .fields vs) (hv1:vs[1]? = some .none) (hv2:vs[2]? = some .none) (hg:s1.gens = s.gens) (ho:s1.os = s.os) (htk:0 < s1.toks)
  (hq:∀ s' oe vs T oT ts,Kp c.fs s s'→St c ρ s'→s'.heap.get? e = some oe→oe.cls = ob.cls→oe.data = .fields vs→vs[1]? = some (.ref T)→vs[2]? = some .none→s'.heap.get? T = some oT→oT.data = .fields ts→ts[3]? = some .none→T ≠ tA→Q () s') :
  wpAny (MM c.w) c.A (noteFrame (.ref e) env) (fun _ s'=>wpAny (MM c.w) c.A (setFlight (.ref e) none) Q E s') E s1:=by
 have k1:Kp c.fs s s1:=.of_all hg ho keeps
 have S1:=S.step ok k1 htk
 refine Wn0 hfr (S1.frs _ hfr) hf he hd hv1 fun h' T ts e1 e2 e3 e4 e5 e6=>?_
 have hcfs:∀ b ∈ (env :: outer).filterMap (·.frame),b ∈ c.fs:=by
  obtain ⟨l,h1,h2⟩:=ok.frames
  rw [hfr] at h1; cases h1; rw [h2]; exact fun b hb=>hb
 have hd1:=Obj.data_mapFields hd (·.setIfInBounds 1 (Value.ref T))
 have hTe:T ≠ e:=fun q=>by rw [q,he] at e4; cases e4
 have hTs:s.heap.get? T = none:=by
  cases q:s.heap.get? T with
  | none=>rfl
  | some o=>rw [keeps T o q] at e4; cases e4
 have hz1:1 < vs.size:=(Array.getElem?_eq_some_iff.mp hv1).1
 have hw1:(vs.setIfInBounds 1 (Value.ref T))[1]? = some (.ref T):=by simp [hz1]
 have hw2:(vs.setIfInBounds 1 (Value.ref T))[2]? = some .none:=by rw [Array.getElem?_setIfInBounds_ne (by decide)]; exact hv2
 refine En0 (T:=T) (s:={ s1 with heap:=h' }) e1 hd1 hw1 e2 rfl (Array.getElem?_eq_some_iff.mp e3).1 ?_
 have hother:∀ b,b ≠ T→(h'.update T (Obj.mapFields (·.setIfInBounds 3 Value.none))).get? b = h'.get? b:=fun b hb=>Heap.get?_update_other _ _ (Ne.symm hb)
 have hTT:=Heap.get?_update_self (Obj.mapFields (·.setIfInBounds 3 Value.none)) e2 (Obj.isFreed_of_fields (Obj.data_mapFields (o:={ cls:=.type "traceback",dict:=none,data:=.fields ts }) rfl _))
 have k2:Kp c.fs s { s1 with heap:=h'.update T (Obj.mapFields (·.setIfInBounds 3 Value.none)) }:=by
  have hne:∀ b o,s.heap.get? b = some o→b ≠ e∧b ≠ T:=fun b o eb=>⟨(fun q=>by rw [q,new] at eb; cases eb),(fun q=>by rw [q,hTs] at eb; cases eb)⟩
  have hkeep:∀ b o,s.heap.get? b = some o→b ∉ c.fs→(h'.update T (Obj.mapFields (·.setIfInBounds 3 Value.none))).get? b = some o:=fun b o eb hb =>
   (hother b (hne b o eb).2).trans (e5 b o (hne b o eb).1 (fun q=>hb (hcfs b q)) (keeps b o eb))
  refine ⟨hg,ho,fun b o eb h1 _=>hkeep b o eb h1,fun b o eb _=>?_,fun tab=>?_⟩
  ·obtain ⟨sl,q⟩:=e6 b o (hne b o eb).1 (keeps b o eb)
   exact ⟨sl,(hother b (hne b o eb).2).trans q⟩
  ·obtain ⟨vs,w1,w2⟩:=tab
   have hnf:∀ a o ws,s.heap.get? a = some o→o.data = .fields ws→a ∉ c.fs:=fun a o ws ea hda hm=>by
    obtain ⟨l,h1,h2⟩:=ok.frames
    rw [h2] at hm
    obtain ⟨en,hen,hfe⟩:=List.mem_filterMap.mp hm
    obtain ⟨_,L',o',q1,q2,⟨es,n,q3⟩,_⟩:=S.frs l h1 en hen
    rw [hfe] at q1; cases q1
    rw [ea] at q2; cases q2
    rw [hda] at q3; cases q3
   refine ⟨vs,hkeep _ _ w1 (hnf _ _ _ w1 rfl),w2.imp id ?_⟩
   rintro ⟨l,k,c',x1,x2,x3,⟨o,ws,tt,f1,f2,f3,f4⟩,x5,x6⟩
   exact ⟨l,k,c',x1,x2,x3,⟨o,ws,tt,hkeep _ _ f1 (hnf _ _ _ f1 f3),f2,f3,f4⟩,x5,x6⟩
 refine hq _ _ _ T _ _ k2 (S.step ok k2 htk) ((hother e (Ne.symm hTe)).trans e1) (Obj.cls_mapFields _ _) hd1 hw1 hw2 hTT (Obj.data_mapFields (o:={ cls:=.type "traceback",dict:=none,data:=.fields ts }) rfl _) ?_ (fun q=>by obtain ⟨tv,tw,_⟩:=S.tab ok; rw [q,tw] at hTs; cases hTs)
 have:=(Array.getElem?_eq_some_iff.mp e3).1
 simp [this]
theorem Cq1 {s1:Shared} {e:Addr} {X:String} {Q:Unit→Shared→Prop} (ok:CxOk c) (S:St c ρ s) {env:Env} {outer:List Env} {L:Addr} (hfr:c.A.frames = some (env :: outer)) (hf:env.frame = some L)
  (hx:Heap.NewExc s.heap s1.heap e X) (hg:s1.gens = s.gens) (ho:s1.os = s.os) (htk:0 < s1.toks)
  (hq:∀ s' oe vs T oT ts,Kp c.fs s s'→St c ρ s'→s'.heap.get? e = some oe→oe.cls = .type X→oe.data = .fields vs→vs[1]? = some (.ref T)→vs[2]? = some .none→s'.heap.get? T = some oT→oT.data = .fields ts→ts[3]? = some .none→T ≠ tA→Q () s') :
  wpAny (MM c.w) c.A (noteFrame (.ref e) env) (fun _ s'=>wpAny (MM c.w) c.A (setFlight (.ref e) none) Q E s') E s1:=by
 obtain ⟨ob,t,he,hc,hd⟩:=hx.there
 exact Ql0 ok S hfr hf hx.keeps hx.new he hd rfl rfl hg ho htk fun s' oe vs T oT ts h1 h2 h3 h4=>hq s' oe vs T oT ts h1 h2 h3 (h4.trans hc)
theorem Iw1:isSubtype (.type "ValueError") (.type "BaseException") = pure true:=by rw [isSubtype_type]; kernel_rfl
theorem Ix1:isSubtype (.type ((Manifest.find? "ValueError").elim "type" fun x=>x.metatype)) (.type "tuple") = pure false:=by
 first | (rw [isSubtype_type]; kernel_rfl) | (rw [Manifest.find?_eq_fast,isSubtype_type]; kernel_rfl) | rfl
theorem Lj1:isSubtype (.type "ValueError") (.type "ValueError") = pure true:=by rw [isSubtype_type]; kernel_rfl
theorem Qm0 {e T:Addr} {oe oT:Obj} {vs ts:Array Value} {hpos:Pos} {b₀:Stmt} {suite:List Stmt} {rest:List ExceptHandler} (ok:CxOk c) (S:St c ρ s) (hl:Nat.ble 2 c.lvl = true)
  (hx:c.env.kindOf (oS "ValueError") = some .globalImplicit)
  (he:s.heap.get? e = some oe) (hc:oe.cls = .type "ValueError") (hd:oe.data = .fields vs) (h1:vs[1]? = some (.ref T)) (h2:vs[2]? = some .none) (hT:s.heap.get? T = some oT) (hdT:oT.data = .fields ts) (h3:ts[3]? = some .none) (hTt:T ≠ tA)
  (hE:PassesOwnAt (MM c.w) (c.A.mark (some (.ref e))) c.A c.env E)
  (hq:∀ s',St ((c.mark e).pins fun p=>c.pin p ∨ p = (e,oe)) ρ s'→wpAny (MM ((c.mark e).pins fun p=>c.pin p ∨ p = (e,oe)).w) ((c.mark e).pins fun p=>c.pin p ∨ p = (e,oe)).A (execs (b₀ :: suite) ((c.mark e).pins fun p=>c.pin p ∨ p = (e,oe)).env) Q E s') :
  wpAny (MM c.w) c.A (handleBy (.ref e) c.env (.ExceptHandler (some (.Name (oS "ValueError") np)) none (b₀ :: suite) hpos :: rest)) Q E s:=by
 refine wpAny_handleBy_builtin (X := "ValueError") (b:=true) Iw1 Ix1 Lj1 ?_
 have okm:=ok.mark e hl
 have Sm:=S.mark e
 refine Ad0 okm (Pv0 okm hx) Sm (.refl _ _) fun v s1 S1 k1 _ hv=>?_
 have het:e ≠ tA:=fun q=>by obtain ⟨tv,tw,_⟩:=S.tab ok; rw [q,tw] at he; cases he; cases hc
 have hnf:∀ a o ws,s.heap.get? a = some o→o.data = .fields ws→a ∉ c.fs:=fun a o ws ea hda hm=>by
  obtain ⟨l,h1,h2⟩:=ok.frames
  rw [h2] at hm
  obtain ⟨en,hen,hfe⟩:=List.mem_filterMap.mp hm
  obtain ⟨_,L',o',q1,q2,⟨es,n,q3⟩,_⟩:=S.frs l h1 en hen
  rw [hfe] at q1; cases q1
  rw [ea] at q2; cases q2
  rw [hda] at q3; cases q3
 have he1:=k1.keep e oe he (hnf _ _ _ he hd) het
 have hT1:=k1.keep T oT hT (hnf _ _ _ hT hdT) hTt
 refine ⟨hv,⟨oe,he1,hc⟩,?_⟩
 rw [if_pos rfl]
 refine En0 he1 hd h1 hT1 hdT (Array.getElem?_eq_some_iff.mp h3).1 ?_
 rw [Heap.update_setField_same _ _ _ _ _ _ hT1 hdT h3]
 refine wpAny_passesOwnAt hE (hq _ (S1.pins _ (fun p hp=>hp.elim (fun q=>S1.pin p q) (fun q=>by subst q; exact he1)) fun p hp=>hp.elim (fun q=>S1.pinx p q) fun q=>?_))
 subst q
 intro hm
 obtain ⟨o,eo,nf⟩:=S1.has e hm
 rw [he1] at eo; cases eo
 rcases nf with q | q
 ·exact het q
 ·exact q _ hd
noncomputable abbrev sK (w:World):KeyKind PG w Str:=PySem.strKind PG w
section
variable {S:Str→Bool} {n:Nat} {t:Tok}
theorem Jt0 {Q:Bool→Shared→Prop} (hS:FrozAt (sK w) s.heap a S n) (hb:n < 4096) (hq:∀ tk,s.toks ≤ tk→Q (S k) { s with toks:=tk }):wpAny (MM w) A (setContains a (.str k t)) Q E s:=by
 obtain ⟨es,ep,tb,ho,hel,hmem,hn,hf⟩:=hS
 delta setContains
 have hkey:(sK w).is k (.str k t) = true:=by show Value.isStrOf k (.str k t) = true; simp [Value.isStrOf]
 refine wpAny_holding (wB ((sK w).pyHash hkey ?_))
 refine wB (setFind_any (knd:=sK w) (s:={ s with toks:=s.toks + 1 }) hkey rfl ho rfl hel hmem (by rw [hn]; exact hb) hf fun r hr=>?_)
 rw [hr]
 exact wP (hq _ (Nat.le_succ _))
theorem Fz0:entryFor table "frozenset.isdisjoint.loop" = some Builtin.«frozenset.isdisjoint.loop»:=entryFor_of_tree (by kernel_rfl)
theorem Ds0 {as:Args}:(Code.builtin "frozenset.isdisjoint.loop" as).quiet = true:=Code.quiet_builtin _ (by decide +kernel)
theorem Ym0 {fp:List Addr} {P:Nat→Value→Prop} {ST:Nat→Heap→Prop} {h0:Heap} (haI:a ≠ I) (hb:n < 4096)
  (W:∀ A':Around,A'.handled = A.handled→Walks PG w A' I fp [I] ys.length P ST) (hfp:∀ b ∈ fp,b = I) (hP:∀ i v,i < ys.length→P i v→∃ y u,ys[i]? = some y∧v = .str y u)
  (hS:FrozAt (sK w) h0 a S n) (hI0:h0.get? I = none)
  (hR:∀ s':Shared,(∀ b o,h0.get? b = some o→s'.heap.get? b = some o)→s'.gens = s.gens→s'.os = s.os→s.toks ≤ s'.toks→R (.ok (.ret (.bool (!(ys.any S))))) s') :
  ∀ (m i:Nat) (s':Shared),m = ys.length - i→i ≤ ys.length→(∀ y ∈ ys.take i,S y = false)→ST i s'.heap→(∀ b o,h0.get? b = some o→s'.heap.get? b = some o)→s'.gens = s.gens→s'.os = s.os→s.toks ≤ s'.toks →
   codeAny (MM w) A (.builtin "frozenset.isdisjoint.loop" ⟨[.ref a,.ref I],[]⟩) R s':=by
 intro m
 induction m with
 | zero =>
  intro i s' hm hi hno st hk hg ho ht
  have hin:i = ys.length:=by grind
  subst hin
  refine codeAny_builtin Fz0 ?_
  delta Builtin.«frozenset.isdisjoint.loop»
  dsimp only
  refine wB (wpAny_with_toks (n:=s'.toks) (Nat.le_refl _) ((W (A.under _) rfl).done s' _ _ st fun h' tk hk'=>?_))
  intro htk
  dsimp only
  have hany:ys.any S = false:=by
   rw [List.any_eq_false]; intro y hy; rw [List.take_length] at hno; rw [hno y hy]; decide
  have hR':=hR { s' with heap:=h',toks:=tk } (fun b o e=>hk' b o (by
   rw [List.mem_singleton]; intro q; rw [q,hI0] at e; cases e) (hk b o e)) hg ho (Nat.le_trans ht htk)
  rw [hany] at hR'
  exact wP hR'
 | succ m ih =>
  intro i s' hm hi hno st hk hg ho ht
  have hlt:i < ys.length:=by grind
  refine codeAny_builtin Fz0 ?_
  delta Builtin.«frozenset.isdisjoint.loop»
  dsimp only
  refine wB (wpAny_with_toks (n:=s'.toks) (Nat.le_refl _) ((W (A.under _) rfl).item i s' _ _ hlt st fun v h' tk hPv st' hk'=>?_))
  intro htk
  obtain ⟨y,u,hy,hQ87⟩:=hP i v hlt hPv; subst hQ87
  dsimp only
  have hk2:∀ b o,h0.get? b = some o→h'.get? b = some o:=fun b o e=>hk' b o (by
   rw [List.mem_singleton]; intro q; rw [q,hI0] at e; cases e) (hk b o e)
  have hS':FrozAt (sK w) h' a S n:=by
   obtain ⟨es,ep,tb,q1,q2⟩:=hS
   exact ⟨es,ep,tb,hk2 _ _ q1,q2⟩
  refine wB (wpAny_holding (Jt0 (s:={ s' with heap:=h',toks:=tk }) hS' hb fun tk2 htk2=>?_))
  cases hSy:S y with
  | true =>
   rw [if_pos rfl]
   have hany:ys.any S = true:=List.any_eq_true.mpr ⟨y,List.mem_of_getElem? hy,hSy⟩
   have hR':=hR { s' with heap:=h',toks:=tk2 } hk2 hg ho (Nat.le_trans ht (Nat.le_trans htk htk2))
   rw [hany] at hR'
   exact wP hR'
  | false =>
   rw [if_neg (by decide)]
   refine wP ⟨Ds0,ih (i + 1) { s' with heap:=h',toks:=tk2 } (by grind) hlt (fun z hz=>?_) st' hk2 hg ho (Nat.le_trans ht (Nat.le_trans htk htk2))⟩
   rw [List.take_add_one,hy] at hz
   rcases List.mem_append.mp hz with q | q
   ·exact hno z q
   ·rw [show z = y by simpa using q]; exact hSy
theorem Dt0:PySem.Slot "frozenset" "isdisjoint" "frozenset.isdisjoint" :=
 .of (owner := "frozenset") (n := "isdisjoint") (by rw [typeLookup_type,builtinLookup_eq_fast]; kernel_rfl) (by decide +kernel) (by decide +kernel) (by decide +kernel)
  (by first | exact .inl (by decide +kernel) | exact .inr (by decide +kernel)) (by rw [isSubtype_type]; kernel_rfl)
theorem Lm0:typeOf (.builtin "frozenset.isdisjoint") = pure (.type "method_descriptor"):=by show builtinType _ = _; rw [builtinType_eq_fast]; kernel_rfl
theorem Ju0:entryFor table "frozenset.isdisjoint" = some Builtin.«frozenset.isdisjoint»:=entryFor_of_tree (by kernel_rfl)
theorem Ln0 (a b:Value):argsOk "frozenset.isdisjoint" ⟨[a,b],[]⟩:=by
 delta argsOk; rw [signature?_of (id := "frozenset.isdisjoint") (n:=['t','n','i','o','j','s','i','d','s','i']) (o:=['t','e','s','n','e','z','o','r','f']) (by kernel_rfl) PySem.W.FB.owner_frozenset]; kernel_rfl
theorem Wo0:PlainAttrs "frozenset" :=
 ⟨⟨"object.__getattribute__",by rw [typeLookup_type,builtinLookup_eq_fast]; kernel_rfl,by decide +kernel⟩,by rw [typeLookup_type,builtinLookup_eq_fast]; kernel_rfl⟩
theorem Yn0 {u:Tok} {Q:Value→Shared→Prop} (hh:A.handled = none) (hS:FrozAt (sK w) s.heap a S n) (hb:n < 4096)
  (hq:∀ s':Shared,(∀ b o,s.heap.get? b = some o→s'.heap.get? b = some o)→s'.gens = s.gens→s'.os = s.os→s.toks ≤ s'.toks→Q (.bool (!((Bc0 y).any S))) s') :
  wpAny (MM w) A (call (.builtin "frozenset.isdisjoint") [.ref a,.str y u]) Q E s:=by
 obtain ⟨es,ep,tb,ho,hrest⟩:=id hS
 have hT:s.TypeIs (.ref a) "frozenset" := ⟨_,ho,rfl⟩
 refine wpAny_call (codeAny_call_builtin Dt0.plain Ju0 (Dt0.check _ _ _ _ _ _ _ _ hT (Ln0 _ _) ?_))
 delta Builtin.«frozenset.isdisjoint» Builtin.Frozenset.oneOther
 conv=>arg 3; simp only [List.isEmpty_nil,bind_assoc]
 delta Builtin.Frozenset.addrOf
 refine wB (wP ?_)
 refine wB (wP ?_)
 dsimp only
 rw [if_neg (by intro q; cases q)]
 refine wB (wpAny_of_eq (a:=.type "str") rfl ?_)
 rw [if_neg (by decide)]
 have haI:a ≠ s.heap.objs.size:=Nat.ne_of_lt (Heap.lt_size ho)
 have hlen:y.cps.size = (Bc0 y).length:=by simp [Bc0]
 have hit:∀ i v,i < (Bc0 y).length→SignAt y i v→∃ z t,(Bc0 y)[i]? = some z∧v = .str z t:=by
  intro i v _ hv
  obtain ⟨cc,t,e,hv⟩:=hv
  exact ⟨⟨#[cc]⟩,t,by simp [Bc0,List.getElem?_map,Array.getElem?_toList,e],hv⟩
 have hfin:∀ (o:Obj) (P:Nat→Value→Prop) (ST:Nat→Heap→Prop),o.isFreed = false→(∀ A':Around,A'.handled = A.handled→Walks PG w A' s.heap.objs.size [s.heap.objs.size] [s.heap.objs.size] (Bc0 y).length P ST) →
   (∀ i v,i < (Bc0 y).length→P i v→∃ z t,(Bc0 y)[i]? = some z∧v = .str z t)→ST 0 (s.heap.push o) →
   codeAny (MM w) A (.builtin "frozenset.isdisjoint.loop" ⟨[.ref a,.ref s.heap.objs.size],[]⟩) (fun r s'=>∃ v,r = .ok (.ret v)∧Q v s') { s with heap:=s.heap.push o }:=by
  intro o P ST hf W hP st
  refine Ym0 (S:=S) (n:=n) (s:=s) (h0:=s.heap) haI hb W (fun b hb=>by simpa using hb) hP hS (Aj0 _) (fun s' h1 h2 h3 h4=>⟨_,rfl,hq s' h1 h2 h3 h4⟩) _ 0 _ rfl (Nat.zero_le _) (fun z hz=>by cases hz) st (fun b o e=>Heap.get?_push_of_some _ e) rfl rfl (Nat.le_refl _)
 cases ha:y.cps.all (· < 128) with
 | false =>
  refine wB (wpAny_pyIter_wide ha (wP ⟨Ds0,codeAny_mono (hfin _ (SignAt y) (fun i h=>h.IsStrIter s.heap.objs.size "str_iterator" y u i) rfl (fun A' hA'=>by rw [← hlen]; exact Walks.strWide (hA'.trans hh) _ y u) hit (by exact ⟨_,Heap.get?_push_size _ rfl,rfl,rfl⟩)) fun r s' hr=>?_⟩))
  obtain ⟨v,hQ88,h⟩:=hr; subst hQ88
  exact h
 | true =>
  refine wB (wpAny_pyIter_ascii ha (wP ⟨Ds0,codeAny_mono (hfin _ (SignAt y) (fun i h=>h.IsStrIter s.heap.objs.size "str_ascii_iterator" y u i) rfl (fun A' hA'=>by rw [← hlen]; exact Walks.strAscii (hA'.trans hh) _ y u) hit (by exact ⟨_,Heap.get?_push_size _ rfl,rfl,rfl⟩)) fun r s' hr=>?_⟩))
  obtain ⟨v,hQ89,h⟩:=hr; subst hQ89
  exact h
end
section
variable {S:Str→Bool} {n:Nat} {t:Tok}
theorem Yo0 {Q:Value→Shared→Prop} (hS:FrozAt (sK w) s.heap a S n) (hb:n < 4096) (h:Q (.bool (!S k)) { s with toks:=s.toks + 1 }):wpAny (MM w) A (compareOp .NotIn (.str k t) (.ref a)) Q E s:=by
 obtain ⟨es,ep,tb,ho,hel,hmem,hn,hf⟩:=hS
 have hkey:(sK w).is k (.str k t) = true:=by show Value.isStrOf k (.str k t) = true; simp [Value.isStrOf]
 have hT:s.TypeIs (.ref a) "frozenset" := ⟨_,ho,rfl⟩
 show wpAny _ _ (do return .bool (!(← contains (.ref a) (.str k t)))) Q E s
 refine wB ?_
 delta contains
 try with_reducible refine wpAny_holding ?_
 refine wB (wpAny_specialOf hT FB.slot_frozenset_contains.lookup ?_)
 show wpAny _ _ (if (some (Value.builtin "frozenset.__contains__") == some Value.none) = true then _ else _) _ E s
 rw [if_neg (by rw [beq_builtin_none]; exact Bool.false_ne_true)]
 refine wB (wpAny_callSpecialUnlessNone?_slot (name:=oS "__contains__") hT FB.slot_frozenset_contains
  (wpAny_call_entry FB.slot_frozenset_contains hT FB.entry_frozenset_contains ?_ (FB.args_frozenset_contains_2 _ _)))
 delta Builtin.«frozenset.__contains__» Builtin.Frozenset.oneOther
 conv=>arg 3; simp only [List.isEmpty_nil,bind_assoc]
 delta Builtin.Frozenset.addrOf Builtin.Frozenset.withSetAsKey setContains
 refine wB (wP ?_)
 try dsimp only
 refine wB (wP ?_)
 try dsimp only
 refine wB (wpAny_tryCatch ?_)
 refine wpAny_holding ?_
 refine wB ((sK w).pyHash hkey ?_)
 refine wB (setFind_any (knd:=sK w) (s:={ s with toks:=s.toks + 1 }) hkey rfl ho rfl hel hmem (by rw [hn]; exact hb) hf fun r hr=>?_)
 refine wP ?_
 show wpAny _ _ (ret (Value.bool r.isSome)) _ _ _
 rw [hr]
 exact wP ⟨_,rfl,wpAny_truthy_bool (wP h)⟩
end
section
open PySem.Builtin PySem.Builtin.Str
theorem RdAll.two {us:List Value} {a b:PyData} (r:RdAll g us [a,b]):∃ u v,us = [u,v]∧Rd g u a∧Rd g v b:=by
 cases r with | cons r1 r=>cases r with | cons r2 r=>cases r; exact ⟨_,_,rfl,r1,r2⟩
theorem Tf0 {e1 e2:Expr} {i:Int} {tgt:Str} (ok:CxOk c) (S:St c ρ s) (h1:EvD c ρ o (.str x)) (h2:Fb0 c ρ [e1,e2] [.str y,.int i])
  (hh:c.A.handled = none) (hno:occurrences x y (fromIndex x.length i) x.length 1 = [])
  (hE:∀ s1 s2 e,St c ρ s1→Heap.NewExc s1.heap s2.heap e "ValueError" → s2.gens = s1.gens→s2.os = s1.os→0 < s2.toks→E (.ref e) s2)
  (hs:swapsWith (.Call (.Attribute o (oS "index") apos) [e1,e2] [] cpos) (some (.Name tgt np)) pos.line c.env = pure false:=by rfl)
  (hbase:attributeBase o (oS "index") c.env (eval o c.env) = eval o c.env:=by rfl) (he:starEach [e1,e2] c.env = [(false,eval e1 c.env),(false,eval e2 c.env)]:=by rfl)
  (hline:(apos.endLine == cpos.line) = true:=by rfl) :
  wpAny (MM c.w) c.A (execs (.Assign [.Name tgt np] (.Call (.Attribute o (oS "index") apos) [e1,e2] [] cpos) pos :: rest) c.env) Q E s:=by
 refine wC (wpAny_Assign_Name ?_ hs)
 refine wpAny_Call_method_lateS hbase (by rw [he]; rfl) hline (Ad0 ok h1 S (.refl _ _) fun v s1 S1 k1 _ p=>?_)
 obtain ⟨t,hQ90⟩:=p.str_inv; subst hQ90
 refine ⟨"str", "str.index",F.plainAttrs_str,F.slot_str_index,F.type_str_index,typeIs_str _ _ _,(fun b q=>by cases q),?_⟩
 have hp:∀ Q,wpAny (MM c.w) c.A (spliced (backTo cpos (starEach [e1,e2] c.env))) (fun vs s'=>Q ⟨vs,[]⟩ s') E s1→wpAny (MM c.w) c.A (evalArgs (.builtin "str.index") true (backTo cpos (starEach [e1,e2] c.env)) []) Q E s1:=by
  intro Q hq; rw [he] at hq ⊢; exact evalArgs_plain hq
 refine callWith_builtin (by rw [he]; rfl) (hp _ (Bj0 ok h2 S1 k1 fun us s2 S2 k2 k2' p2=>?_))
 obtain ⟨u1,u2,hQ91,q1,q2⟩:=p2.two; subst hQ91
 obtain ⟨t1,hQ92⟩:=q1.str_inv; subst hQ92; obtain ⟨t2,hQ93⟩:=q2.int_inv; subst hQ93
 refine wpAny_with_toks (n:=1) S2.toks (Ll0 hh hno fun h' tk e hx ht=>?_)
 exact hE s2 { s2 with heap:=h',toks:=tk } e S2 hx rfl rfl ht
theorem Iy1 {hd:ExceptHandler} {hs:List ExceptHandler} (K:Shared→Prop)
  (hbody:wpAny (MM c.w) c.A (execs body c.env) (fun f s₁=>f = .next∧K s₁) (fun e s₁=>wpAny (MM c.w) c.A (noteFrame e c.env) (fun _ s₂=>wpAny (MM c.w) c.A (setFlight e none) (fun _ s₃=>wpAny (MM c.w) c.A (handleBy e c.env (hd :: hs)) (fun f s₄=>f = .next∧K s₄) E s₃) E s₂) E s₁) s)
  (hrest:∀ s',K s'→wpAny (MM c.w) c.A (execs rest c.env) Q E s'):wpAny (MM c.w) c.A (execs (.Try body (hd :: hs) [] [] pos :: rest) c.env) Q E s:=by
 refine wC (wpAny_Try_except (wM hbody (fun f s₁ h₁=>?_) fun e s₁ h₁=>?_))
 ·obtain ⟨hQ94,hk⟩:=h₁; subst hQ94
  exact wN (hrest s₁ hk)
 ·refine wM h₁ (fun _ s₂ h₂=>wM h₂ (fun _ s₃ h₃=>wM h₃ (fun f s₄ h₄=>?_) fun _ _ x=>x) fun _ _ x=>x) fun _ _ x=>x
  obtain ⟨hQ95,hk⟩:=h₄; subst hQ95
  exact hrest s₄ hk
theorem Lk1 (w:World):∃ oc od fd osl,(KF w).lookup 65 = some ⟨oc,od,.func fd,osl⟩:=⟨_,_,_,_,rfl⟩
theorem Up0 {e1:Expr} {src msg:Str} {p:Nat} {Q:Value→Shared→Prop} (ok:CxOk c) (S:St c ρ s) (hl:Nat.ble 2 c.lvl = true) (hx:c.env.kindOf (oS "suffixed_err") = some .globalImplicit)
  (ha:Fb0 c ρ (e1 :: es) [.str src,.int p,.str msg]) (hs:src.length ≤ 1000) (hp:p ≤ 1000) (hm:msg.length ≤ 100000) (hcl:(Cc0 src p).length ≤ 100000) (hna:Bn0 src p ≤ 1000) (hlast:Bn0 src p ≠ 0→∃ k,Fy0 src p = some k∧k ≤ 1000)
  (hq:∀ e t tk s',Kp c.fs s s'→St c ρ s'→s'.heap.get? e = some { cls:=.ref 48,data:=.fields #[.ref t,.none,.none,.none,.bool false,.none] }→s'.heap.get? t = some { cls:=.type "tuple",data:=.seq #[.str (Qj0 src p msg) tk] } →
   s.heap.get? e = none→s.heap.get? t = none→Q (.ref e) s')
  (he:starEach (e1 :: es) c.env = (false,eval e1 c.env) :: starEach es c.env:=by rfl):wpAny (MM c.w) c.A (eval (.Call (.Name (oS "suffixed_err") np) (e1 :: es) [] pos) c.env) Q E s:=by
 obtain ⟨oc,od,fd,osl,h65⟩:=Lk1 c.w
 refine wpAny_Call_NameR (Ad0 ok (Bp0 ok (Lk0 _) hx) S (.refl _ _) fun u s1 S1 k1 _ hu=>?_)
 subst hu
 have hp':∀ Q,wpAny (MM c.w) c.A (spliced (backTo pos (starEach (e1 :: es) c.env))) (fun vs s'=>Q ⟨vs,[]⟩ s') E s1→wpAny (MM c.w) c.A (evalArgs (.ref 65) true (backTo pos (starEach (e1 :: es) c.env)) []) Q E s1:=by
  intro Q hq; rw [he] at hq ⊢; exact evalArgs_plain hq
 refine callWith_function (o:=⟨oc,od,.func fd,osl⟩) (fd:=fd) (hp' _ (Bj0 ok ha S1 k1 fun vs s2 S2 k2 k2' r=>?_))
 refine ⟨⟨S2.kf ok h65 (by decide) (by decide),rfl⟩,wpAny_call (codeAny_mono (Iv1 c.w src msg p hs hp hm hcl hna hlast ((S2.amb ok).down (Nat.ble_eq.mp hl)) r) fun rr s3 hh=>?_)⟩
 obtain ⟨e,h1,t,e0,k3,kh,hmade,hen,htk,hfresh⟩:=hh
 subst e0
 obtain ⟨ta,w1,w2,w3⟩:=hmade.there
 have S3:=S2.step ok k3 htk
 have hback:∀ b,s2.heap.get? b = none→b ≠ tA→s.heap.get? b = none:=fun b hb hbt=>by
  cases q:s.heap.get? b with
  | none=>rfl
  | some o=>obtain ⟨sl,e'⟩:=k2'.slot b o q hbt; rw [hb] at e'; cases e'
 have het:e ≠ tA:=fun q=>by obtain ⟨tv,te,_⟩:=S3.tab ok; rw [← q,w1] at te; cases te
 have htt:ta ≠ tA:=fun q=>by obtain ⟨tv,te,_⟩:=S3.tab ok; rw [← q,w3] at te; cases te
 exact hq e ta t s3 (k2'.trans k3) S3 w1 w3 (hback e hen het) (hback ta (hfresh ta w2 htt) htt)
end
section
open PySem.Builtin PySem.Builtin.Str
theorem Cr1 {test:Expr} (Inv:Nat→Shared→Prop) (K:Shared→Prop) (n:Nat) (h0:Inv n s)
  (turn:∀ n s,Inv n s→wpAny (MM c.w) c.A (isTrue test c.env (eval test c.env)) (fun b s2=>if b = true then wpAny (MM c.w) c.A (execs body c.env) (fun f s3=>match f with
    | .next | .cont=>∃ m,m < n∧Inv m s3 | .brk=>K s3 | .ret v=>Q (.ret v) s3) (fun _ _=>False) s2 else K s2) (fun _ _=>False) s)
  (hrest:∀ s',K s'→wpAny (MM c.w) c.A (execs rest c.env) Q E s'):wpAny (MM c.w) c.A (execs (.While test body [] pos :: rest) c.env) Q E s:=by
 refine wC (wpAny_While (codeAny_whileLoop Inv (fun n s hI=>wM (turn n s hI) (fun b s2 h2=>?_) fun _ _ x=>x.elim) n h0))
 cases b with
 | true =>
  simp only [if_true] at h2 ⊢
  refine wM h2 (fun f s3 h3=>?_) fun _ _ x=>x.elim
  cases f with
  | next=>exact h3
  | cont=>exact h3
  | brk=>exact hrest s3 h3
  | ret v=>exact h3
 | false =>
  simp only [Bool.false_eq_true,if_false] at h2 ⊢
  exact wN (hrest s2 h2)
theorem Cs1 {x:Expr} (hh:c.A.handled = none)
  (h:wpAny (MM c.w) c.A (eval x c.env) (fun v s₁=>∃ e t,v = .ref e∧s₁.heap.get? 48 = some Gh0∧s₁.heap.get? e = some { cls:=.ref 48,data:=.fields #[.ref t,.none,.none,.none,.bool false,.none] }∧E (.ref e) s₁) E s) :
  wpAny (MM c.w) c.A (execs (.Raise (some x) none pos :: rest) c.env) Q E s:=by
 refine wC ?_
 rw [arm_exec_Raise]
 exact wB (wpAny_standAt (wpAny_raiseStmt_made_sub (by decide) hh (wB (wM h (fun v s₁ h₁=>wB (wpAny_standAt (wP h₁))) fun _ _ x=>x))))
theorem Nw0 {x:Expr} {k:Nat} {e0:Addr} (hh:c.A.handled = some (.ref e0))
  (h:wpAny (MM c.w) c.A (eval x c.env) (fun v s₁=>∃ e t oe0 vs0,v = .ref e∧e ≠ e0∧s₁.heap.get? 48 = some Gh0 ∧
   s₁.heap.get? e = some { cls:=.ref 48,data:=.fields #[.ref t,.none,.none,.none,.bool false,.none] }∧s₁.heap.get? e0 = some oe0∧oe0.data = .fields vs0∧vs0[2]? = some .none ∧
   ∀ h',h'.get? e = some { cls:=.ref 48,data:=.fields #[.ref t,.none,.ref e0,.none,.bool true,.none] }→Heap.SameBut e s₁.heap h'→E (.ref e) { s₁ with heap:=h' }) E s) :
  wpAny (MM c.w) c.A (execs (.Raise (some x) (some (.Constant .none k np)) pos :: rest) c.env) Q E s:=by
 refine wC ?_
 rw [arm_exec_Raise]
 exact wB (wpAny_standAt (Js0 hh (fun Q E s hq=>wB (wpAny_Constant_none (wB (wpAny_standAt (wP hq))))) (wB (wM h (fun v s₁ h₁=>wB (wpAny_standAt (wP h₁))) fun _ _ x=>x))))
theorem Wp0 {a b:Int} (ok:CxOk c) (S:St c ρ s) (hl:ρ.lookup x = some (.val (.int a))) (h:EvD c ρ e (.int b))
  (hx:c.env.kindOf x = some .local ∨ (c.env.kindOf x = some .cell∧(c.env.cells.lookup x).isSome = true∧c.cn.contains x = true)) (hcd:(x == ("__classdict__" : Str)) = false)
  (hr:∀ s',St c ((x,.val (.int (a + b))) :: ρ) s'→wpAny (MM c.w) c.A (execs rest c.env) Q E s') (hd:(x == ("__debug__" : Str)) = false:=by rfl) :
  wpAny (MM c.w) c.A (execs (.AugAssign (.Name x pos') .Add e pos :: rest) c.env) Q E s:=by
 refine wC (wpAny_AugAssign_Name ?_)
 obtain ⟨v,y,r⟩:=S.loc x _ hl
 have key:wpAny (MM c.w) c.A (eval e c.env) (fun u s2=>wpAny (MM c.w) c.A (inplaceOp .Add v u) (fun r s3=>wpAny (MM c.w) c.A (storeName c.env x r) (fun _ s'=>wpAny (MM c.w) c.A (execs rest c.env) Q E s') E s3) E s2) E s:=by
  refine Ad0 ok h S (.refl _ _) fun u s2 S2 k2 _ p2=>?_
  obtain ⟨t,hQ96⟩:=r.int_inv; subst hQ96; obtain ⟨t',hQ97⟩:=p2.int_inv; subst hQ97
  refine iadd_int ?_
  exact (S2.step ok (.toks _ _) (Nat.succ_pos _)).store ok hx hcd (.int _ _) fun s' S' _ _=>hr s' S'
 rcases y with ⟨a,m,n,e⟩ | ⟨a,a',cc,e,n⟩
 ·exact wpAny_loadName_local ok.kind a n e key
 ·rcases a with a | a
  ·exact wpAny_loadName_cell ok.kind a e n key
  ·exact wpAny_loadName_free ok.kind a e n key a'
noncomputable def sgn (src:Str) (p:Nat):Str:=⟨#[src.cps.getD p 0]⟩
theorem Jv0 {v i:Expr} {k:Nat} (ok:Ay0 c) (h1:EvD c ρ v (.str x)) (h2:EvD c ρ i (.int k)) (hk:k < x.length) (hb:k < 2 ^ 40)
  (hs:∀ o j,subscripted i false o j = operate [o,j] (getItem o j):=by intro _ _; rfl):EvD c ρ (.Subscript v i pos) (.str (sgn x k)) :=
 Jg0 ok h1 h2 (Bq0 ok _) fun s o j S p q E=>by
  obtain ⟨t,hQ98⟩:=p.str_inv; subst hQ98
  obtain ⟨t',hQ99⟩:=q.int_inv; subst hQ99
  have hk':k < x.cps.size:=hk
  refine tail_any (typeIs_str _ _ _) F.slot_str_getitem.lookup (P.getItem_str (c:=x.cps.getD k 0) ?_ ?_ ⟨.toks _ _,.str _ _⟩) (hs _ _)
  ·simp; lia
  ·simp [seqIndex?,show ¬ ((k:Int) < 0) by simp +arith,hk,Str.length,hk']
structure SrcOk (src:Str):Prop where
 len:src.length ≤ 1000
 coord:∀ p ≤ 1000,(Cc0 src p).length ≤ 100000
 na:∀ p ≤ 1000,Bn0 src p ≤ 1000
 last:∀ p ≤ 1000,Bn0 src p ≠ 0→∃ k,Fy0 src p = some k∧k ≤ 1000
noncomputable def Yp0 (expect:Str):Str:=[oS "Expected ",reprText expect].foldl (· ++ ·) Str.empty
noncomputable def Ga1 (src:Str) (p:Nat):Str:=[oS "Found invalid character ",reprText (sgn src p)].foldl (· ++ ·) Str.empty
inductive Stops (src:Str) (pos:Nat) (expect:Str) (eof:Bool):Nat→Prop
 | found {k:Nat} {r:List Nat}:occurrences src expect pos src.length 1 = k :: r→Stops src pos expect eof k
 | none:occurrences src expect pos src.length 1 = []→eof = false→Stops src pos expect eof src.length
inductive Skips (src:Str) (pos:Nat) (expect:Str) (S:Str→Bool) (eof:Bool):Except Str Nat→Prop
 | eof:occurrences src expect pos src.length 1 = []→eof = true→Skips src pos expect S eof (.error (Qj0 src src.length (Yp0 expect)))
 | bad {n p:Nat}:Stops src pos expect eof n→(Bc0 (Txt.slice src (some (pos:Int)) (some (n:Int)))).any S = true→pos ≤ p→p < src.length→S (sgn src p) = true→(∀ q,pos ≤ q→q < p→S (sgn src q) = false) →
   (reprText (sgn src p)).length ≤ 1000→Skips src pos expect S eof (.error (Qj0 src p (Ga1 src p)))
 | ok {n:Nat}:Stops src pos expect eof n→(Bc0 (Txt.slice src (some (pos:Int)) (some (n:Int)))).any S = false→Skips src pos expect S eof (.ok n)
end
section
open PySem.Builtin PySem.Builtin.Str
noncomputable def Tg0 (fs X:List Addr) (l:List Env) (s:Shared) (o:Except Str Nat) (r:Result) (s':Shared):Prop :=
 match o with
 | .ok n=>∃ v,r = .ok (.ret v)∧Kp fs s s'∧Rd (fz X s'.heap) v (.int n)
 | .error m=>∃ e,r = .error (.ref e)∧Thrown fs l s s' e m
theorem Ct1 {a:Expr} {fa:Addr} {fo:Obj} {S:Str→Bool} {n:Nat} (ok:CxOk c) (hl3:Nat.ble 3 c.lvl = true) (hx:ρ.lookup x = some (.raw (.ref fa))) (hp:c.pin (fa,fo)) (hf:∀ h:Heap,h.get? fa = some fo→FrozAt (sK c.w) h fa S n) (hn:n < 4096)
  (ha:EvD c ρ a (.str y)) (he:starEach [a] c.env = [(false,eval a c.env)]:=by rfl) (hd:(x == ("__debug__" : Str)) = false:=by rfl) (hline:(apos.endLine == pos.line) = true:=by rfl) {np:Pos} :
  EvD c ρ (.Call (.Attribute (.Name x np) (oS "isdisjoint") apos) [a] [] pos) (.bool (!((Bc0 y).any S))):=by
 refine Fr0 (P1:=fun h v=>v = .ref fa∧h.get? fa = some fo) ok Wo0 Dt0 Lm0 (Dd0 ok (fun s Ss=>⟨_,Ss.raw x _ hx,rfl,Ss.pin _ hp⟩) hd) ha ?_ ?_ ?_ rfl he hline
 ·intro s s' v Ss k hi10
  obtain ⟨e1,e2⟩:=hi10
  exact ⟨e1,k.keep fa fo e2 (fun q=>Ss.pinx _ hp (Dy0 ok _ q)) (fun q=>Ss.pinx _ hp (q ▸ Ii0 ok))⟩
 ·intro s v hi11
  obtain ⟨e1,e2⟩:=hi11
  obtain ⟨es,ep,tb,ho,_⟩:=hf s.heap e2
  rw [e2] at ho; cases ho
  subst e1
  exact ⟨⟨_,e2,rfl⟩,fun b q=>by cases q; exact ⟨_,e2,rfl⟩⟩
 ·intro s v u Ss hi12 pu E
  obtain ⟨e1,e2⟩:=hi12
  subst e1
  obtain ⟨t,hQ100⟩:=pu.str_inv; subst hQ100
  exact Yn0 (ok.hand hl3) (hf s.heap e2) hn fun s' h1 h2 h3 h4=>⟨.of_all h2 h3 h1,.bool _⟩
theorem Yq0 {a:Expr} {fa:Addr} {fo:Obj} {S:Str→Bool} {n:Nat} (ok:CxOk c) (hx:ρ.lookup x = some (.raw (.ref fa))) (hp:c.pin (fa,fo)) (hf:∀ h:Heap,h.get? fa = some fo→FrozAt (sK c.w) h fa S n) (hn:n < 4096)
  (ha:EvD c ρ a (.str y)) (hd:(x == ("__debug__" : Str)) = false:=by rfl) (hm:behindInMarks .NotIn (.Name x np) = false:=by rfl):EvB c ρ (.Compare a [.NotIn] [.Name x np] pos) (!S y):=by
 refine Aq0 (P2:=fun h v=>v = .ref fa∧h.get? fa = some fo) ok ha (Dd0 ok (fun s Ss=>⟨_,Ss.raw x _ hx,rfl,Ss.pin _ hp⟩) hd) (Bq0 ok _) (fun s u v Ss p q E=>?_) hm
 obtain ⟨t,hQ101⟩:=p.str_inv; subst hQ101
 obtain ⟨hQ102,e2⟩:=q; subst hQ102
 exact Yo0 (hf s.heap e2) hn ⟨.toks _ _,rfl⟩
theorem Uq0 {k:Int} (h:EvD c ρ e (.int k)):EvO c ρ (some e) (some k):=h
theorem Jw0 {n:Nat} (h:(reprText x).length ≤ n) (hn:n ≤ 100000):(reprText x).length ≤ sizeLine:=by unfold sizeLine; exact Nat.le_trans (Nat.le_trans ‹_› ‹_›) (by decide)
theorem Jx0 {l:List Env} {X' fs':List Addr} {lvl:Nat} {cn:List Str} {P:Addr × Obj→Prop} {L e t:Addr} {v2 v4:Value} {msg:Str} {tk:Tok}
  (ok:CxOk ⟨w,A.deeper env,env,X',X,fs',fs,s,lvl,cn,P⟩) (S:St ⟨w,A.deeper env,env,X',X,fs',fs,s,lvl,cn,P⟩ ρ s') (hfr:A.frames = some l) (hf:env.frame = some L) (hfs:fs = l.filterMap (·.frame))
  (he:s'.heap.get? e = some { cls:=.ref 48,data:=.fields #[.ref t,.none,v2,.none,v4,.none] }) (ht:s'.heap.get? t = some { cls:=.type "tuple",data:=.seq #[.str msg tk] })
  (hne:s.heap.get? e = none) (hnt:s.heap.get? t = none) :
  wpAny (MM w) (A.deeper env) (leaving env (.ref e)) (fun _ s''=>Tg0 fs X l s (.error msg) (.error (.ref e)) s'') (fun e' s''=>Tg0 fs X l s (.error msg) (.error e') s'') s' :=
 Qk0 (c:=⟨w,A.deeper env,env,X',X,fs',fs,s,lvl,cn,P⟩) ok S (by simp [Around.deeper,hfr]) hf (by rw [← hfs]; exact fun b hb=>hb) he ht hne hnt fun s'' h=>⟨e,rfl,h⟩
theorem Ll1 {p:Prop} [Decidable p] {a b:Prop} (h:p) (x:a):if p then a else b:=by rw [if_pos h]; exact x
theorem Gb1 {α:Type} {hd:ExceptHandler} {hs:List ExceptHandler} (ok:CxOk c) (ρs:α→Rho) (G:α→Prop)
  (hbody:wpAny (MM c.w) c.A (execs body c.env) (fun f s₁=>f = .next∧∃ a,G a∧St c (ρs a) s₁) (fun e s₁=>wpAny (MM c.w) c.A (noteFrame e c.env) (fun _ s₂=>wpAny (MM c.w) c.A (setFlight e none) (fun _ s₃=>wpAny (MM c.w) c.A (handleBy e c.env (hd :: hs)) (fun f s₄=>f = .next∧∃ a,G a∧St c (ρs a) s₄) E s₃) E s₂) E s₁) s)
  (hrest:∀ a s',G a→St c (ρs a) s'→wpAny (MM c.w) c.A (execs rest c.env) Q E s'):wpAny (MM c.w) c.A (execs (.Try body (hd :: hs) [] [] pos :: rest) c.env) Q E s :=
 Iy1 _ hbody fun s' hh1=>by obtain ⟨a,g,S⟩:=hh1; exact hrest a s' g S
noncomputable def wrQ {α β:Type} (c:Cx) (ρs:α→Rho) (G:α→Prop) (μ:α→Nat) (ρe:β→Rho) (Ge:β→Prop) (Q:Flow→Shared→Prop) (a:α):Flow→Shared→Prop
 | .next,s=>∃ a',μ a' < μ a∧G a'∧St c (ρs a') s
 | .cont,s=>∃ a',μ a' < μ a∧G a'∧St c (ρs a') s
 | .brk,s=>∃ b,Ge b∧St c (ρe b) s
 | .ret v,s=>Q (.ret v) s
noncomputable def wbQ {α β:Type} (c:Cx) (body:List Stmt) (ρs:α→Rho) (G:α→Prop) (μ:α→Nat) (ρe:β→Rho) (Ge:β→Prop) (Q:Flow→Shared→Prop) (a:α):Bool→Shared→Prop
 | true,s=>wpAny (MM c.w) c.A (execs body c.env) (wrQ c ρs G μ ρe Ge Q a) (fun _ _=>False) s
 | false,s=>∃ b,Ge b∧St c (ρe b) s
theorem Qn0 {α β:Type} {test:Expr} (ok:CxOk c) (ρs:α→Rho) (G:α→Prop) (μ:α→Nat) (ρe:β→Rho) (Ge:β→Prop) (a0:α) (h0:G a0) (S:St c (ρs a0) s)
  (turn:∀ a s,G a→St c (ρs a) s→wpAny (MM c.w) c.A (isTrue test c.env (eval test c.env)) (wbQ c body ρs G μ ρe Ge Q a) (fun _ _=>False) s)
  (hrest:∀ b s',Ge b→St c (ρe b) s'→wpAny (MM c.w) c.A (execs rest c.env) Q E s'):wpAny (MM c.w) c.A (execs (.While test body [] pos :: rest) c.env) Q E s:=by
 refine Cr1 (fun n s=>∃ a,n = μ a∧G a∧St c (ρs a) s) (fun s=>∃ b,Ge b∧St c (ρe b) s) (μ a0) ⟨a0,rfl,h0,S⟩ ?_ fun s' hh2=>by obtain ⟨b,g,S'⟩:=hh2; exact hrest b s' g S'
 rintro n s ⟨a,rfl,g,S⟩
 refine wM (turn a s g S) (fun b s2 h2=>?_) fun _ _ x=>x
 cases b with
 | false=>exact h2
 | true =>
  refine Ll1 rfl (wM h2 (fun f s3 h3=>?_) fun _ _ x=>x)
  cases f with
  | next=>obtain ⟨a',h1,h2,h3⟩:=h3; exact ⟨_,h1,a',rfl,h2,h3⟩
  | cont=>obtain ⟨a',h1,h2,h3⟩:=h3; exact ⟨_,h1,a',rfl,h2,h3⟩
  | brk=>exact h3
  | ret v=>exact h3
theorem Yr0 {α β:Type} {ρs:α→Rho} {G:α→Prop} {μ:α→Nat} {ρe:β→Rho} {Ge:β→Prop} {a:α} {b:Bool} (hb:b = true) (h:wpAny (MM c.w) c.A (execs body c.env) (wrQ c ρs G μ ρe Ge Q a) (fun _ _=>False) s):wbQ c body ρs G μ ρe Ge Q a b s:=hb ▸ h
theorem Cu1 {α β:Type} {ρs:α→Rho} {G:α→Prop} {μ:α→Nat} {ρe:β→Rho} {Ge:β→Prop} {a:α} {b:Bool} (hb:b = false) (h:∃ b,Ge b∧St c (ρe b) s):wbQ c body ρs G μ ρe Ge Q a b s:=hb ▸ h
theorem Gc1 (w:World) (src expect:Str) (pos:Nat) (Sm:Str→Bool) (n:Nat) (eof:Bool) (o:Except Str Nat) (so:SrcOk src) (hp:pos ≤ 1000) (hre:(reprText expect).length ≤ 50000) (rel:Skips src pos expect Sm eof o)
  {A:Around} {fs X:List Addr} {s:Shared} {vs:List Value} {l:List Env} {fa:Addr} {fo:Obj} (am:Amb w A fs X 4 s) (hl:A.frames = some l) (rv:RdAll (fz X s.heap) vs [.str src,.int pos,.str expect])
  (hfa:s.heap.get? fa = some fo) (hX:fa ∉ X) (hfz:∀ h:Heap,h.get? fa = some fo→FrozAt (sK w) h fa Sm n) (hn:n < 4096) :
  codeAny (MM w) A (.call (.ref 58) ⟨vs,[(oS "error_on",.ref fa),(oS "error_on_eof",.bool eof)]⟩) (Tg0 fs X l s o) s:=by
 obtain ⟨v1,v2,v3,hQ103,r1,r2,r3⟩:=rv.three; subst hQ103
 have hlen:=so.len
 have e58:=am.wd.k 58 _ (show (KF w).lookup 58 = some _ from rfl)
 obtain ⟨l',hl',hfs,hfr⟩:=am.frames
 rw [hl] at hl'; cases hl'
 have hfat:fa ≠ tA:=fun q=>hX (q ▸ am.tX)
 refine Ht0 (ps:=[oS "src",oS "pos",oS "expect",oS "error_on",oS "error_on_eof"]) (vs:=[v1,v2,v3,.ref fa,.bool eof]) (sls:=[.val (.str src),.val (.int pos),.val (.str expect),.raw (.ref fa),.val (.bool eof)]) (lvl:=3)
  am e58 (codeRec_of am.wd.k (show codeIn (KF w) (.ref 57) (oS "skip_until") = true from rfl)) rfl (.val r1 (.val r2 (.val r3 (.raw (.val (.bool _) .nil))))) (BindsTo.of_eq rfl) (by decide) (by rfl) (by decide) (by rfl) ?_
 intro X' fs' L s1 c Q E hX' ok0 S0
 let P:Addr × Obj→Prop:=fun p=>p = (fa,fo)
 let c1:Cx:=c.pins P
 have ok:CxOk c1:=ok0.pins P
 have S1:St c1 _ s1:=S0.pins P (fun p hp=>by cases hp; exact S0.since.keep fa fo hfa (fun q=>hX (am.fsX _ q)) hfat) (fun p hp q=>by
  cases hp
  have q':fa ∈ X':=by
   have:fa ∈ As0 _ ++ X':=q
   exact this
  rcases hX' fa q' with h | h
  ·exact hX h
  ·rw [hfa] at h; cases h)
 show wpAny (MM c1.w) c1.A (execs _ c1.env) Q E s1
 have hlo:fromIndex src.length (pos:Int) = pos:=Cd0 _ _
 let Good:Nat→Prop:=fun np=>np ≤ 1000∧((∃ p,(Bc0 (Txt.slice src (some (pos:Int)) (some (np:Int)))).any Sm = true∧pos ≤ p∧p < src.length∧Sm (sgn src p) = true∧(∀ q,pos ≤ q→q < p→Sm (sgn src q) = false)∧(reprText (sgn src p)).length ≤ 1000∧o = .error (Qj0 src p (Ga1 src p)))
    ∨ ((Bc0 (Txt.slice src (some (pos:Int)) (some (np:Int)))).any Sm = false∧o = .ok np))
 have hgood:∀ np,Stops src pos expect eof np→(eof = true→occurrences src expect pos src.length 1 ≠ [])→Good np:=by
  intro np st hne
  have hnp:np ≤ 1000:=by
   cases st with
   | found e=>have:=StrLaws.occ_spec src expect pos src.length 1 np (by rw [e]; exact .head _); lia
   | none _ _=>exact so.len
  have huniq:∀ m,Stops src pos expect eof m→m = np:=fun m sm=>by
   cases st with
   | found e =>
    cases sm with
    | found e'=>rw [e] at e'; cases e'; rfl
    | none e' _=>rw [e] at e'; cases e'
   | none e _ =>
    cases sm with
    | found e'=>rw [e] at e'; cases e'
    | none _ _=>rfl
  refine ⟨hnp,?_⟩
  cases rel with
  | eof e1 e2=>exact absurd e1 (hne e2)
  | bad s1 s2 s3 s4 s5 s6 s7=>rw [huniq _ s1] at s2; exact .inl ⟨_,s2,s3,s4,s5,s6,s7,rfl⟩
  | ok s1 s2=>rw [huniq _ s1] at s2 ⊢; exact .inr ⟨s2,rfl⟩
 refine Gb1 ok (fun np:Nat=>[(oS "new_pos",.val (.int np)),(oS "src",.val (.str src)),(oS "pos",.val (.int pos)),(oS "expect",.val (.str expect)),(oS "error_on",.raw (.ref fa)),(oS "error_on_eof",.val (.bool eof))]) Good ?_ ?_
 ·cases hocc:occurrences src expect pos src.length 1 with
  | cons k r =>
   have hstop:Stops src pos expect eof k:=.found hocc
   refine Ap0 (d:=.int k) ok S1 (Nt0 ok F.plainAttrs_str F.slot_str_index F.type_str_index (Aa0 ok rfl) (Ab0 ok (Aa0 ok rfl) (Ab0 ok (Aa0 ok rfl) Ac0)) (Bq0 ok _) (fun s v p=>Wf0 s v p) ?_) (.inl rfl) rfl rfl fun s2 S2=>wN ⟨rfl,k,hgood k hstop (by rw [hocc]; intro _ q; cases q),S2.drop (.cons rfl (.cons rfl (.cons rfl (.cons rfl (.cons rfl (.cons rfl .nil))))))⟩
   intro s' v us Ss pv ru E'
   obtain ⟨t1,hQ104⟩:=pv.str_inv; subst hQ104
   obtain ⟨u1,u2,hQ105,q1,q2⟩:=ru.two; subst hQ105
   obtain ⟨t2,hQ106⟩:=q1.str_inv; subst hQ106; obtain ⟨t3,hQ107⟩:=q2.int_inv; subst hQ107
   exact Ta0 (by rw [hlo]; exact hocc) ⟨.toks _ _,.int _ _⟩
  | nil =>
   refine Tf0 ok S1 (Aa0 ok rfl) (Ab0 ok (Aa0 ok rfl) (Ab0 ok (Aa0 ok rfl) Ac0)) (ok.hand rfl) (by rw [hlo]; exact hocc) fun sa sb e Sa hx hg ho ht=>?_
   have hfrs:∀ env:Env,(A.deeper env).frames = some (env :: l):=fun env=>by
    show A.frames.map _ = _
    rw [hl]; rfl
   refine Cq1 ok Sa (hfrs _) rfl hx hg ho ht fun sc oe vs T oT ts kc Sc w1 w2 w3 w4 w5 w6 w7 w8 w9=>?_
   refine Qm0 ok Sc rfl rfl w1 w2 w3 w4 w5 w6 w7 w8 w9 PassesOwnAt.leaving fun sd Sd=>?_
   have okd:=(ok.mark e rfl).pins fun p=>P p ∨ p = (e,oe)
   refine Ap0 (d:=.int (src.length:Nat)) okd Sd (Ca0 okd (Cy0 okd rfl) (Aa0 okd rfl) (by exact Nat.lt_of_le_of_lt ‹_› (by decide))) (.inl rfl) rfl rfl fun se Se=>?_
   refine Em0 (b:=eof) okd Se (Jf0 (Aa0 okd rfl)) ?_ ?_
   ·intro heof sf Sf
    refine Nw0 (e0:=e) rfl (Up0 (src:=src) (p:=src.length) (msg:=Yp0 expect) okd Sf rfl rfl (Ab0 okd (Aa0 okd rfl) (Ab0 okd (Aa0 okd rfl) (Ab0 okd (Fg0 okd (.cons Am0 (.cons (Jr0 okd (Aa0 okd rfl) (Jw0 hre (by exact Nat.le_add_left _ _))) .nil)) ?_) Ac0)))
     so.len so.len ?_ (so.coord _ so.len) (so.na _ so.len) (so.last _ so.len) fun e' t tk sg kg Sg x1 x2 x3 x4=>?_)
    ·show 9 + ((reprText expect).length + 0) ≤ sizeLine
     unfold sizeLine; lia
    ·rw [Yp0,Cz0]
     show 0 + (9 + ((reprText expect).length + 0)) ≤ 100000
     lia
    ·have ho:o = .error (Qj0 src src.length (Yp0 expect)):=by
      cases rel with
      | eof _ _=>rfl
      | bad s1=>cases s1 with
       | found e=>rw [hocc] at e; cases e
       | none _ e=>rw [heof] at e; cases e
      | ok s1=>cases s1 with
       | found e=>rw [hocc] at e; cases e
       | none _ e=>rw [heof] at e; cases e
     clear hgood rel
     subst ho
     have hpe:sg.heap.get? e = some oe:=Sg.pin (e,oe) (.inr rfl)
     have hpf:sf.heap.get? e = some oe:=Sf.pin (e,oe) (.inr rfl)
     have hee:e' ≠ e:=fun q=>by rw [q,hpf] at x3; cases x3
     refine ⟨e',t,oe,vs,rfl,hee,Sg.kf okd (Iu1 _) (by decide) (by decide),x1,hpe,w3,w5,fun h' y1 y2=>?_⟩
     have Sg':=(St.unpin (c:=Cx.mark _ e) Sg fun p hp=>.inl hp).unmark
     have Sf':=(St.unpin (c:=Cx.mark _ e) Sf fun p hp=>.inl hp).unmark
     have tbg:=Sg'.tab ok
     have het:e' ≠ tA:=fun q=>by obtain ⟨tv,te,_⟩:=tbg; rw [← q,x1] at te; cases te
     have htt:t ≠ tA:=fun q=>by obtain ⟨tv,te,_⟩:=tbg; rw [← q,x2] at te; cases te
     have hte:t ≠ e':=fun q=>by rw [q,x1] at x2; cases x2
     have Sh:=Sg'.upd (s':={ sg with heap:=h' }) ok (b:=e') (Sf'.new0 ok x3 het) (fun a o ne eo=>(y2.2 a ne).trans eo) het (fun q=>by
       obtain ⟨oo,eo,_⟩:=Sf'.has e' q
       rw [x3] at eo; cases eo) (fun o eo=>by rw [x1] at eo; cases eo; exact ⟨(by intro _ _ q; cases q),.inl (by intro q; cases q)⟩)
      (fun p hp q=>by have:=Sf'.pin p hp; rw [q,x3] at this; cases this) rfl rfl Sg'.toks
     exact Jx0 ok Sh hl rfl hfs y1 ((y2.2 t hte).trans x2) (Sf'.new0 ok x3 het) (Sf'.new0 ok x4 htt)
   ·intro heof sf Sf
    refine wN (wN ⟨rfl,src.length,hgood _ (.none hocc heof) (by intro q; rw [heof] at q; cases q),?_⟩)
    exact (St.unpin (c:=Cx.mark _ e) Sf fun p hp=>.inl hp).unmark.drop (.cons rfl (.cons rfl (.cons rfl (.cons rfl (.cons rfl (.cons rfl .nil))))))
 ·intro np s2 hg S2
  have hg1:=hg.1
  have hg2:=hg.2
  clear hg hgood rel S1 S0
  refine Em0 (b:=!(!((Bc0 (Txt.slice src (some (pos:Int)) (some (np:Int)))).any Sm))) ok S2 (Sh0 (Jf0 (Ct1 ok rfl rfl (show P _ from rfl) hfz hn (Cu0 (l:=some pos) (u:=some np) ok (Aa0 ok rfl) (Uq0 (Aa0 ok rfl)) (Uq0 (Aa0 ok rfl)) (by unfold sizeLine; exact Nat.le_trans ‹_› (by decide)))))) ?_ ?_
  ·intro hb s3 S3
   rcases hg2 with ⟨p,a1,a2,a3,a4,a5,a6,rfl⟩ | ⟨a1,_⟩
   rotate_left
   ·rw [a1] at hb; cases hb
   have hp1:p ≤ 1000:=by exact Nat.le_trans (Nat.le_of_lt ‹_›) ‹_›
   let ρw:Nat→Rho:=fun p'=>[(oS "pos",.val (.int p')),(oS "new_pos",.val (.int np)),(oS "src",.val (.str src)),(oS "expect",.val (.str expect)),(oS "error_on",.raw (.ref fa)),(oS "error_on_eof",.val (.bool eof))]
   let Gw:Nat→Prop:=fun p'=>pos ≤ p'∧p' ≤ p
   let μw:Nat→Nat:=fun p'=>p - p'
   let ρe:Unit→Rho:=fun _=>ρw p
   refine Qn0 ok ρw Gw μw ρe (fun _=>True) pos ⟨Nat.le_refl _,a2⟩ (S3.drop (.cons rfl (.cons rfl (.cons rfl (.cons rfl (.cons rfl (.cons rfl .nil))))))) ?_ ?_
   ·rintro p' s4 ⟨b1,b2⟩ S4
    refine Cw0 ok (Yq0 ok rfl (show P _ from rfl) hfz hn (Jv0 ok (Aa0 ok rfl) (Aa0 ok rfl) (by exact Nat.lt_of_le_of_lt ‹_› ‹_›) (by exact Nat.lt_of_le_of_lt (Nat.le_trans ‹_› ‹_›) (by decide)))) S4 (.refl _ _) fun s5 S5 _ _=>?_
    by_cases hpp:p' = p
    ·refine Cu1 (by rw [hpp,a4]; rfl) ⟨(),trivial,?_⟩
     rw [hpp] at S5
     exact S5
    ·refine Yr0 (by rw [a5 p' b1 (by exact Nat.lt_of_le_of_ne ‹_› ‹_›)]; rfl) ?_
     refine Wp0 ok S5 rfl Ar0 (.inl rfl) rfl fun s6 S6=>wN ⟨p' + 1,by show p - (p' + 1) < p - p'; exact Mu1 ‹_› ‹_›,⟨by exact Nat.le_succ_of_le ‹_›,by exact Nat.lt_of_le_of_ne ‹_› ‹_›⟩,?_⟩
     exact S6.drop (.cons rfl (.cons rfl (.cons rfl (.cons rfl (.cons rfl (.cons rfl .nil))))))
   ·intro _ s4 _ S4
    refine Cs1 (ok.hand rfl) (Up0 (src:=src) (p:=p) (msg:=Ga1 src p) ok S4 rfl rfl (Ab0 ok (Aa0 ok rfl) (Ab0 ok (Aa0 ok rfl) (Ab0 ok (Fg0 ok (.cons Am0 (.cons (Jr0 ok (Jv0 ok (Aa0 ok rfl) (Aa0 ok rfl) a3 (by exact Nat.lt_of_le_of_lt ‹_› (by decide))) (Jw0 a6 (by decide))) .nil)) ?_) Ac0)))
     so.len hp1 ?_ (so.coord _ hp1) (so.na _ hp1) (so.last _ hp1) fun e' t tk sg kg Sg x1 x2 x3 x4=>?_)
    ·show 24 + ((reprText (sgn src p)).length + 0) ≤ sizeLine
     unfold sizeLine; lia
    ·rw [Ga1,Cz0]
     show 0 + (24 + ((reprText (sgn src p)).length + 0)) ≤ 100000
     lia
    ·have tbg:=Sg.tab ok
     have het:e' ≠ tA:=fun q=>by obtain ⟨tv,te,_⟩:=tbg; rw [← q,x1] at te; cases te
     have htt:t ≠ tA:=fun q=>by obtain ⟨tv,te,_⟩:=tbg; rw [← q,x2] at te; cases te
     exact ⟨e',t,rfl,Sg.kf ok (Iu1 _) (by decide) (by decide),x1,Jx0 ok Sg hl rfl hfs x1 x2 (S4.new0 ok x3 het) (S4.new0 ok x4 htt)⟩
  ·intro hb s3 S3
   rcases hg2 with ⟨p,a1,_⟩ | ⟨a1,rfl⟩
   ·rw [a1] at hb; cases hb
   refine wN (Ax0 ok S3 (Aa0 ok rfl) fun v s' S' r=>⟨v,rfl,S'.since,r.mono (Ao0 (Dp0 ok))⟩)
end
section
open PySem.Builtin PySem.Builtin.Str
theorem Wq0 (w:World):findIn (KF w) (.ref 48) (oS "__str__") = some (some (.builtin "BaseException.__str__")):=by rfl
theorem Lm1 (w:World):mroIn (KF w) 48 (.type "BaseException") = some true:=by rfl
theorem Nx0:∀ self,bindSpecial (.builtin "BaseException.__str__") self = pure (.builtin "BaseException.__str__",[self]):=PySem.F.excStr_ValueError.str.bind
theorem Cv1 {e t:Addr} {oe:Obj} {vs:Array Value} {msg:Str} {tk:Tok} {Q:Value→Shared→Prop} (hu:A.units + 3 < cLine) (X:(KF w).In s.heap) (he:s.heap.get? e = some oe) (hc:oe.cls = .ref 48) (hd:oe.data = .fields vs)
  (h0:vs[0]? = some (.ref t)) (ht:s.heap.TupAt t [.str msg tk]) (hq:Q (.str msg tk) s):wpAny (MM w) A (call (.type "str") [.ref e]) Q E s:=by
 have LT:Looks (MM w) s.heap (typeOf (.ref e)) (.ref 48):=by
  rw [← hc]; exact (Looks.ld he).andThen .now
 refine callType_codes (T := "str") (Bi:=Builtin.«object.__init__») (Q₁:=fun r s₁=>∃ y u,r = .str y u∧Q r s₁) PySem.F.called_str (PySem.F.typeCall_str_1 _) PySem.F.entry_object_init ?_ ?_
 ·refine codeAny_of_tree ?_
  show wpAny _ A.in1.in1 (do checkBuiltinCall "str.__new__" ⟨[.type "str",.ref e],[]⟩; again (.builtin "str.__new__" ⟨[.type "str",.ref e],[]⟩)) _ _ s
  refine wB (wpAny_of_eq (PySem.F.newCall_str_1 _) (wP ⟨plainId_quiet (by decide +kernel) _,codeAny_builtin PySem.F.entry_str_new ?_⟩))
  rw [Around.under_plainId (by decide +kernel) _]
  rw [str_new_tree]
  refine wB (wP ?_)
  refine wB (wpAny_of_eq isSubtype_str_str ?_)
  have key:wpAny (MM w) A.in1.in1 (PySem.Builtin.Str.strOf (.ref e)) (fun r s₁=>∃ y u,r = .str y u∧Q r s₁) E s:=by
   unfold PySem.Builtin.Str.strOf
   rw [show isExactStr (.ref e) = false from rfl]
   refine wB (m:=cRoomFor _ _) (wpAny_cRoomFor (by show A.units + 1 + 1 < cLine; exact Nat.le_of_lt ‹_›) ?_)
   refine wB (m:=callSpecial? (.ref e) (oS "__str__")) ?_
   refine wB (wB (LT.here ((looks_findIn X (Wq0 w)).here (wpAny_holding (wB ((Looks.of_pure (Nx0 _)).here (wB ?_)))))))
   refine wpAny_call (codeAny_call_builtin PySem.F.excStr_ValueError.str.plain PySem.F.entry_bexc_str (check_slot (i := "BaseException.__str__") (owner := "BaseException") (n := "__str__") (by decide +kernel) (by decide +kernel) (LT.andThen (looks_mroIn X (Lm1 w))) (PySem.F.args_bexc_str _) ?_))
   unfold Builtin.«BaseException.__str__»
   refine wB (m:=slotArgs "__str__" 0 _) (wP ?_)
   dsimp only
   obtain ⟨ot,k,hto,_,htd⟩:=ht
   unfold Builtin.BaseException.bexcArgs
   refine wB (wB (wpAny_field he hd h0 (wB (wpAny_seqItems hto htd (wP ?_)))))
   refine wB (wpAny_rule ?_)
   exact wP (wP (wB (wP (wP ⟨_,_,rfl,hq⟩))))
  exact wB (wM key (fun r s₁ hr=>wP hr) fun _ _ y=>y)
 ·rintro obj s₁ ⟨y,u,rfl,hq⟩
  exact ⟨typeIs_str _ _ _,PySem.F.args_object_init_2 _ _,object_init_meets PySem.F.called_str.init.lookup PySem.F.called_str.made (by decide) _ w A.in1 _ s₁ ⟨typeIs_str _ _ _,rfl,hq⟩⟩
structure Landed (X:List Addr) (h:Heap) (e:Addr) (msg:Str) (oe:Obj) (T:Addr) (oT:Obj):Prop where
 at_:h.get? e = some oe
 cls:oe.cls = .ref 48
 args:∃ vs t tk,oe.data = .fields vs∧vs[0]? = some (.ref t)∧vs[1]? = some (.ref T)∧h.TupAt t [.str msg tk]∧t ≠ tA∧t ∉ X
 tr:h.get? T = some oT
 fl:∃ ts,oT.data = .fields ts∧ts[3]? = some .none
 ne:T ≠ tA∧e ≠ tA
theorem Im0 (ok:CxOk c) (S:St c ρ s):∀ a o,s.heap.get? a = some o→(∀ es n,o.data ≠ .dict es n)→a ∉ c.fs:=fun a o ea hda hm=>by
 obtain ⟨l,h1,h2⟩:=ok.frames
 rw [h2] at hm
 obtain ⟨en,hen,hfe⟩:=List.mem_filterMap.mp hm
 obtain ⟨_,L',o',q1,q2,⟨es,n,q3⟩,_⟩:=S.frs l h1 en hen
 rw [hfe] at q1; cases q1
 rw [ea] at q2; cases q2
 exact hda _ _ q3
theorem Jy0 {s1:Shared} {e:Addr} {msg:Str} {Q:Unit→Shared→Prop} (ok:CxOk c) (S:St c ρ s) {env:Env} {outer:List Env} {L:Addr} (hfr:c.A.frames = some (env :: outer)) (hf:env.frame = some L)
  (hx:Thrown c.fs (env :: outer) s s1 e msg) (hq:∀ s' oe T oT,Kp c.fs s s'→St c ρ s'→s.heap.get? e = none→Landed (c.XX ρ) s'.heap e msg oe T oT→Q () s') :
  wpAny (MM c.w) c.A (noteFrame (.ref e) env) (fun _ s'=>wpAny (MM c.w) c.A (setFlight (.ref e) none) Q E s') E s1:=by
 obtain ⟨⟨base,t,tk,⟨f1,f2,f3,f4⟩,htup,hbt,hbk,hbtab⟩,kp,htk,hnew⟩:=hx
 refine wpAny_noteFrame_onW hfr f3 hf f4 f1 f2 fun h1 hk1=>?_
 obtain ⟨k1,k2,k3,k4⟩:=hk1
 refine wpAny_setFlight_noneW k1 k2 k3 fun h2 q1 q2 q3 q4=>?_
 have hup:∀ b o,s1.heap.get? b = some o→(∀ vs,o.data ≠ .fields vs)→∃ sl,h2.get? b = some { o with slots:=sl }:=fun b o eb hn=>by
  obtain ⟨sl,e1⟩:=k4 b o eb hn
  exact ⟨sl,q4 b _ e1 hn⟩
 have k:Kp c.fs s { s1 with heap:=h2 }:=by
  refine ⟨kp.gens,kp.os,fun b o eb h1 h2'=>q1 b o (hbk b o eb h1 h2'),fun b o eb h2'=>?_,fun _=>hbtab.keeps q1⟩
  by_cases hb:b ∈ c.fs
  ·obtain ⟨sl,e1⟩:=kp.slot b o eb h2'
   obtain ⟨l,hl,hfs⟩:=ok.frames
   rw [hfs] at hb
   obtain ⟨en,hen,hfe⟩:=List.mem_filterMap.mp hb
   obtain ⟨_,L',o',p1,p2,⟨es,n,p3⟩,_⟩:=S.frs l hl en hen
   rw [hfe] at p1; cases p1
   rw [eb] at p2; cases p2
   obtain ⟨sl2,e2⟩:=hup b _ e1 (by intro vs q; rw [p3] at q; cases q)
   exact ⟨sl2,e2⟩
  ·exact ⟨o.slots,q1 b o (hbk b o eb hb h2')⟩
 have S':=S.step ok k htk
 obtain ⟨oe,vs,T,oT,ts,w1,⟨w2,w3⟩,w4,w5,w6,w7,w8,w9,w10⟩:=q3
 have tb:TabOk h2:=hbtab.keeps q1
 obtain ⟨tv,te,_⟩:=hbtab
 have hTt:T ≠ tA:=fun q=>by rw [q,te] at w6; cases w6
 have het:e ≠ tA:=fun q=>by rw [q,te] at f2; cases f2
 have htt:t ≠ tA:=fun q=>by rw [q,te] at hbt; cases hbt
 have htX:t ∉ c.XX ρ:=fun q=>by
  obtain ⟨o,eo,_⟩:=S.has t q
  by_cases hb:t ∈ c.fs
  ·obtain ⟨ot,kt,x1,x2,x3⟩:=htup
   obtain ⟨sl,e1⟩:=kp.slot t o eo htt
   rw [x1] at e1; cases e1
   exact Im0 ok S t o eo (by intro _ _ q; have x3':o.data = _:=x3; rw [x3'] at q; cases q) hb
  ·rw [hbk t o eo hb htt] at hbt; cases hbt
 exact hq _ oe T oT k S' hnew ⟨w1,w2,⟨vs,t,tk,w4,w3,w5,htup.of_slots (fun b o eb hn=>hup b o eb hn),htt,htX⟩,w8,⟨ts,w9,w10⟩,hTt,het⟩
inductive TomlAt (P:Addr × Obj→Prop) (oe:Obj) (msg:Str):Prop
 | mk (vs:Array Value) (t:Addr) (tk:Tok) (ot:Obj) (kt:Nat):oe.data = .fields vs→vs[0]? = some (.ref t)→P (t,ot)→ot.cls = .type "tuple" → ot.data = .seq #[.str msg tk] kt→TomlAt P oe msg
theorem Jz0 {e T:Addr} {oe oT:Obj} {msg:Str} {n:Str} {hpos:Pos} {b₀:Stmt} {suite:List Stmt} {rest:List ExceptHandler} (ok:CxOk c) (S:St c ρ s) (hl:Nat.ble 2 c.lvl = true)
  (hx:c.env.kindOf (oS "TOMLDecodeError") = some .globalImplicit) (hn:c.env.kindOf n = some .local) (hcd:(n == ("__classdict__" : Str)) = false) (L:Landed (c.XX ρ) s.heap e msg oe T oT)
  (hq:∀ s' P,(∀ p,c.pin p→P p)→P (e,oe)→TomlAt P oe msg→oe.cls = .ref 48→CxOk ((c.mark e).pins P)→St ((c.mark e).pins P) ((n,.raw (.ref e)) :: ρ) s' →
   wpAny (MM ((c.mark e).pins P).w) ((c.mark e).pins P).A (execs (b₀ :: suite) ((c.mark e).pins P).env) (fun f s4=>∃ ρ4,St ((c.mark e).pins P) ρ4 s4∧∃ v,f = .ret v∧Rd (fz c.X0 s4.heap) v d) (fun _ _=>False) s')
  (hQ:∀ v s5,Hz1 c d (.ret v) s5→Q (.ret v) s5) :
  wpAny (MM c.w) c.A (handleBy (.ref e) c.env (.ExceptHandler (some (.Name (oS "TOMLDecodeError") np)) (some n) (b₀ :: suite) hpos :: rest)) Q E s:=by
 have okm:=ok.mark e hl
 have Sm:=S.mark e
 obtain ⟨l1,l2,⟨vs,t,tk,l3,l4,l5,l6,l6t,l6x⟩,l7,⟨ts,l8,l9⟩,l10,l11⟩:=L
 refine wpAny_handleBy_cons (codeAny_handlers_test ?_) (by intro q; cases q)
 refine Ad0 okm (Bp0 okm (Eb0 _) hx) Sm (.refl _ _) fun v s1 S1 k1 _ hv=>?_
 subst hv
 have hnf:=Im0 ok S
 have e1:=k1.keep e oe l1 (hnf _ _ l1 (by intro _ _ q; rw [l3] at q; cases q)) l11
 have T1:=k1.keep T oT l7 (hnf _ _ l7 (by intro _ _ q; rw [l8] at q; cases q)) l10
 obtain ⟨ot,kt,x1,x2,x3⟩:=l6
 have t1:=k1.keep t ot x1 (hnf _ _ x1 (by intro _ _ q; rw [x3] at q; cases q)) l6t
 have h48:s1.heap.get? 48 = some Gh0:=S1.kf okm (Iu1 _) (by decide) (by decide)
 refine wpAny_excMatches_sub_self (h:=s1.heap) h48 e1 l2 (by decide) ?_
 refine codeAny_handlers_suite_as ?_
 refine En0 e1 l3 l5 T1 l8 (Array.getElem?_eq_some_iff.mp l9).1 ?_
 rw [Heap.update_setField_same _ _ _ _ _ _ T1 l8 l9]
 let P:Addr × Obj→Prop:=fun p=>c.pin p ∨ p = (e,oe) ∨ p = (t,ot)
 have heX:e ∉ c.XX ρ:=fun hm=>by
  obtain ⟨o,eo,nf⟩:=S.has e hm
  rw [l1] at eo; cases eo
  rcases nf with q | q
  ·exact l11 q
  ·exact q _ l3
 have S2:St ((c.mark e).pins P) ρ s1:=S1.pins P (fun p hp=>by
   rcases hp with hp | hp | hp
   ·exact S1.pin p hp
   ·rw [hp]; exact e1
   ·rw [hp]; exact t1) (fun p hp=>by
   rcases hp with hp | hp | hp
   ·exact S1.pinx p hp
   ·rw [hp]; exact heX
   ·rw [hp]; exact l6x)
 refine S2.storeS (okm.pins P) (.inl hn) hcd (.inr rfl) fun s3 S3 _ _=>?_
 refine wM (hq s3 P (fun p hp=>.inl hp) (.inr (.inl rfl)) ⟨vs,t,tk,ot,kt,l3,l4,.inr (.inr rfl),x2,x3⟩ l2 (okm.pins P) S3) (fun f s4 h4=>?_) fun _ _ x=>x.elim
 obtain ⟨ρ4,S4,v,hQ108,r4⟩:=h4; subst hQ108
 obtain ⟨m,hns⟩:=S4.ns
 have ht:=Ns.neTab hns (S4.tab (okm.pins P))
 refine wpAny_nameGoes hn hns (by rw [ok.kind]; rfl) fun h' m' hns' hs=>hQ v _ ⟨?_,?_⟩
 ·exact (Ul0 (b:=c.env.locals) S4.since ok.locN (fun a o ne eo=>(hs.2 a ne).trans eo) (fun o eo=>(Ns.nofields hns o eo).2) ht).trans (.toks _ _)
 ·exact Rd.sameC hns hs r4
end
section
open PySem.Builtin PySem.Builtin.Str
theorem Ur0:mroOf (.type "frozenset") = pure [.type "frozenset",.type "object"]:=by rw [mroOf_type]; kernel_rfl
theorem Ka0:typeLookup (.type "frozenset") "__new__" = pure (some (.builtin "frozenset.__new__")):=by rw [typeLookup_type,builtinLookup_eq_fast]; kernel_rfl
theorem Gx0:isSubtype (.type "frozenset") (.type "frozenset") = pure true:=by rw [isSubtype_type]; kernel_rfl
theorem Lo0:PySem.Slot "frozenset" "__init__" "object.__init__" :=
 .of (owner := "object") (n := "__init__") (by rw [typeLookup_type,builtinLookup_eq_fast]; kernel_rfl) (by decide +kernel) (by decide +kernel) (by decide +kernel)
  (by first | exact .inl (by decide +kernel) | exact .inr (by decide +kernel)) (by rw [isSubtype_type]; kernel_rfl)
theorem Ck0:TypeCalled "frozenset" "frozenset.__new__" "object.__init__" :=
 ⟨by decide +kernel,by decide +kernel,⟨_,_,Ur0⟩,madeBy_type Ur0 Ka0 (by decide +kernel),by decide +kernel,by rw [isSubtype_type]; kernel_rfl,Lo0⟩
theorem Gy0 (as:List Value) (h:as.length ≤ 1):checkTypeCall "frozenset" ⟨as,[]⟩ = pure ():=by
 cases as with
 | nil=>kernel_rfl
 | cons a l=>cases l with
  | nil=>kernel_rfl
  | cons b l=>exact absurd h (by simp)
theorem Lp0:checkBuiltinCall "frozenset.__new__" ⟨[.type "frozenset"],[]⟩ = pure ():=by kernel_rfl
theorem Lq0 (a:Value):checkBuiltinCall "frozenset.__new__" ⟨[.type "frozenset",a],[]⟩ = pure ():=by kernel_rfl
theorem Ga0:entryFor table "frozenset.__new__" = some Builtin.«frozenset.__new__»:=entryFor_of_tree (by kernel_rfl)
theorem Cq0:plainId "frozenset.__new__" = true:=by decide +kernel
theorem Qo0:typeLookup (.type "frozenset") "__init__" = pure (some (.builtin "object.__init__")):=by rw [typeLookup_type,builtinLookup_eq_fast]; kernel_rfl
section
noncomputable abbrev Ce0 (es:Array (Int × Value)) (ep:Nat) (t:SetTable):Obj:={ cls:=.type "frozenset",data:=.set es ep t }
theorem Ys0 {Q₁:Value→Shared→Prop} (h:∀ led:Bool,Q₁ (.ref s.heap.objs.size) { s with heap:=s.heap.push (Ce0 #[] 0 (.fresh 0 0 led)) }) :
  codeAny (MM w) A (.call (.builtin "frozenset.__new__") ⟨[.type "frozenset"],[]⟩) (wants Q₁ E) s:=by
 refine codeAny_of_tree ?_
 show wpAny _ A.in1 (do checkBuiltinCall "frozenset.__new__" ⟨[.type "frozenset"],[]⟩; again (.builtin "frozenset.__new__" ⟨[.type "frozenset"],[]⟩)) _ _ s
 refine wB (wpAny_of_eq Lp0 (wP ⟨plainId_quiet Cq0 _,codeAny_builtin Ga0 ?_⟩))
 rw [Around.under_plainId Cq0 _]
 delta Builtin.«frozenset.__new__» Builtin.Frozenset.newClass
 have hsub:=Gx0
 have hini:=Qo0
 obtain ⟨hp,g,d,tk,os⟩:=s
 dsimp only
 wp_walk
 refine wpAny_askSetting (wP ?_)
 dsimp only
 simp -iota only [newObj]
 refine wB (wpAny_alloc (wP ?_))
 exact wP (h _)
theorem Wr0 {Q:Value→Shared→Prop} (h:∀ led:Bool,Q (.ref s.heap.objs.size) { s with heap:=s.heap.push (Ce0 #[] 0 (.fresh 0 0 led)) }):wpAny (MM w) A (call (.type "frozenset") []) Q E s:=by
 refine callType_codes (T := "frozenset") (Bi:=Builtin.«object.__init__») (Q₁:=fun r s₁=>∃ led:Bool,r = .ref s.heap.objs.size∧s₁ = { s with heap:=s.heap.push (Ce0 #[] 0 (.fresh 0 0 led)) }) Ck0 (Gy0 [] (by decide)) PySem.F.entry_object_init (Ys0 fun led=>⟨led,rfl,rfl⟩) ?_
 rintro obj s₁ ⟨led,rfl,rfl⟩
 have hT:Shared.TypeIs { s with heap:=s.heap.push (Ce0 #[] 0 (.fresh 0 0 led)) } (.ref s.heap.objs.size) "frozenset" := ⟨_,Heap.get?_push_size _ rfl,rfl⟩
 exact ⟨hT,PySem.F.args_object_init_1 _,object_init_meets Ck0.init.lookup Ck0.made (by decide) _ w A.in1 _ _ ⟨hT,rfl,h led⟩⟩
theorem Hx0 (led:Bool):(SetTable.fresh 0 0 led).fits 0 = true:=by cases led <;> decide
theorem Mk0 {es es':Array (Int × Value)} {ep:Nat} {t t':SetTable} {u:Tok} (ho:h.get? a = some (Ce0 es ep t)) (hp:List.Perm es'.toList [((sK w).hash k,.str k u)]) (hf:t'.fits es'.size = true) :
  (h.update a (Obj.putSet es' t')).get? a = some (Ce0 es' (ep + 1) t')∧FrozAt (sK w) (h.update a (Obj.putSet es' t')) a (fun y=>decide (y = k)) 1:=by
 have hkey:(sK w).is k (.str k u) = true:=by show Value.isStrOf k (.str k u) = true; simp [Value.isStrOf]
 have hg:(h.update a (Obj.putSet es' t')).get? a = some (Ce0 es' (ep + 1) t'):=by
  have:=Heap.get?_update_self (Obj.putSet es' t') ho (by rw [putSet_of es' t' rfl]; rfl)
  rw [putSet_of es' t' rfl] at this; exact this
 refine ⟨hg,es',ep + 1,t',hg,fun e he=>?_,fun y=>?_,?_,hf⟩
 ·rw [List.mem_singleton.mp (hp.mem_iff.mp he)]; exact ⟨⟨k,hkey,rfl⟩,rfl⟩
 ·rw [decide_eq_true_eq]
  constructor
  ·rintro rfl; exact ⟨_,hp.mem_iff.mpr (.head _),hkey⟩
  ·rintro ⟨e,he,q⟩
   rw [List.mem_singleton.mp (hp.mem_iff.mp he)] at q
   exact (sK w).inj _ _ _ q hkey
 ·rw [← Array.length_toList,hp.length_eq]; rfl
theorem Qp0 {g:Bool→Sem Unit} (hg:∀ (b:Bool) (s₁:Shared) (Q':Unit→Shared→Prop),Q' () s₁→wpAny (MM w) A (g b) Q' E s₁) {a:Addr} {es es1:Array (Int × Value)} {ep:Nat} {t t2:SetTable} {k:Str} {u:Tok}
  (ho:s.heap.get? a = some (Ce0 es ep t)) (hp:List.Perm es1.toList [((sK w).hash k,.str k u)]) (hf2:t2.fits es1.size = true) {wasDummy:Bool} {R:Option Bool→Shared→Prop}
  (h:∀ h',Heap.SameBut a s.heap h'→FrozAt (sK w) h' a (fun y=>decide (y = k)) 1→R (some true) { s with heap:=h' }) :
  wpAny (MM w) A (do
    storeSet a es1 t2
    if (!wasDummy && t2.tooFull) = true then do
      g (relayAll t2 es1 (SetTable.grown es1.size)).2.2
      storeSet a (relayAll t2 es1 (SetTable.grown es1.size)).1 (relayAll t2 es1 (SetTable.grown es1.size)).2.1
      pure (some true)
     else pure (some true)) R E s:=by
 have hz:∀ es':Array (Int × Value),List.Perm es'.toList [((sK w).hash k,.str k u)]→es'.size ≤ sizeLine:=fun es' hp=>by
  rw [← Array.length_toList,hp.length_eq]; show 1 ≤ sizeLine; decide
 refine wB (wpAny_storeSet_of ho rfl ?_ (hz _ hp))
 obtain ⟨ho1,hS1⟩:=Mk0 (w:=w) ho hp hf2
 split
 ·have hp2:=(relayAll_perm t2 es1 (SetTable.grown es1.size)).trans hp
  have hfr:=relayAll_fits t2 es1 (SetTable.grown es1.size)
  refine wB (hg _ _ _ (wB (wpAny_storeSet_of (s:={ s with heap:=s.heap.update a (Obj.putSet es1 t2) }) ho1 rfl ?_ (hz _ hp2))))
  exact wP (h _ ((Heap.SameBut.update ..).trans (Heap.SameBut.update ..)) (Mk0 (w:=w) ho1 hp2 hfr).2)
 ·exact wP (h _ (Heap.SameBut.update ..) hS1)
theorem Yt0 {t:Tok} {led:Bool} {Q:Bool→Shared→Prop} (ho:s.heap.get? a = some (Ce0 #[] 0 (.fresh 0 0 led)))
  (h:∀ h' b,Heap.SameBut a s.heap h'→FrozAt (sK w) h' a (fun y=>decide (y = k)) 1→Q b { s with heap:=h' }):wpAny (MM w) A (setAddHashed a (.str k t) ((sK w).hash k)) Q E s:=by
 have hkey:(sK w).is k (.str k t) = true:=by show Value.isStrOf k (.str k t) = true; simp [Value.isStrOf]
 have hel:ElemsOf (sK w) (#[]:Array (Int × Value)).toList:=fun e he=>by cases he
 delta setAddHashed setAddHashedIn
 refine wpAny_holding (wB (wpAny_setState_of ho rfl (Hx0 led) ?_))
 dsimp only
 rw [byScan_of (knd:=sK w) rfl (by decide) hel]
 simp -iota only [↓reduceIte]
 delta setAddByScan
 refine wB (wB (wpAny_rule (wB (wpAny_setScan_of (knd:=sK w) hkey ho rfl (Hx0 led) hel ?_))))
 dsimp only
 have hperm:=layNew_perm (.fresh 0 0 led) #[] ((sK w).hash k) (.str k t)
 have hfits:=layNew_fits (.fresh 0 0 led) #[] ((sK w).hash k) (.str k t)
 generalize layNew (.fresh 0 0 led) #[] ((sK w).hash k) (.str k t) = L at hperm hfits ⊢
 obtain ⟨es1,t1,wasDummy,gave⟩:=L
 dsimp only at hperm hfits ⊢
 have hgw:∀ (b:Bool) (s₁:Shared) (Q':Unit→Shared→Prop),Q' () s₁→wpAny (MM w) A (match b with | true=>rule "set.scan.the-table-gave-way" | false=>pure ()) Q' E s₁ :=
  fun b s₁ Q' hq=>by cases b <;> first | exact wP hq | exact wpAny_rule hq
 refine wB (hgw _ _ _ ?_)
 split
 ·refine wB ?_
  rw [hashByValue_scannable 8 (show (Value.str k t).scannable = true from rfl)]
  refine wP ?_
  refine Qp0 hgw ho hperm ?_ fun h' hs hF=>?_
  ·exact SetTable.fits_plain_off hfits
  ·exact wP (h h' true hs hF)
 ·refine wB (wP ?_)
  simp -iota only [↓reduceIte]
  exact Qp0 hgw ho hperm hfits fun h' hs hF=>wP (h h' true hs hF)
theorem Qq0:isSubtype (.type "str") (.type "set") = pure false:=by rw [isSubtype_type]; kernel_rfl
theorem Ny0:isSubtype (.type "str") (.type "frozenset") = pure false:=by rw [isSubtype_type]; kernel_rfl
theorem Qr0 {S:Addr} {c:Nat} {u:Tok} {led:Bool} (hh:A.handled = none) (hSI:S ≠ I) (hS:s.heap.get? S = some (Ce0 #[] 0 (.fresh 0 0 led))) (hI:s.heap.IsStrIter I "str_ascii_iterator" ⟨#[c]⟩ u 0) (hc:c < 128)
  (hR:∀ h' tk,FrozAt (sK w) h' S (fun y=>decide (y = ⟨#[c]⟩)) 1→(∀ b o,b ≠ S→b ≠ I→s.heap.get? b = some o→h'.get? b = some o)→s.toks ≤ tk→R (.ok (.ret .none)) { s with heap:=h',toks:=tk }) :
  codeAny (MM w) A (.builtin "set.update.loop" ⟨[.ref S,.ref I],[]⟩) R s:=by
 have W:Walks PG w A.in1 I [I] [I] 1 (SignAt ⟨#[c]⟩) (fun i h=>h.IsStrIter I "str_ascii_iterator" ⟨#[c]⟩ u i):=Walks.strAscii (A:=A.in1) hh I ⟨#[c]⟩ u
 refine codeAny_builtin F.entry_set_update_loop ?_
 rw [Around.under_plainId F.plain_set_update_loop _]
 show wpAny _ A.in1 (pyNext (.ref I) >>= _) _ _ s
 refine wB (wpAny_with_toks (n:=s.toks) (Nat.le_refl _) (W.item 0 s _ _ (by decide) hI fun v h' tk hP st' hk'=>?_))
 intro htk
 obtain ⟨cc,t,e,rfl⟩:=hP
 have e':cc = c:=by simpa using e.symm
 subst e'
 have hS':h'.get? S = some (Ce0 #[] 0 (.fresh 0 0 led)):=hk' S _ (by simpa using hSI) hS
 show wpAny _ A.in1 (holding [Value.str ⟨#[cc]⟩ t] (setAdd S (.str ⟨#[cc]⟩ t)) >>= _) _ _ _
 refine wB (wpAny_holding ?_)
 delta setAdd
 refine wpAny_holding ?_
 have hkey:(sK w).is ⟨#[cc]⟩ (.str ⟨#[cc]⟩ t) = true:=by show Value.isStrOf _ (.str _ t) = true; simp [Value.isStrOf]
 refine wB ((sK w).pyHash (k:=⟨#[cc]⟩) hkey ?_)
 refine Yt0 (s:={ s with heap:=h',toks:=tk + 1 }) hS' fun h2 b hs2 hF=>?_
 refine wP ⟨plainId_quiet F.plain_set_update_loop _,?_⟩
 refine codeAny_builtin F.entry_set_update_loop ?_
 rw [Around.under_plainId F.plain_set_update_loop _]
 show wpAny _ A.in1 (pyNext (.ref I) >>= _) _ _ _
 have st2:h2.IsStrIter I "str_ascii_iterator" ⟨#[cc]⟩ u 1:=by
  obtain ⟨o,q1,q2⟩:=st'
  exact ⟨o,(hs2.2 I (Ne.symm hSI)).trans q1,q2⟩
 refine wB (wpAny_with_toks (n:=tk + 1) (Nat.le_refl _) (W.done { s with heap:=h2,toks:=tk + 1 } _ _ st2 fun h3 tk3 hk3=>?_))
 intro htk3
 refine wP (hR h3 tk3 ?_ (fun b o h1 h2' e=>hk3 b o (by simpa using h2') ((hs2.2 b h1).trans (hk' b o (by simpa using h2') e))) (Nat.le_trans htk (Nat.le_trans (Nat.le_succ _) htk3)))
 obtain ⟨es,ep,tb,q1,q2⟩:=hF
 exact ⟨es,ep,tb,hk3 S _ (by simpa using hSI) q1,q2⟩
theorem Yu0 {c:Nat} {u:Tok} {Q₁:Value→Shared→Prop} (hh:A.handled = none) (hc:c < 128)
  (h:∀ h' tk,FrozAt (sK w) h' s.heap.objs.size (fun y=>decide (y = ⟨#[c]⟩)) 1→(∀ b o,s.heap.get? b = some o→h'.get? b = some o)→s.toks ≤ tk→Q₁ (.ref s.heap.objs.size) { s with heap:=h',toks:=tk }) :
  codeAny (MM w) A (.call (.builtin "frozenset.__new__") ⟨[.type "frozenset",.str ⟨#[c]⟩ u],[]⟩) (wants Q₁ E) s:=by
 refine codeAny_of_tree ?_
 show wpAny _ A.in1 (do checkBuiltinCall "frozenset.__new__" ⟨[.type "frozenset",.str ⟨#[c]⟩ u],[]⟩; again (.builtin "frozenset.__new__" ⟨[.type "frozenset",.str ⟨#[c]⟩ u],[]⟩)) _ _ s
 refine wB (wpAny_of_eq (Lq0 _) (wP ⟨plainId_quiet Cq0 _,codeAny_builtin Ga0 ?_⟩))
 rw [Around.under_plainId Cq0 _]
 delta Builtin.«frozenset.__new__» Builtin.Frozenset.newClass Builtin.Frozenset.newFrom Builtin.Frozenset.updateFrom
 have hsub:=Gx0
 have hini:=Qo0
 have hs1:=Qq0
 have hs2:=Ny0
 obtain ⟨hp,g,d,tk,os⟩:=s
 dsimp only
 generalize hPI:pyIter = PI
 wp_walk
 refine wpAny_askSetting (wP ?_)
 dsimp only
 simp -iota only [newObj]
 refine wB (wpAny_alloc (wP ?_))
 refine wB (wP ?_)
 refine wB (wpAny_holding ?_)
 delta Builtin.Frozenset.isAnySet
 wp_walk
 subst hPI
 have hall:(⟨#[c]⟩:Str).cps.all (· < 128) = true:=by simp [hc]
 refine wpAny_pyIter_ascii hall ?_
 refine wB (wpAny_runValue ?_)
 have hlt:hp.objs.size ≠ (hp.push (Ce0 #[] 0 (.fresh 0 0 (!(model PG w).w.params.followText "set-order")))).objs.size:=by rw [Heap.size_push]; exact Nat.ne_of_lt (Nat.lt_succ_self _)
 refine Qr0 (c:=c) (u:=u) hh hlt (Heap.get?_push_of_some _ (Heap.get?_push_size _ rfl)) ⟨_,Heap.get?_push_size _ rfl,rfl,rfl⟩ hc fun h' tk' hF hk htk=>?_
 refine wP (wP (wP (h h' tk' hF (fun b o e=>hk b o (fun q=>?_) (fun q=>?_) (Heap.get?_push_of_some _ (Heap.get?_push_of_some _ e))) htk)))
 ·exact Nat.ne_of_lt (Heap.lt_size e) q
 ·rw [Heap.size_push] at q; exact Nat.ne_of_lt (Nat.lt_succ_of_lt (Heap.lt_size e)) q
theorem Ws0 {c:Nat} {u:Tok} {Q:Value→Shared→Prop} (hh:A.handled = none) (hc:c < 128)
  (h:∀ h' tk,FrozAt (sK w) h' s.heap.objs.size (fun y=>decide (y = ⟨#[c]⟩)) 1→(∀ b o,s.heap.get? b = some o→h'.get? b = some o)→s.toks ≤ tk→Q (.ref s.heap.objs.size) { s with heap:=h',toks:=tk }):wpAny (MM w) A (call (.type "frozenset") [.str ⟨#[c]⟩ u]) Q E s:=by
 refine callType_codes (T := "frozenset") (Bi:=Builtin.«object.__init__») (Q₁:=fun r s₁=>∃ h' tk,r = .ref s.heap.objs.size∧s₁ = { s with heap:=h',toks:=tk }∧FrozAt (sK w) h' s.heap.objs.size (fun y=>decide (y = ⟨#[c]⟩)) 1∧(∀ b o,s.heap.get? b = some o→h'.get? b = some o)∧s.toks ≤ tk) Ck0 (Gy0 [_] (Nat.le_refl 1)) PySem.F.entry_object_init (Yu0 hh hc fun h' tk h1 h2 h3=>⟨h',tk,rfl,rfl,h1,h2,h3⟩) ?_
 rintro obj s₁ ⟨h',tk,rfl,rfl,h1,h2,h3⟩
 have hT:Shared.TypeIs { s with heap:=h',toks:=tk } (.ref s.heap.objs.size) "frozenset" := by obtain ⟨es,ep,t,q,_⟩:=h1; exact ⟨_,q,rfl⟩
 exact ⟨hT,PySem.F.args_object_init_2 _ _,object_init_meets Ck0.init.lookup Ck0.made (by decide) _ w A.in1 _ _ ⟨hT,rfl,h h' tk h1 h2 h3⟩⟩
end
end
section
open PySem.Builtin PySem.Builtin.Str
noncomputable def EvF (c:Cx) (ρ:Rho) (e:Expr) (Sm:Str→Bool) (n:Nat):Prop :=
 ∀ s,St c ρ s→∀ (E:Value→Shared→Prop) (Q:Value→Shared→Prop),(∀ fa fo s',Kp c.fs s s'→St c ρ s'→s'.heap.get? fa = some fo→fa ∉ c.XX ρ→(∀ h:Heap,h.get? fa = some fo→FrozAt (sK c.w) h fa Sm n)→Q (.ref fa) s')→wpAny (MM c.w) c.A (eval e c.env) Q E s
theorem Us0 (ok:CxOk c) (hx:c.env.kindOf (oS "frozenset") = some .globalImplicit):EvF c ρ (.Call (.Name (oS "frozenset") np) [] [] pos) (fun _=>false) 0:=fun s S E Q hq=>by
 refine wpAny_Call_NameR (Ad0 ok (Jl0 ok hx) S (.refl _ _) fun u s1 S1 k1 _ hu=>?_)
 subst hu
 refine PySem.callWith_type rfl (evalArgs_nil3 ?_)
 refine Wr0 fun led=>?_
 have k2:Kp c.fs s { s1 with heap:=s1.heap.push (Ce0 #[] 0 (.fresh 0 0 led)) }:=k1.trans (.push _ _)
 exact hq _ (Ce0 #[] 0 (.fresh 0 0 led)) _ k2 (S1.step ok (.push _ _) S1.toks) (Heap.get?_push_size _ rfl) S1.fresh fun h e=>⟨#[],0,.fresh 0 0 led,e,(fun _ q=>by cases q),(fun k=>⟨(fun q=>by cases q),(fun hh1=>by obtain ⟨_,q,_⟩:=hh1; cases q)⟩),rfl,Hx0 led⟩
theorem Gd1 {ap:Pos} {k:Nat} {cc:Nat} (ok:CxOk c) (hl3:Nat.ble 3 c.lvl = true) (hx:c.env.kindOf (oS "frozenset") = some .globalImplicit) (hc:cc < 128):EvF c ρ (.Call (.Name (oS "frozenset") np) [.Constant (.str ⟨#[cc]⟩) k ap] [] pos) (fun y=>decide (y = ⟨#[cc]⟩)) 1:=fun s S E Q hq=>by
 refine wpAny_Call_NameR (Ad0 ok (Jl0 ok hx) S (.refl _ _) fun u s1 S1 k1 _ hu=>?_)
 subst hu
 refine PySem.callWith_type rfl (evalArgs_plain (spliced_cons (Ad0 (e:=.Constant (.str ⟨#[cc]⟩) k ap) ok Am0 S1 k1 fun v s2 S2 k2 k2' p=>spliced_nil ?_)))
 obtain ⟨t,hQ109⟩:=p.str_inv; subst hQ109
 refine Ws0 (ok.hand hl3) hc fun h' tk hF hk ht=>?_
 have k3:Kp c.fs s2 { s2 with heap:=h',toks:=tk }:=.of_all rfl rfl hk
 obtain ⟨es,ep,tb,q1,q2⟩:=hF
 exact hq _ _ _ (k2'.trans k3) (S2.step ok k3 (Nat.lt_of_lt_of_le S2.toks ht)) q1 S2.fresh fun h e=>⟨es,ep,tb,e,q2⟩
theorem Iz1 (w:World):∃ oc od fd osl,(KF w).lookup 58 = some ⟨oc,od,.func fd,osl⟩:=⟨_,_,_,_,rfl⟩
theorem Kb0 {e1 fe:Expr} {p1 p2 bp:Pos} {kk:Nat} {src expect:Str} {p n:Nat} {Sm:Str→Bool} {eof:Bool} {o:Except Str Nat} {l:List Env} {Q:Value→Shared→Prop} (ok:CxOk c) (S:St c ρ s) (hl4:Nat.ble 4 c.lvl = true)
  (hx:c.env.kindOf (oS "skip_until") = some .globalImplicit) (ha:Fb0 c ρ (e1 :: es) [.str src,.int p,.str expect]) (hF:EvF c ρ fe Sm n) (hn:n < 4096) (so:SrcOk src) (hp:p ≤ 1000) (hre:(reprText expect).length ≤ 50000) (rel:Skips src p expect Sm eof o) (hl:c.A.frames = some l)
  (hQ:∀ m v s',o = .ok m→Kp c.fs s s'→St c ρ s'→Rd (fz (c.XX ρ) s'.heap) v (.int m)→Q v s')
  (hE:∀ m e s1 s',o = .error m→Kp c.fs s s1→St c ρ s1→Thrown c.fs l s1 s' e m→E (.ref e) s')
  (he:starEach (e1 :: es) c.env = (false,eval e1 c.env) :: starEach es c.env:=by rfl) :
  wpAny (MM c.w) c.A (eval (.Call (.Name (oS "skip_until") np) (e1 :: es) [⟨some (oS "error_on"),fe,p1⟩,⟨some (oS "error_on_eof"),.Constant (.bool eof) kk bp,p2⟩] pos) c.env) Q E s:=by
 obtain ⟨oc,od,fd,osl,h58⟩:=Iz1 c.w
 refine wpAny_Call_ofName (Ad0 ok (Bp0 ok (Pq0 _) hx) S (.refl _ _) fun u s1 S1 k1 _ hu=>?_)
 subst hu
 refine callWith_function_kw (o:=⟨oc,od,.func fd,osl⟩) (fd:=fd) (evalArgs_kw2 rfl (Bj0 ok ha S1 k1 fun vs s2 S2 k2 k2' r=>?_) he)
 refine kwAll_cons (hF s2 S2 _ _ fun fa fo s3 k3 S3 f1 f2 f3=>kwAll_cons (wpAny_Constant_bool (kwAll_nil ?_)))
 have r3:=r.step k3 (Dy0 ok) (Ii0 ok)
 refine ⟨⟨S3.kf ok h58 (by decide) (by decide),rfl⟩,wpAny_with_toks (n:=1) S3.toks (wpAny_call (codeAny_mono (Gc1 c.w src expect p Sm n eof o so hp hre rel ((S3.amb ok).down (Nat.ble_eq.mp hl4)) hl r3 f1 f2 f3 hn) fun rr s4 hr=>?_))⟩
 have k23:=k2'.trans k3
 cases o with
 | ok m =>
  obtain ⟨v,hQ110,k4,r4⟩:=hr; subst hQ110
  intro ht
  exact hQ m v s4 rfl (k23.trans k4) (S3.step ok k4 ht) r4
 | error m =>
  obtain ⟨e,hQ111,T⟩:=hr; subst hQ111
  intro _
  exact hE m e s3 s4 rfl k23 S3 T
end
section
open PySem.Builtin PySem.Builtin.Str
theorem Ml0 {xp:Pos} {e t:Addr} {oe ot:Obj} {vs:Array Value} {msg:Str} {tk:Tok} {kt:Nat} (ok:CxOk c) (hf:Ev c ρ (.Name "str" np) fun _ v=>v = .type "str") (hx:ρ.lookup x = some (.raw (.ref e))) (hp:c.pin (e,oe)) (hc:oe.cls = .ref 48) (hd:oe.data = .fields vs) (h0:vs[0]? = some (.ref t))
  (hpt:c.pin (t,ot)) (htc:ot.cls = .type "tuple") (htd:ot.data = .seq #[.str msg tk] kt) (hdb:(x == ("__debug__" : Str)) = false:=by rfl) (he:starEach [.Name x xp] c.env = [(false,eval (.Name x xp) c.env)]:=by rfl):EvD c ρ (.Call (.Name "str" np) [.Name x xp] [] pos) (.str msg) :=
 Bt0 (P:=fun h v=>v = .ref e) ok hf (.inr ⟨_,rfl⟩) (Dd0 ok (fun s S=>⟨_,S.raw x _ hx,rfl⟩) hdb) (fun s v S p E=>by
  subst p
  have hu:=ok.units
  exact Cv1 (by unfold cLine; lia) (S.amb ok).wd.k (S.pin _ hp) hc hd h0 ⟨ot,kt,S.pin _ hpt,htc,htd⟩ ⟨.refl _ _,.str _ _⟩) he
theorem Qs0 {d2:PyData} {e2:Expr} {tp:Pos} {kk:Nat} (ok:CxOk c) (S:St c ρ s) (h:ρ.lookup x = some (.own a ds)) (hn:c.s0.heap.get? a = none) (h2:EvD c ρ e2 d2)
  (hq:∀ v s',St c ρ s'→Rd (fz c.X0 s'.heap) v (.tuple [.list ds,d2])→Q (.ret v) s') (hd:(x == ("__debug__" : Str)) = false:=by rfl) (he2:starEach [e2] c.env = [(false,eval e2 c.env)]:=by rfl) :
  wpAny (MM c.w) c.A (execs (.Return (some (.Tuple [.Name x np,e2] kk tp)) pos :: rest) c.env) Q E s:=by
 refine wC (wpAny_Return_some (Tuple_ ?_))
 refine wpAny_items_cons (Ad0 ok (Dd0 (P:=fun _ v=>v = .ref a) ok (fun s S=>⟨_,(S.own x a ds h).1,rfl⟩) hd) S (.refl _ _) fun v s1 S1 k1 _ p=>?_) rfl
 subst p
 refine wpAny_items_cons (Ad0 ok h2 S1 k1 fun u s2 S2 k2 k2' p2=>?_) he2
 refine wpAny_items_nil ?_
 refine wpAny_newTuple ?_ (by show 2 ≤ sizeLine; decide)
 have S3:=S2.step ok (.push _ { cls:=.type "tuple",data:=.seq [.ref a,u].toArray }) S2.toks
 refine hq _ _ S3 ?_
 have hfx:s2.heap.objs.size ∉ c.X0:=fun q=>S2.fresh (Dp0 ok _ q)
 refine .tuple (Bf0 (Heap.get?_push_size _ rfl) hfx) ?_
 obtain ⟨_,⟨vs,n,sl,e,r⟩,_⟩:=S3.own x a ds h
 refine .cons (.list (Bf0 e fun q=>?_) (r.mono (Ao0 (Dp0 ok)))) (.cons ?_ .nil)
 ·obtain ⟨o,e'⟩:=ok.x0has a q; rw [hn] at e'; cases e'
 ·exact (p2.step (.push _ _) (Dy0 ok) (Ii0 ok)).mono (Ao0 (Dp0 ok))
noncomputable def Mj1:Except Str Nat→PyData
 | .ok n=>.int n
 | .error m=>.str m
theorem Cw1 (w:World) (written part:Str) (o:Except Str Nat) (so:SrcOk written) (hre:(reprText part).length ≤ 50000) (rel:Skips written 0 part (fun y=>decide (y = ⟨#[35]⟩)) false o):FnD w 5 234 [.str written,.str part] (Mj1 o):=by
 intro A fs X s vs am rv
 obtain ⟨v1,v2,hQ112,r1,r2⟩:=rv.two; subst hQ112
 obtain ⟨l,hl,hfs,hfr⟩:=am.frames
 have hfrs:∀ env:Env,(A.deeper env).frames = some (env :: l):=fun env=>by
  show A.frames.map _ = _
  rw [hl]; rfl
 refine Ht0 (ps:=[oS "written",oS "part"]) (lvl:=4) am (am.wd.k 234 _ (show (KF w).lookup 234 = some _ from rfl)) (codeRec_of am.wd.k (show codeIn (KF w) (.ref 233) (oS "_law_until") = true from rfl)) rfl (BdAll.ofRd rv) (BindsTo.of_eq rfl) (by decide) (by rfl) (by decide) (by rfl) ?_
 intro X' fs' L s1 c Q E hX' ok S
 refine wC (wpAny_Try_except ?_)
 refine wC (wpAny_Return_some (Kb0 (p:=0) (o:=o) ok S rfl rfl (Ab0 ok (Aa0 ok rfl) (Ab0 ok Ar0 (Ab0 ok (Aa0 ok rfl) Ac0))) (Gd1 (cc:=35) ok rfl rfl (by decide)) (by decide) so (by decide) hre rel (hfrs _) ?_ ?_))
 ·intro m v s' ho k S' r
  subst ho
  exact ⟨v,rfl,S'.since,r.mono (Ao0 (Dp0 ok))⟩
 ·intro m e s2 s' ho k2 S2 T
  subst ho
  refine Jy0 ok S2 (hfrs _) rfl T fun s3 oe Ta oT k3 S3 hne La=>?_
  refine Jz0 (d:=.str m) ok S3 rfl rfl rfl rfl La ?_ ?_
  ·intro s4 P hP1 hP2 hh hc okp S4
   obtain ⟨vs',t,tk,ot,kt,q1,q2,q3,q4,q5⟩:=hh
   refine Ax0 (c:=(c.mark e).pins P) okp S4 (Ml0 okp (Cm1 okp rfl) rfl hP2 hc q1 q2 q3 q4 q5) fun v s5 S5 r=>⟨_,S5,v,rfl,r.mono (Ao0 (Dp0 okp))⟩
  ·intro v s5 hh
   exact ⟨v,rfl,hh.1,hh.2⟩
end
section
open PySem.Builtin PySem.Builtin.Str
inductive Finds (written part:Str):Nat→List Nat→Str→Prop
 | stop {p:Nat} {m:Str}:p ≤ written.length→Skips written p part (fun _=>false) true (.error m)→Finds written part p [] m
 | step {p k:Nat} {ks:List Nat} {m:Str}:p ≤ written.length→Skips written p part (fun _=>false) true (.ok k)→p ≤ k→Finds written part (k + 1) ks m→Finds written part p (k :: ks) m
theorem Finds.le {written part:Str} {p:Nat} {ks:List Nat} {m:Str} (h:Finds written part p ks m):p ≤ written.length:=by cases h <;> assumption
theorem Finds.len {written part:Str} {p:Nat} {ks:List Nat} {m:Str} (h:Finds written part p ks m):ks.length + p ≤ written.length:=by
 induction h with
 | stop h _=>simpa using h
 | step h1 _ h2 _ ih=>simp only [List.length_cons]; lia
theorem Cx1 (w:World) (written part:Str) (ks:List Nat) (m:Str) (so:SrcOk written) (hre:(reprText part).length ≤ 50000) (rel:Finds written part 0 ks m):FnD w 5 227 [.str written,.str part] (.tuple [.list (ks.map fun k=>.int (k:Nat)),.str m]):=by
 intro A fs X s vs am rv
 have hlen:=so.len
 obtain ⟨v1,v2,hQ113,r1,r2⟩:=rv.two; subst hQ113
 obtain ⟨l,hl,hfs,hfr⟩:=am.frames
 have hfrs:∀ env:Env,(A.deeper env).frames = some (env :: l):=fun env=>by
  show A.frames.map _ = _
  rw [hl]; rfl
 refine Ht0 (ps:=[oS "written",oS "part"]) (lvl:=4) am (am.wd.k 227 _ (show (KF w).lookup 227 = some _ from rfl)) (codeRec_of am.wd.k (show codeIn (KF w) (.ref 226) (oS "_law_found") = true from rfl)) rfl (BdAll.ofRd rv) (BindsTo.of_eq rfl) (by decide) (by rfl) (by decide) (by rfl) ?_
 intro X' fs' L s1 c Q E hX' ok S
 refine Mg0 (ds:=[]) ok S Ac0 (by decide) (.inl rfl) rfl fun a s2 ha1 ha2 _ S2=>?_
 refine Ap0 (d:=.int (0:Nat)) ok S2 Ar0 (.inl rfl) rfl rfl fun s3 S3=>?_
 let ρw:Nat × List Nat × List Nat→Rho:=fun q=>[(oS "pos",.val (.int q.1)),(oS "places",.own a (q.2.1.map fun k=>.int (k:Nat))),(oS "written",.val (.str written)),(oS "part",.val (.str part))]
 let Gw:Nat × List Nat × List Nat→Prop:=fun q=>Finds written part q.1 q.2.2 m∧ks = q.2.1 ++ q.2.2
 let μw:Nat × List Nat × List Nat→Nat:=fun q=>written.length + 1 - q.1
 let ρe:Unit→Rho:=fun _=>[]
 refine Qn0 ok ρw Gw μw ρe (fun _=>False) (0,[],ks) ⟨rel,rfl⟩ (S3.drop (.cons rfl (.cons rfl (.cons rfl (.cons rfl .nil))))) ?_ (fun _ _ h _=>h.elim)
 rintro ⟨p,done,left⟩ s4 ⟨hF,hks⟩ S4
 have hp:=hF.le
 have hkl:=rel.len
 have hdl:done.length ≤ 1000:=by rw [hks,List.length_append] at hkl; simp only at hkl; lia
 refine Cw0 ok (Aq0 ok (Aa0 ok rfl) (Ca0 ok (Cy0 ok rfl) (Aa0 ok rfl) (by exact Nat.lt_of_le_of_lt ‹_› (by decide))) (Bq0 ok _) La1) S4 (.refl _ _) fun s5 S5 _ _=>?_
 refine Yr0 (decide_eq_true (by show (p:Int) ≤ written.length; exact Int.ofNat_le.mpr ‹_›)) ?_
 refine wC (wpAny_Try_except ?_)
 clear S3 S2 S rel S4
 cases hF with
 | stop h1 sk =>
  refine wC (wpAny_Assign_Name (Kb0 (p:=p) (o:=.error m) ok S5 rfl rfl (Ab0 ok (Aa0 ok rfl) (Ab0 ok (Aa0 ok rfl) (Ab0 ok (Aa0 ok rfl) Ac0))) (Us0 ok rfl) (by decide) so (by exact Nat.le_trans ‹_› ‹_›) hre sk (hfrs _) (fun m v s' ho=>by cases ho) ?_) rfl)
  intro m' e s6 s' ho k6 S6 T
  cases ho
  refine Jy0 ok S6 (hfrs _) rfl T fun s7 oe Ta oT k7 S7 hne La=>?_
  refine Jz0 (d:=.tuple [.list (ks.map fun k=>.int (k:Nat)),.str m]) ok S7 rfl rfl rfl rfl La ?_ ?_
  ·intro s8 P hP1 hP2 hh hc okp S8
   obtain ⟨vs',t,tk,ot,kt,q1,q2,q3,q4,q5⟩:=hh
   rw [List.append_nil] at hks
   subst hks
   exact Qs0 okp S8 rfl ha1 (Ml0 okp (Cm1 okp rfl) rfl hP2 hc q1 q2 q3 q4 q5) fun v s9 S9 r=>⟨_,S9,v,rfl,r⟩
  ·intro v s9 hh
   exact ⟨v,rfl,hh.1,hh.2⟩
 | @step _ k ks' _ h1 sk h2 hF' =>
  have hk1:=hF'.le
  refine wC (wpAny_Assign_Name (Kb0 (p:=p) (o:=.ok k) ok S5 rfl rfl (Ab0 ok (Aa0 ok rfl) (Ab0 ok (Aa0 ok rfl) (Ab0 ok (Aa0 ok rfl) Ac0))) (Us0 ok rfl) (by decide) so (by lia) hre sk (hfrs _) ?_ (fun m e s1 s' ho=>by cases ho)) rfl)
  intro m' v s6 ho k6 S6 r6
  cases ho
  refine S6.store ok (.inl rfl) rfl r6 fun s7 S7 _ _=>wN (wN ?_)
  refine Ff0 ok S7 rfl (Aa0 ok rfl) ha1 ?_ (by simp; unfold sizeLine; exact Nat.le_trans ‹_› (by decide)) fun s8 S8=>?_
  ·intro y bb es hy hlk
   have:=Ag0 hlk
   simp [ρw] at this
   exact absurd this.1 hy
  ·refine Ap0 (d:=.int (max (p:Int) (k:Int) + 1)) ok S8 (Bi0 ok (Fu1 ok (Ik1 ok rfl) (Aa0 ok rfl) (Aa0 ok rfl)) Ar0) (.inl rfl) rfl rfl fun s9 S9=>wN ?_
   refine ⟨(k + 1,done ++ [k],ks'),by show _ - (k + 1) < _ - p; grind,⟨hF',by simp [hks]⟩,?_⟩
   have e1:max (p:Int) (k:Int) + 1 = ((k + 1:Nat):Int):=by grind
   rw [e1] at S9
   show St _ [(oS "pos",.val (.int ((k + 1:Nat):Int))),(oS "places",.own a ((done ++ [k]).map fun k=>.int (k:Nat))),(oS "written",.val (.str written)),(oS "part",.val (.str part))] s9
   rw [List.map_append]
   exact S9.drop (.cons rfl (.cons rfl (.cons rfl (.cons rfl .nil))))
end
noncomputable def Gz0 (x:Str):List Str:=(Bc0 x).filter fun y=>!Txt.contains (oS "ab") y
noncomputable def Kc0 (x:Str):Bool:=x != (oS "") && (PyData.list ((Gz0 x).map .str)).eqv (.list [])
theorem EvBs.cast {b b':Bool} (h:EvBs c ρ ifs b) (e:b = b'):EvBs c ρ ifs b':=e ▸ h
theorem Nz0 (w:World) (x:Str) (hx:x.length ≤ 1000) (ha:Asc x):FnD w 4 210 [.str x] (.bool (Kc0 x)):=by
 refine Cp0 (ps:=[oS "word"]) (by rfl) (by rfl) rfl (fun s vs hv=>?_) (by decide) (by rfl) (by decide) (by rfl) ?_
 ·obtain ⟨v,hQ114⟩:=Cg1 hv; subst hQ114
  exact BindsTo.of_eq rfl
 ·intro A X X0 fs fs0 s0 L s1 c ok S E
  refine Ji0 ok S ?_
  refine Ie1 ok ?_ ?_
  ·exact Ni0 ok (Aa0 ok rfl) Am0 (Bq0 ok _) Xu0
  ·intro _
   refine Ev1 (d1:=.list ((Gz0 x).map .str)) ok ?_ (Ek0 ok Ac0 (by decide)) (Ci0 fun y hy=>Ya0 ha y (List.mem_filter.mp hy).1) rfl (by rw [Cj0]; decide)
   refine Iw0 ok (Sl0 ok (Aa0 ok rfl)) ?_ rfl .nil (by decide) rfl (fun _ _ _=>.inl rfl) rfl (fun C X s1 ok' y hy=>Aq0 ok' (Aa0 ok' rfl) Am0 (Bq0 ok' _) Pk0) fun C X s1 ok' y hy _=>Aa0 ok' rfl
   simp [Bc0]; unfold Str.length at hx; unfold sizeLine; exact Nat.le_trans ‹_› (by decide)
noncomputable def Fh0 (y:Str):Str:=if y == oS "'" then oS "'\"'\"'" else y
noncomputable def Ak0 (x:Str):Str:=if Kc0 x then x else oS "'" ++ Txt.join (oS "") ((Bc0 x).map Fh0) ++ oS "'"
theorem Ge1 (w:World) (x:Str) (hx:x.length ≤ 1000) (ha:Asc x) (hj:JoinOk (oS "") ((Bc0 x).map Fh0) = true) (hl:(Txt.join (oS "") ((Bc0 x).map Fh0)).length ≤ 5000):FnD w 5 215 [.str x] (.str (Ak0 x)):=by
 refine Cp0 (ps:=[oS "word"]) (by rfl) (by rfl) rfl (fun s vs hv=>?_) (by decide) (by rfl) (by decide) (by rfl) ?_
 ·obtain ⟨v,hQ115⟩:=Cg1 hv; subst hQ115
  exact BindsTo.of_eq rfl
 ·intro A X X0 fs fs0 s0 L s1 c ok S E
  refine Em0 (b:=Kc0 x) ok S (Jf0 (Xw0 ok (by rfl) rfl (by rfl) (Ab0 ok (Aa0 ok rfl) Ac0) (Nz0 w x hx ha) (Nat.le_of_ble_eq_true rfl))) ?_ ?_
  ·intro hb s2 S2
   rw [show Ak0 x = x by unfold Ak0; rw [hb]; rfl]
   exact Ax0 ok S2 (Aa0 ok rfl) fun v s' S' r=>⟨S'.since,r.mono (Ao0 (Dp0 ok))⟩
  ·intro hb s2 S2
   refine wN ?_
   rw [show Ak0 x = oS "'" ++ Txt.join (oS "") ((Bc0 x).map Fh0) ++ oS "'" by unfold Ak0; rw [hb]; rfl]
   refine Ji0 ok S2 ?_
   refine Be0 ok (Be0 ok Am0 (Fs1 ok Am0 (EvD.toL ?_) hj) ?_) Am0 ?_
   ·rw [List.map_map]
    refine Bx0 ok (Sl0 ok (Aa0 ok rfl)) ?_ rfl .nil (by decide) rfl (fun _ _ _=>.inl rfl) rfl fun C X s1 ok' y hy=>?_
    ·simp [Bc0]; unfold Str.length at hx; unfold sizeLine; exact Nat.le_trans ‹_› (by decide)
    ·show EvD _ _ _ (.str (Fh0 y))
     unfold Fh0
     refine Ug0 ok' (Aq0 ok' (Aa0 ok' rfl) Am0 (Bq0 ok' _) Gq0) ?_ ?_
     ·intro hq; rw [hq]; exact Am0
     ·intro hq; rw [hq]; exact Aa0 ok' rfl
   ·show (oS "'").length + _ ≤ sizeLine
    have:(oS "'").length = 1:=by decide
    unfold sizeLine; lia
   ·have h1:(oS "'").length = 1:=by decide
    rw [Str.length_append]
    unfold sizeLine; lia
section
variable {α:Type} {f h:α→PyData} {p:α→Bool} {ys:List α} {t:Expr} {tpos py spos:Pos}
theorem Ut0 (ok:CxOk c) (S:St c ρ s) (hy:c.env.kindOf y = some .local) (hcd':(y == ("__classdict__" : Str)) = false) (hsw:swapsWith (.ListComp elt [⟨.Name x tpos,iter,[],0⟩] scope pos) (some (.Name y py)) spos.line c.env = pure true)
  (hi:EvI c ρ iter (ys.map f)) (hsz:ys.length ≤ sizeLine) (hclos:Cf0 c.env.cells scope.names [] = some cl) (hvis:Vis c.env scope cl ρ ρ') (hnd:(scope.names.map (·.1)).Nodup) (hkind:scope.kind = .function)
  (hx:Jj0 c ρ scope cl x) (hn:ρ'.lookup x = none) (he:∀ C X s1,CxOk (c.comp ρ scope cl C X s1)→∀ a ∈ ys,EvD (c.comp ρ scope cl C X s1) ((x,.val (f a)) :: ρ') elt (h a))
  (hr:∀ s',St c ((y,.val (.list (ys.map h))) :: ρ) s'→wpAny (MM c.w) c.A (execs rest c.env) Q E s')
  (hcd:(x == ("__classdict__" : Str)) = false:=by rfl) (hs:∀ x,foldedSetIterable iter c.env x = pure x:=by intro _; rfl):wpAny (MM c.w) c.A (execs (.Assign [.Name y py] (.ListComp elt [⟨.Name x tpos,iter,[],0⟩] scope pos) spos :: rest) c.env) Q E s:=by
 refine Dg0 (V:=fun a g v=>Rd g v (f a)) (g:=fun a=>some (h a)) ok S hy hcd' hsw (Nk0 hi) hsz hclos hvis hnd hkind (fun C X s1 ok' i a ha=>Cj1 (p:=fun _=>true) hx hn hcd C X s1 ok' a Fq0 fun _=>he C X s1 ok' a (List.mem_of_getElem? ha)) (fun _ _ _ _ k r=>r.mono' k) (fun s' S'=>hr s' ?_) hs
 rwa [show (fun a=>some (h a)) = some ∘ h from rfl,List.filterMap_eq_map] at S'
theorem Cy1 (ok:CxOk c) (S:St c ρ s) (hy:c.env.kindOf y = some .local) (hcd':(y == ("__classdict__" : Str)) = false) (hsw:swapsWith (.ListComp elt [⟨.Name x tpos,iter,[t],0⟩] scope pos) (some (.Name y py)) spos.line c.env = pure true)
  (hi:EvI c ρ iter (ys.map f)) (hsz:ys.length ≤ sizeLine) (hclos:Cf0 c.env.cells scope.names [] = some cl) (hvis:Vis c.env scope cl ρ ρ') (hnd:(scope.names.map (·.1)).Nodup) (hkind:scope.kind = .function)
  (hx:Jj0 c ρ scope cl x) (hn:ρ'.lookup x = none) (ht:∀ C X s1,CxOk (c.comp ρ scope cl C X s1)→∀ a ∈ ys,EvB (c.comp ρ scope cl C X s1) ((x,.val (f a)) :: ρ') t (p a))
  (he:∀ C X s1,CxOk (c.comp ρ scope cl C X s1)→∀ a ∈ ys,p a = true→EvD (c.comp ρ scope cl C X s1) ((x,.val (f a)) :: ρ') elt (h a))
  (hr:∀ s',St c ((y,.val (.list ((ys.filter p).map h))) :: ρ) s'→wpAny (MM c.w) c.A (execs rest c.env) Q E s')
  (hcd:(x == ("__classdict__" : Str)) = false:=by rfl) (hs:∀ x,foldedSetIterable iter c.env x = pure x:=by intro _; rfl):wpAny (MM c.w) c.A (execs (.Assign [.Name y py] (.ListComp elt [⟨.Name x tpos,iter,[t],0⟩] scope pos) spos :: rest) c.env) Q E s:=by
 refine Dg0 (V:=fun a g v=>Rd g v (f a)) (g:=fun a=>if p a = true then some (h a) else none) ok S hy hcd' hsw (Nk0 hi) hsz hclos hvis hnd hkind (fun C X s1 ok' i a ha=>Cj1 hx hn hcd C X s1 ok' a (Gt0 ok' (ht C X s1 ok' a (List.mem_of_getElem? ha))) (he C X s1 ok' a (List.mem_of_getElem? ha))) (fun _ _ _ _ k r=>r.mono' k) (fun s' S'=>hr s' ?_) hs
 rwa [Fe0] at S'
end
noncomputable def apo:Str:=oS "'"
noncomputable def Da0 (part word:Str):List Nat:=(List.range word.length).filter fun k=>Txt.slice word (some (k:Int)) (some ((k:Int) + (part.length:Int))) == part
noncomputable def Ha0 (word:Str) (k:Nat):Nat:=((Bc0 (Txt.slice word none (some (k:Int)))).filter fun y=>y == apo).length
noncomputable def Hb0 (run pieces:List Str):List Nat:=(List.range pieces.length).filter fun k=>(PyData.list ((Nj0 pieces (some (k:Int)) (some ((k:Int) + (run.length:Int)))).map .str)).eqv (.list (run.map .str))
noncomputable def Ft0 (pieces:List Str) (k:Nat):Int:=((Nj0 pieces none (some (k:Int))).map fun p=>(p.length:Int)).sum
noncomputable def Al0 (part word:Str):List Int :=
 if Kc0 part then (if Kc0 word then (Da0 part word).map (fun (k:Nat)=>(k:Int)) else (Da0 part word).map fun (k:Nat)=>1 + (k:Int) + 4 * (Ha0 word k:Int))
 else if Kc0 word then [] else (Hb0 (Txt.split part apo) (Txt.split word apo)).map fun (k:Nat)=>Ft0 (Txt.split word apo) k + 5 * (k:Int)
theorem Uu0 {α β:Type} (f:α→β) (l:List α) (lo hi:Option Int):Nj0 (l.map f) lo hi = (Nj0 l lo hi).map f:=by
 unfold Nj0; simp [List.map_take,List.map_drop]
theorem Ev.castD {d':PyData} (h:EvD c ρ e d) (q:d = d'):EvD c ρ e d':=q ▸ h
theorem Cz1 {n i:Nat} (h:(Cd1 n)[i]? = some d):∃ k:Nat,k < n∧d = .int (k:Int):=by
 unfold Cd1 at h
 rw [List.getElem?_map] at h
 obtain ⟨k,hk,hQ116⟩:=Option.map_eq_some_iff.mp h; subst hQ116
 exact ⟨k,List.mem_range.mp (List.mem_of_getElem? hk),rfl⟩
theorem Yv0 (w:World) (part word:Str) (hp:part.length ≤ 1000) (hw:word.length ≤ 1000) (ap:Asc part) (aw:Asc word) (hs1:(Txt.split part apo).length ≤ 2000) (hs2:(Txt.split word apo).length ≤ 2000)
  (hl2:∀ p ∈ Txt.split word apo,p.length ≤ 1000) (ha1:∀ p ∈ Txt.split part apo,Asc p) (ha2:∀ p ∈ Txt.split word apo,Asc p):FnD w 5 220 [.str part,.str word] (.list ((Al0 part word).map .int)):=by
 refine Cp0 (ps:=[oS "part",oS "word"]) (by rfl) (by rfl) rfl (fun s vs hv=>?_) (by decide) (by rfl) (by decide) (by rfl) ?_
 ·obtain ⟨v,u,hQ117⟩:=Hy1 hv; subst hQ117
  exact BindsTo.of_eq rfl
 ·intro A X X0 fs fs0 s0 L s1 c ok S E
  refine Em0 (b:=Kc0 part) ok S (Jf0 (Gg0 ok (Hu0 w) rfl (Hv0 w) (Ab0 ok (Aa0 ok rfl) Ac0) (Nz0 w part hp ap) (Nat.le_of_ble_eq_true rfl))) ?_ ?_
  ·intro hb s2 S2
   refine Cy1 (f:=fun (k:Nat)=>PyData.int (k:Int)) (h:=fun (k:Nat)=>PyData.int (k:Int)) (p:=fun (k:Nat)=>Txt.slice word (some (k:Int)) (some ((k:Int) + (part.length:Int))) == part) (ys:=List.range word.length) (ρ':=[(oS "part",.val (.str part)),(oS "word",.val (.str word))])
    ok S2 rfl rfl rfl (Bw0 ok (Dq0 ok rfl) (Ca0 ok (Cy0 ok rfl) (Aa0 ok rfl) (by exact Nat.lt_of_le_of_lt ‹_› (by decide))) (by exact Nat.lt_of_le_of_lt ‹_› (by decide))) (by rw [List.length_range]; unfold sizeLine; exact Nat.le_trans ‹_› (by decide)) rfl ?_ (by decide) rfl (fun _ _ _=>.inl rfl) rfl (fun C X s1 ok' k hk=>?_) (fun C X s1 ok' k hk _=>Aa0 ok' rfl) ?_
   ·exact .cons rfl (.inl rfl) rfl rfl rfl rfl (.cons rfl (.inl rfl) rfl rfl rfl rfl .nil)
   ·refine Aq0 ok' (Cu0 ok' (Aa0 ok' rfl) ?_ ?_ (by unfold sizeLine; exact Nat.le_trans ‹_› (by decide))) (Aa0 ok' rfl) (Bq0 ok' _) Gq0
    ·exact Aa0 ok' rfl
    ·exact Bi0 ok' (Aa0 ok' rfl) (Ca0 ok' (Cy0 ok' rfl) (Aa0 ok' rfl) (by exact Nat.lt_of_le_of_lt ‹_› (by decide)))
   ·intro s3 S3
    have S3:St c ((_,.val (.list ((Da0 part word).map fun (k:Nat)=>.int (k:Int)))) :: _) s3:=S3
    have hlen:(Da0 part word).length ≤ 1000:=Nat.le_trans (List.length_filter_le _ _) (by simpa using hw)
    have hmem:∀ k ∈ Da0 part word,k < word.length:=fun k hk=>List.mem_range.mp (List.mem_filter.mp hk).1
    refine Em0 (b:=Kc0 word) ok S3 (Jf0 (Gg0 ok (Hu0 w) rfl (Hv0 w) (Ab0 ok (Aa0 ok rfl) Ac0) (Nz0 w word hw aw) (Nat.le_of_ble_eq_true rfl))) ?_ ?_
    ·intro hb2 s4 S4
     refine Ax0 ok S4 (d:=.list ((Al0 part word).map .int)) ?_ fun v s' S' r=>⟨S'.since,r.mono (Ao0 (Dp0 ok))⟩
     rw [show (Al0 part word).map PyData.int = (Da0 part word).map (fun (k:Nat)=>PyData.int (k:Int)) by unfold Al0; rw [hb,hb2]; simp [Function.comp_def]]
     exact Aa0 ok rfl
    ·intro hb2 s4 S4
     refine wN ?_
     refine Ax0 ok S4 (d:=.list ((Al0 part word).map .int)) ?_ fun v s' S' r=>⟨S'.since,r.mono (Ao0 (Dp0 ok))⟩
     rw [show (Al0 part word).map PyData.int = (Da0 part word).map (fun (k:Nat)=>PyData.int (1 + (k:Int) + 4 * (Ha0 word k:Int))) by unfold Al0; rw [hb,hb2]; simp [Function.comp_def]]
     refine Bx0 (f:=fun (k:Nat)=>PyData.int (k:Int)) (ρ':=[(oS "word",.val (.str word))]) ok (Bl0 ok (EvD.toL (Aa0 ok rfl))) (by unfold sizeLine; exact Nat.le_trans ‹_› (by decide)) rfl ?_ (by decide) rfl (fun _ _ _=>.inl rfl) rfl fun C X s1 ok' k hk=>?_
     ·exact .cons rfl (.inl rfl) rfl rfl rfl rfl .nil
     ·have hk2:=hmem k hk
      have hsg:(Bc0 (Txt.slice word none (some (k:Int)))).length ≤ word.length:=by
       have:=Txt.slice_le word none (some (k:Int))
       simp only [Bc0,List.length_map,Array.length_toList]
       exact this
      refine Bi0 ok' (Bi0 ok' Ar0 (Aa0 ok' rfl)) (Lx0 ok' Ar0 ?_ (by mul_fits))
      unfold Ha0
      rw [← List.length_map PyData.str]
      refine Ea0 ok' (Cy0 ok' rfl) (EvD.toL (Iw0 ok' (Sl0 ok' (Cu0 ok' (Aa0 ok' rfl) (l:=none) (u:=some (k:Int)) trivial ?_ (by unfold sizeLine; exact Nat.le_trans ‹_› (by decide)))) ?_ rfl .nil (by decide) rfl (fun _ _ _=>.inl rfl) rfl (fun C X s1 ok2 y hy=>Aq0 ok2 (Aa0 ok2 rfl) Am0 (Bq0 ok2 _) Gq0) fun C X s1 ok2 y hy _=>Aa0 ok2 rfl)) ?_
      ·exact Aa0 ok' rfl
      ·unfold sizeLine; exact Nat.le_trans (Nat.le_trans ‹_› ‹_›) (by decide)
      ·rw [List.length_map]; exact Nat.lt_of_le_of_lt (Nat.le_trans (List.length_filter_le _ _) (Nat.le_trans hsg hw)) (by decide)
  ·intro hb s2 S2
   refine wN ?_
   refine Em0 (b:=Kc0 word) ok S2 (Jf0 (Gg0 ok (Hu0 w) rfl (Hv0 w) (Ab0 ok (Aa0 ok rfl) Ac0) (Nz0 w word hw aw) (Nat.le_of_ble_eq_true rfl))) ?_ ?_
   ·intro hb2 s4 S4
    refine Ax0 ok S4 (d:=.list ((Al0 part word).map .int)) ?_ fun v s' S' r=>⟨S'.since,r.mono (Ao0 (Dp0 ok))⟩
    rw [show (Al0 part word).map PyData.int = [] by unfold Al0; rw [hb,hb2]; rfl]
    exact Ek0 ok Ac0 (by decide)
   ·intro hb2 s4 S4
    refine wN ?_
    refine Ap0 (d:=.list ((Txt.split part apo).map .str)) ok S4 (Np0 (y:=apo) ok (Aa0 ok rfl) Am0 rfl (by unfold sizeLine; lia)) (.inr ⟨rfl,rfl,rfl⟩) rfl rfl ?_
    intro s5 S5
    refine Ap0 (d:=.list ((Txt.split word apo).map .str)) ok S5 (Np0 (y:=apo) ok (Aa0 ok rfl) Am0 rfl (by unfold sizeLine; lia)) (.inr ⟨rfl,rfl,rfl⟩) rfl rfl ?_
    intro s6 S6
    refine Ax0 ok S6 (d:=.list ((Al0 part word).map .int)) ?_ fun v s' S' r=>⟨S'.since,r.mono (Ao0 (Dp0 ok))⟩
    have hpl:Al0 part word = (Hb0 (Txt.split part apo) (Txt.split word apo)).map fun (k:Nat)=>Ft0 (Txt.split word apo) k + 5 * (k:Int):=by unfold Al0; rw [hb,hb2]; rfl
    rw [hpl]
    have hpk:∀ lo hi,∀ p ∈ Nj0 (Txt.split word apo) lo hi,p ∈ Txt.split word apo:=fun lo hi p hp=>List.mem_of_mem_drop (List.mem_of_mem_take hp)
    have hpl:∀ lo hi,(Nj0 (Txt.split word apo) lo hi).length ≤ 2000:=fun lo hi=>by unfold Nj0; rw [List.length_take,List.length_drop]; lia
    rw [List.map_map]
    refine Iw0 (f:=fun (k:Nat)=>PyData.int (k:Int)) (ys:=List.range (Txt.split word apo).length) (ρ':=[(oS "pieces",.val (.list ((Txt.split word apo).map .str))),(oS "run",.val (.list ((Txt.split part apo).map .str)))]) ok
     (Bw0 ok (Dq0 ok rfl) ?_ (by exact Nat.lt_of_le_of_lt ‹_› (by decide))) (by rw [List.length_range]; unfold sizeLine; exact Nat.le_trans ‹_› (by decide)) rfl ?_ (by decide) rfl (fun _ _ _=>.inl rfl) rfl (fun C X s1 ok' k hk=>?_) fun C X s1 ok' k hk _=>?_
    ·exact (Ea0 ok (Cy0 ok rfl) (EvD.toL (Aa0 ok rfl)) (by rw [List.length_map]; exact Nat.lt_of_le_of_lt ‹_› (by decide))).castD (by rw [List.length_map])
    ·exact .cons rfl (.inl rfl) rfl rfl rfl rfl (.cons rfl (.inl rfl) rfl rfl rfl rfl .nil)
    ·refine Nn0 ok' ?_ (Aa0 ok' rfl) (Ci0 fun y hy=>ha2 y (hpk _ _ y hy)) (Ci0 ha1) (by rw [Cj0]; decide)
     rw [← Uu0]
     refine Cb0 ok' (EvD.toL (Aa0 ok' rfl)) ?_ ?_ (by rw [List.length_map]; unfold sizeLine; exact Nat.le_trans ‹_› (by decide))
     ·exact Aa0 ok' rfl
     ·exact Bi0 ok' (Aa0 ok' rfl) ((Ea0 ok' (Cy0 ok' rfl) (EvD.toL (Aa0 ok' rfl)) (by rw [List.length_map]; exact Nat.lt_of_le_of_lt ‹_› (by decide))).castD (by rw [List.length_map]))
    ·have hk:=List.mem_range.mp hk
     show EvD _ _ _ (.int (Ft0 (Txt.split word apo) k + 5 * (k:Int)))
     refine Bi0 ok' ?_ (Lx0 ok' Ar0 (Aa0 ok' rfl) (by mul_fits))
     unfold Ft0
     refine Ij1 ok' (Le1 ok' rfl) (EvD.toL ?_)
     rw [List.map_map]
     refine Bx0 (f:=PyData.str) (ys:=Nj0 (Txt.split word apo) none (some (k:Int))) ok' (Uu0 PyData.str .. ▸ Bl0 ok' (EvD.toL (Cb0 ok' (EvD.toL (Aa0 ok' rfl)) (l:=none) (u:=some (k:Int)) trivial ?_ (by rw [List.length_map]; unfold sizeLine; exact Nat.le_trans ‹_› (by decide))))) ?_ rfl .nil (by decide) rfl (fun _ _ _=>.inl rfl) rfl fun C X s1 ok2 y hy=>?_
     ·exact Aa0 ok' rfl
     ·exact Nat.le_trans (hpl _ _) (by decide)
     ·have hyl:=hl2 y (hpk _ _ y hy)
      exact Ca0 ok2 (Cy0 ok2 rfl) (Aa0 ok2 rfl) (by exact Nat.lt_of_le_of_lt ‹_› (by decide))
noncomputable def lf:Str:=oS "\n"
noncomputable def Lr0:Str:=oS "#"
noncomputable def Qt0 (ahead:List Str):Str :=
 oS "Found invalid character '#' (at line " ++ oS (toString (ahead.length:Int)) ++ oS ", column " ++ oS (toString (((ahead.getLast?.getD Str.empty).length:Int) + 1)) ++ oS ")"
noncomputable def Bh0 (written:Str) (stop:Int):PyData :=
 if Txt.find (Txt.slice written none (some stop)) Lr0 < 0 then .int stop
 else .str (Qt0 (Txt.split (Txt.slice written none (some (Txt.find (Txt.slice written none (some stop)) Lr0))) lf))
theorem Eo0 {n:Nat} (h:n < 10 ^ 6):(oS (toString (n:Int))).length ≤ 10:=by
 rw [PyProof.Rows.ofString_len]
 have:=int_text_length_le10 (a:=(n:Int)) (k:=6) (by decide) (by simpa using h)
 exact Nat.le_trans ‹_› (by decide)
theorem Mm0 {m:Nat} (h:m < 2 ^ 20):m.log2 < 1920:=by
 by_cases q:m = 0
 ·subst q; decide
 ·have:=(Nat.log2_lt q).mpr h; exact Nat.lt_of_lt_of_le ‹_› (by decide)
theorem Qu0 (w:World) (written:Str) (stop:Int) (hw:written.length ≤ 10000)
  (hs:∀ p:Int,(Txt.split (Txt.slice written none (some p)) lf).length ≤ 10000∧Txt.split (Txt.slice written none (some p)) lf ≠ []∧∀ y ∈ Txt.split (Txt.slice written none (some p)) lf,y.length ≤ 10000) :
  FnD w 4 241 [.str written,.int stop] (Bh0 written stop):=by
 refine Cp0 (ps:=[oS "written",oS "stop"]) (by rfl) (by rfl) rfl (fun s vs hv=>?_) (by decide) (by rfl) (by decide) (by rfl) ?_
 ·obtain ⟨v,u,hQ118⟩:=Hy1 hv; subst hQ118
  exact BindsTo.of_eq rfl
 ·intro A X X0 fs fs0 s0 L s1 c ok S E
  have hsl:∀ p:Int,(Txt.slice written none (some p)).length ≤ 10000:=fun p=>Nat.le_trans (Txt.slice_le _ _ _) hw
  refine Ap0 (d:=.int (Txt.find (Txt.slice written none (some stop)) Lr0)) ok S (Fr1 (y:=Lr0) ok (Cu0 ok (Aa0 ok rfl) (l:=none) (u:=some stop) trivial ?_ (by unfold sizeLine; exact Nat.le_trans ‹_› (by decide))) Am0) (.inl rfl) rfl rfl ?_
  ·exact Aa0 ok rfl
  intro s2 S2
  refine Em0 (b:=decide (Txt.find (Txt.slice written none (some stop)) Lr0 < 0)) ok S2 (Aq0 ok (Aa0 ok rfl) Ar0 (Bq0 ok _) Id1) ?_ ?_
  ·intro hb s3 S3
   refine Ax0 ok S3 (d:=Bh0 written stop) ?_ fun v s' S' r=>⟨S'.since,r.mono (Ao0 (Dp0 ok))⟩
   rw [show Bh0 written stop = .int stop by unfold Bh0; rw [if_pos (by simpa using hb)]]
   exact Aa0 ok rfl
  ·intro hb s3 S3
   refine wN ?_
   obtain ⟨h1,h2,h3⟩:=hs (Txt.find (Txt.slice written none (some stop)) Lr0)
   refine Ap0 (d:=.list ((Txt.split (Txt.slice written none (some (Txt.find (Txt.slice written none (some stop)) Lr0))) lf).map .str)) ok S3 (Np0 (y:=lf) ok (Cu0 ok (Aa0 ok rfl) (l:=none) (u:=some (Txt.find (Txt.slice written none (some stop)) Lr0)) trivial ?_ (by unfold sizeLine; exact Nat.le_trans ‹_› (by decide))) Am0 rfl ?_) (.inl rfl) rfl rfl ?_
   ·exact Aa0 ok rfl
   ·have:=hsl (Txt.find (Txt.slice written none (some stop)) Lr0); unfold sizeLine; lia
   intro s4 S4
   refine Ax0 ok S4 (d:=Bh0 written stop) ?_ fun v s' S' r=>⟨S'.since,r.mono (Ao0 (Dp0 ok))⟩
   rw [show Bh0 written stop = .str (Qt0 (Txt.split (Txt.slice written none (some (Txt.find (Txt.slice written none (some stop)) Lr0))) lf)) by unfold Bh0; rw [if_neg (by simpa using hb)]]
   generalize Txt.split (Txt.slice written none (some (Txt.find (Txt.slice written none (some stop)) Lr0))) lf = ahead at *
   unfold Qt0
   have hlast:∃ y,ahead.getLast? = some y∧y ∈ ahead:=by
    cases hq:ahead.getLast? with
    | none=>rw [List.getLast?_eq_none_iff] at hq; exact absurd hq h2
    | some y=>exact ⟨y,rfl,List.mem_of_getLast? hq⟩
   obtain ⟨y,hy1,hy2⟩:=hlast
   have hy3:=h3 y hy2
   have t1:=Eo0 (n:=ahead.length) (by exact Nat.lt_of_le_of_lt ‹_› (by decide))
   have t2:=Eo0 (n:=y.length + 1) (by lia)
   rw [hy1,Option.getD_some]
   have l1:(oS "Found invalid character '#' (at line ").length = 37:=by decide +kernel
   have l2:(oS ", column ").length = 9:=by decide +kernel
   have l3:(oS ")").length = 1:=by decide +kernel
   have hpos:0 < ahead.length:=List.length_pos_iff.mpr h2
   refine Be0 ok (Be0 ok (Be0 ok (Be0 ok Am0 (Pp0 ok (Cm1 ok rfl) ?_ ?_) ?_) Am0 ?_) (Pp0 ok (Cm1 ok rfl) (Bi0 ok (Ca0 ok (Cy0 ok rfl) (Sj0 (k:=-1) (d:=.str y) ok (EvD.toL (Aa0 ok rfl)) (Hs0 Ar0) (by decide) ?_ ?_ (by decide)) ?_) Ar0) ?_) ?_) Am0 ?_
   ·exact (Ea0 ok (Cy0 ok rfl) (EvD.toL (Aa0 ok rfl)) (by rw [List.length_map]; exact Nat.lt_of_le_of_lt ‹_› (by decide))).castD (by rw [List.length_map])
   ·simp only [Int.natAbs_natCast]; exact Mm0 (by exact Nat.lt_of_le_of_lt ‹_› (by decide))
   ·rw [l1]; unfold sizeLine; lia
   ·simp only [Str.length_append]; unfold sizeLine; lia
   ·rw [List.length_map]; lia
   ·rw [List.length_map,List.getElem?_map]
    have:((-1 + (ahead.length:Int))).toNat = ahead.length - 1:=by exact Ms1 ‹_›
    rw [this,← List.getLast?_eq_getElem?,hy1]; rfl
   ·exact Nat.lt_of_le_of_lt ‹_› (by decide)
   ·have:((y.length:Int) + 1).natAbs = y.length + 1:=by rfl
    rw [this]; exact Mm0 (by lia)
   ·have e2:((y.length:Int) + 1) = ((y.length + 1:Nat):Int):=by rfl
    rw [e2]
    simp only [Str.length_append]; unfold sizeLine; lia
   ·have e2:((y.length:Int) + 1) = ((y.length + 1:Nat):Int):=by rfl
    rw [e2]
    simp only [Str.length_append]; unfold sizeLine; lia
noncomputable def Oa0 (p:Str):Str:=oS "Expected " ++ reprText (Ak0 p) ++ oS " (at end of document)"
noncomputable def Gb0 (words:List Str) (word:Str):List PyData:=words.map fun p=>.tuple [.list ((Al0 p word).map .int),.str (Oa0 p)]
noncomputable def Wt0 (words:List Str):PyData:=.list (words.map fun word=>.list (Gb0 words word))
theorem Mn0 {α β:Type} (l:List α) (d:α) (f:α→β):((List.range l.length).map fun j=>f (l.getD j d)) = l.map f:=by
 apply List.ext_getElem
 ·simp
 ·intro i h1 h2
  simp at h1 h2
  simp [List.getD,h2]
theorem Ja1 (w:World) (words:List Str) (hn:words.length ≤ 100) (hT:∀ p ∈ words,FnD w 5 215 [.str p] (.str (Ak0 p))) (hP:∀ p ∈ words,∀ q ∈ words,FnD w 5 220 [.str p,.str q] (.list ((Al0 p q).map .int)))
  (hl:∀ p ∈ words,(reprText (Ak0 p)).length ≤ 100000):FnD w 6 251 [.list (words.map .str)] (Wt0 words):=by
 refine Cp0 (ps:=[oS "words"]) (by rfl) (by rfl) rfl (fun s vs hv=>?_) (by decide) (by rfl) (by decide) (by rfl) ?_
 ·obtain ⟨v,hQ119⟩:=Cg1 hv; subst hQ119
  exact BindsTo.of_eq rfl
 ·intro A X X0 fs fs0 s0 L s1 c ok S E
  refine Ap0 (d:=.list ((words.map Oa0).map .str)) ok S ?_ (.inr ⟨rfl,rfl,rfl⟩) rfl rfl ?_
  ·rw [List.map_map]
   refine Bx0 ok (Bl0 ok (EvD.toL (Aa0 ok rfl))) (by unfold sizeLine; exact Nat.le_trans ‹_› (by decide)) rfl .nil (by decide) rfl (fun _ _ _=>.inl rfl) rfl fun C X s1 ok' p hpm=>?_
   show EvD _ _ _ (.str (Oa0 p))
   have l1:(oS "Expected ").length = 9:=by decide +kernel
   have l2:(oS " (at end of document)").length = 21:=by decide +kernel
   have l3:=hl p hpm
   unfold Oa0
   refine Be0 ok' (Be0 ok' Am0 (Ft1 ok' (Im1 ok' rfl) (Gg0 ok' (Md0 w) rfl (Mf0 w) (Ab0 ok' (Aa0 ok' rfl) Ac0) (hT p hpm) (Nat.le_of_ble_eq_true rfl)) ?_) ?_) Am0 ?_
   ·unfold sizeLine; exact Nat.le_trans ‹_› (by decide)
   ·rw [l1]; unfold sizeLine; lia
   ·simp only [Str.length_append]; unfold sizeLine; lia
  ·intro s2 S2
   refine Ax0 ok S2 (d:=Wt0 words) ?_ fun v s' S' r=>⟨S'.since,r.mono (Ao0 (Dp0 ok))⟩
   refine Bx0 (ρ':=[(oS "words",.val (.list (words.map .str))),(oS "ends",.val (.list ((words.map Oa0).map .str)))]) ok (Bl0 ok (EvD.toL (Aa0 ok rfl))) (by unfold sizeLine; exact Nat.le_trans ‹_› (by decide)) rfl ?_ (by decide) rfl (fun _ _ _=>.inr ⟨rfl,rfl,rfl⟩) rfl fun C X s1 ok' q hqm=>?_
   ·exact .cons rfl (.inl rfl) rfl rfl rfl rfl (.cons rfl (.inl rfl) rfl rfl rfl rfl .nil)
   ·show EvD _ _ _ (.list (words.map fun p=>.tuple [.list ((Al0 p q).map .int),.str (Oa0 p)]))
    rw [← Mn0 words Str.empty fun p=>PyData.tuple [.list ((Al0 p q).map .int),.str (Oa0 p)]]
    refine Bx0 (ρ':=[(oS "word",.val (.str q)),(oS "words",.val (.list (words.map .str))),(oS "ends",.val (.list ((words.map Oa0).map .str)))]) ok'
     (Bw0 ok' (Dq0 ok' rfl) ((Ea0 ok' (Cy0 ok' rfl) (EvD.toL (Aa0 ok' rfl)) (by rw [List.length_map]; exact Nat.lt_of_le_of_lt ‹_› (by decide))).castD (by rw [List.length_map])) (by exact Nat.lt_of_le_of_lt ‹_› (by decide))) (by rw [List.length_range]; unfold sizeLine; exact Nat.le_trans ‹_› (by decide)) rfl ?_ (by decide) rfl (fun _ _ _=>.inl rfl) rfl fun C X s1 ok2 j hj=>?_
    ·exact .cons rfl (.inl rfl) rfl rfl rfl rfl (.cons rfl (.inl rfl) rfl rfl rfl rfl (.cons rfl (.inl rfl) rfl rfl rfl rfl .nil))
    ·have hj:=List.mem_range.mp hj
     have hjw:words[j]? = some (words.getD j Str.empty):=by simp [List.getD,hj]
     have hjm:=List.mem_of_getElem? hjw
     refine Cn0 ok2 (Ab0 ok2 (Gg0 ok2 (Pr0 w) rfl (Px0 w) (Ab0 ok2 (Bk0 ok2 (EvD.toL (Aa0 ok2 rfl)) (Aa0 ok2 rfl) (by exact Int.natCast_nonneg _) ?_ (by lia)) (Ab0 ok2 (Aa0 ok2 rfl) Ac0)) (hP _ hjm q hqm) (Nat.le_of_ble_eq_true rfl)) (Ab0 ok2 (Bk0 ok2 (EvD.toL (Aa0 ok2 rfl)) (Aa0 ok2 rfl) (by exact Int.natCast_nonneg _) ?_ (by lia)) Ac0)) (by show 2 ≤ sizeLine; decide)
     ·rw [show (((j:Int).toNat:Nat)) = j by rfl,List.getElem?_map,hjw]; rfl
     ·rw [show (((j:Int).toNat:Nat)) = j by rfl,List.getElem?_map,List.getElem?_map,hjw]; rfl
noncomputable def frQ (c:Cx) (ρ ρb:Rho) (P PB:Prop):Flow→Shared→Prop
 | .next,s=>St c ρ s∧P
 | .cont,s=>St c ρ s∧P
 | .brk,s=>St c ρb s∧PB
 | .ret _,_=>False
theorem Wu0 {α:Type} {f:α→PyData} {ys:List α} {ρs:Nat→Rho} {ρb:Rho} {tpos:Pos} (P:Nat→Prop) (PB:Prop) (ok:CxOk c) (S:St c (ρs 0) s)
  (hi:Cc1 c (ρs 0) true iter (ys.map f)) (h0:P 0) (hx:c.env.kindOf y = some .local ∨ (c.env.kindOf y = some .cell∧(c.env.cells.lookup y).isSome = true∧c.cn.contains y = true))
  (turn:∀ i a pins s',ys[i]? = some a→CxOk (c.pins pins)→P i→St (c.pins pins) ((y,.val (f a)) :: ρs i) s'→∀ E',wpAny (MM (c.pins pins).w) (c.pins pins).A (execs body (c.pins pins).env) (frQ (c.pins pins) (ρs (i + 1)) ρb (P (i + 1)) PB) E' s')
  (hend:∀ s',P ys.length→St c (ρs ys.length) s'→wpAny (MM c.w) c.A (execs rest c.env) Q E s')
  (hbrk:∀ s',PB→St c ρb s'→wpAny (MM c.w) c.A (execs rest c.env) Q E s')
  (hcd:(y == ("__classdict__" : Str)) = false:=by rfl) (hs:∀ x,foldedSetIterable iter c.env x = pure x:=by intro _; rfl):wpAny (MM c.w) c.A (execs (.For (.Name y tpos) iter body [] pos :: rest) c.env) Q E s:=by
 refine Yh0 (ds:=ys.map f) (ρs:=ρs) (fun i Y _=>Y = []∧P i) [] (fun s'=>St c ρb s'∧PB) (fun _ _=>False) ok S hi ⟨rfl,h0⟩ (fun _ _ _ _ _ h=>h) (fun i Y h e a ha=>by rw [e.1] at ha; cases ha) ?_ ?_ (fun s' h=>hbrk s' h.2 h.1) (fun _ _ h=>h.elim) hs
 ·intro i d pins Y hd hi15 okp
  obtain ⟨_,hY,_⟩:=hi15
  subst hY
  rw [List.getElem?_map] at hd
  obtain ⟨a,ha,hQ120⟩:=Option.map_eq_some_iff.mp hd; subst hQ120
  refine ⟨_,Iv0 okp hx hcd,fun sa Sa hJ E'=>wM (turn i a pins sa ha (ok.pins pins) hJ.2 Sa E') (fun fl s'' h=>?_) fun _ _ x=>x⟩
  cases fl with
  | next=>exact ⟨[],h.1,rfl,h.2⟩
  | cont=>exact ⟨[],h.1,rfl,h.2⟩
  | brk=>exact fun hp=>⟨St.unpin h.1 hp,h.2⟩
  | ret v=>exact h.elim
 ·intro Y s' S hi16
  obtain ⟨hY,h⟩:=hi16
  subst hY
  rw [List.length_map] at S h
  exact hend s' h S
theorem KpL.trans {s'':Shared} (x:KpL c s s') (y:KpL c s' s''):KpL c s s'':=fun a o h1 h2 e=>y a o h1 h2 (x a o h1 h2 e)
noncomputable abbrev Hc0 (c:Cx) (x:Str):Prop:=c.env.kindOf x = some .local ∨ (c.env.kindOf x = some .cell∧(c.env.cells.lookup x).isSome = true∧c.cn.contains x = true)
theorem Da1 {p1 p2:Pos} {kk:Nat} {d1 d2:PyData} (ok:CxOk c) (hl3:Nat.ble 3 c.lvl = true) (hx:Hc0 c x) (hy:Hc0 c y) (hcx:(x == ("__classdict__" : Str)) = false) (hcy:(y == ("__classdict__" : Str)) = false) :
  Asg c ρ (.Tuple [.Name x p1,.Name y p2] kk pos) (.tuple [d1,d2]) [(y,.val d2),(x,.val d1)]:=fun s v S r E Q h=>by
 obtain ⟨t,vs,n,sl,hQ121,e,rr⟩:=r.tuple_inv; subst hQ121
 obtain ⟨v1,v2,e2,r1,r2⟩:=rr.two
 have hvs:vs = #[v1,v2]:=by rw [← Array.toList_inj]; exact e2
 subst hvs
 refine assign_Tuple_tuple (ok.hand hl3) ⟨_,Ah0 e,rfl,n,rfl⟩ rfl rfl fun h' he=>?_
 have hk:∀ b o,s.heap.get? b = some o→h'.get? b = some o:=fun b o eb=>he b o (Nat.ne_of_lt (Heap.lt_size eb)) eb
 have k1:Kp c.fs s { s with heap:=h' }:=.of_all rfl rfl hk
 have S1:=S.step ok k1 S.toks
 have q1:=r1.step k1 (Dy0 ok) (Ii0 ok)
 have q2:=r2.step k1 (Dy0 ok) (Ii0 ok)
 refine assignInOrder_cons (wpAny_assign_Name (S1.store ok hx hcx q1 fun s2 S2 n2 l2=>?_))
 refine assignInOrder_cons (wpAny_assign_Name (S2.store ok hy hcy ?_ fun s3 S3 n3 l3=>assignInOrder_nil (h s3 S3 ?_ ?_)))
 ·-- the second item after the first store
  refine q2.mono' fun a o ws n hd ea=>?_
  refine Bf0 (n2 a o (Ah0 ea) (by rw [hd]; intro _ _ q; cases q) (by rw [hd]; intro _ q; cases q) fun q=>?_) (Ae0 ea)
  rw [q] at ea; exact Ae0 ea (Ii0 ok)
 ·exact (NDK.trans (fun a o ea _ _ _=>hk a o ea) n2).trans n3
 ·exact (KpL.trans (fun a o _ _ ea=>hk a o ea) l2).trans l3
theorem Hd0 {p1 p2:Pos} {kk:Nat} {d1 d2:PyData} {r:Option PyData} (ok:CxOk c) (hl3:Nat.ble 3 c.lvl = true) (hx:Hc0 c x) (hy:Hc0 c y) (hnx:ρ.lookup x = none) (hny:ρ.lookup y = none)
  (ht:EvBs c ((y,.val d2) :: (x,.val d1) :: ρ) ifs r.isSome) (he:∀ e,r = some e→EvD c ((y,.val d2) :: (x,.val d1) :: ρ) elt e) (hcx:(x == ("__classdict__" : Str)) = false:=by rfl) (hcy:(y == ("__classdict__" : Str)) = false:=by rfl) :
  Ii1 c ρ (.Tuple [.Name x p1,.Name y p2] kk pos) ifs elt (.tuple [d1,d2]) r :=
 have key:∀ (z:Str) (sl:Slot),List.lookup z [(y,Slot.val d2),(x,Slot.val d1)] = some sl→ρ.lookup z = none:=by
  intro z sl h
  rw [List.lookup_cons] at h
  cases q:z == y with
  | true=>rw [eq_of_beq q]; exact hny
  | false =>
   rw [q] at h
   dsimp only at h
   rw [List.lookup_cons] at h
   cases q:z == x with
   | true=>rw [eq_of_beq q]; exact hnx
   | false=>rw [q] at h; cases h
 ⟨[(y,.val d2),(x,.val d1)],rfl,key,Da1 ok hl3 hx hy hcx hcy,ht,he⟩
noncomputable abbrev Hy0 (row:List (List Nat × Str)):List PyData:=row.map fun p=>.tuple [.list (p.1.map fun k=>.int (k:Nat)),.str p.2]
noncomputable def Fa0 (w:Str) (ks:List Nat):Nat:=(ks ++ [w.length]).headD 0
noncomputable def Wv0 (n:Nat) (d:PyData):Option PyData:=match d with | .tuple [.list ps,_]=>(ps ++ [PyData.int n]).head? | _=>none
theorem Yw0 (a:Str) (row:List (List Nat × Str)):(Hy0 row).filterMap (Wv0 a.length) = row.map fun p=>.int (Fa0 a p.1):=by
 induction row with
 | nil=>rfl
 | cons p r ih =>
  have h1:Wv0 a.length (.tuple [.list (p.1.map fun k=>.int (k:Nat)),.str p.2]) = some (.int (Fa0 a p.1)):=by
   unfold Wv0 Fa0
   cases p.1 <;> rfl
  show List.filterMap _ (_ :: Hy0 r) = _
  rw [List.filterMap_cons,h1,ih]
  rfl
theorem Ec0 {l:List PyData} (h:∀ d ∈ l,d.canLay0 = true):PyData.canLayAll0 l = true:=by
 induction l with
 | nil=>rfl
 | cons x r ih=>rw [PyData.canLayAll0,Bool.and_eq_true]; exact ⟨h x (.head _),ih fun y hy=>h y (.tail _ hy)⟩
theorem Fi0 {l:List PyData} {n:Nat} (h:∀ d ∈ l,d.depth ≤ n):PyData.depthAll l ≤ n:=by
 induction l with
 | nil=>exact Nat.zero_le _
 | cons x r ih =>
  have h1:=h x (.head _)
  have h2:=ih fun y hy=>h y (.tail _ hy)
  rw [PyData.depthAll]; lia
theorem Yx0 (w:World) (written:List Str) (told:List (List (List Nat × Str))) (out:Str→Str→PyData) (due:Str→Int→PyData) (hn:written.length ≤ 100) (hlen:told.length = written.length) (hlw:∀ a ∈ written,a.length ≤ 1000) (hrow:∀ row ∈ told,row.length ≤ 1000∧∀ p ∈ row,p.1.length ≤ 1000)
  (hlay:∀ a ∈ written,∀ b ∈ written,(out a b).canLay0 = true∧(out a b).depth ≤ 5)
  (hU:∀ a ∈ written,∀ b ∈ written,FnD w 5 234 [.str a,.str b] (out a b))
  (hD:∀ a ∈ written,∀ st:Int,FnD w 5 241 [.str a,.int st] (due a st))
  (hEq:∀ (k j:Nat) a row b p,written[k]? = some a→told[k]? = some row→written[j]? = some b→row[j]? = some p→due a (Fa0 a p.1) = out a b)
  (hrl:∀ row ∈ told,row.length = written.length):FnD w 6 246 [.list (written.map .str),.list (told.map fun r=>.list (Hy0 r))] (.bool true):=by
 refine Cp0 (ps:=[oS "written",oS "told"]) (by rfl) (by rfl) rfl (fun s vs hv=>?_) (by decide) (by rfl) (by decide) (by rfl) ?_
 ·obtain ⟨v,u,hQ122⟩:=Hy1 hv; subst hQ122
  exact BindsTo.of_eq rfl
 ·intro A X X0 fs fs0 s0 L s1 c ok S E
  let ρ0:Rho:=[(oS "written",.val (.list (written.map .str))),(oS "told",.val (.list (told.map fun r=>.list (Hy0 r))))]
  refine Wu0 (f:=fun (i:Nat)=>PyData.int (i:Int)) (ys:=List.range written.length) (ρs:=fun _=>ρ0) (ρb:=[]) (fun _=>True) False ok S
   (Bw0 ok (Dq0 ok rfl) ((Ea0 ok (Cy0 ok rfl) (EvD.toL (Aa0 ok rfl)) (by rw [List.length_map]; exact Nat.lt_of_le_of_lt ‹_› (by decide))).castD (by rw [List.length_map])) (by exact Nat.lt_of_le_of_lt ‹_› (by decide))) trivial (.inr ⟨rfl,rfl,rfl⟩) ?_ ?_ (fun _ h=>h.elim)
  ·intro k0 k pins s' hd ok' _ S' E'
   have hk:=List.mem_range.mp (List.mem_of_getElem? hd)
   have hwk:written[k]? = some (written.getD k Str.empty):=by simp [List.getD,hk]
   have hwm:=List.mem_of_getElem? hwk
   generalize written.getD k Str.empty = a at hwk hwm
   have hkt:k < told.length:=by simp_all
   have htk:told[k]? = some told[k]:=List.getElem?_eq_getElem hkt
   have htm:=List.mem_of_getElem? htk
   generalize told[k] = row at htk htm
   have hla:=hlw a hwm
   obtain ⟨hr1,hr2⟩:=hrow row htm
   have hrl':=hrl row htm
   have hk2:((k:Int).toNat:Nat) = k:=by rfl
   refine Lj0 (ds:=Hy0 row) (g:=Wv0 a.length) (ρ':=[(oS "k",.val (.int k)),(oS "written",.val (.list (written.map .str)))]) ok' S' rfl rfl rfl
    (Bl0 ok' (EvD.toL (Bk0 ok' (EvD.toL (Aa0 ok' rfl)) (Aa0 ok' rfl) (by exact Int.natCast_nonneg _) (by rw [hk2,List.getElem?_map,htk]; rfl) (by lia)))) (by rw [List.length_map]; unfold sizeLine; exact Nat.le_trans ‹_› (by decide)) rfl ?_ (by decide) rfl ?_ ?_
   ·exact .cons rfl (.inl rfl) rfl rfl rfl rfl (.cons rfl (.inl rfl) rfl rfl rfl rfl .nil)
   ·intro C X s1 ok2 j d hd
    rw [List.getElem?_map] at hd
    obtain ⟨p,hp,hQ123⟩:=Option.map_eq_some_iff.mp hd; subst hQ123
    have hpl:=hr2 p (List.mem_of_getElem? hp)
    refine Hd0 ok2 rfl (.inl rfl) (.inl rfl) rfl rfl ?_ ?_
    ·refine Fq0.cast ?_
     unfold Wv0
     cases p.1 <;> rfl
    ·intro e he
     refine Bk0 (ds:=(p.1.map fun k=>PyData.int (k:Nat)) ++ [.int a.length]) ok2 (EvD.toL (Ej0 ok2 (EvD.toL (Aa0 ok2 rfl)) (EvD.toL (Ek0 ok2 (Ab0 ok2 (Ca0 ok2 (Cy0 ok2 rfl) (Bk0 ok2 (EvD.toL (Aa0 ok2 rfl)) (Aa0 ok2 rfl) (by exact Int.natCast_nonneg _) (by rw [hk2,List.getElem?_map,hwk]; rfl) (by lia)) (by exact Nat.lt_of_le_of_lt ‹_› (by decide))) Ac0) (by show 1 ≤ sizeLine; decide))) ?_)) Ar0 (by decide) ?_ (by decide)
     ·simp; unfold sizeLine; exact Nat.lt_of_le_of_lt ‹_› (by decide)
     ·rw [← he]; unfold Wv0; simp [List.head?_eq_getElem?]
   ·intro s3 S3
    rw [Yw0] at S3
    have hall:∀ d ∈ written.map (out a),d.canLay0 = true∧d.depth ≤ 5:=fun d hd=>by
     obtain ⟨b,hb,hQ124⟩:=List.mem_map.mp hd; subst hQ124
     exact hlay a hwm b hb
    have hc:PyData.canLay0 (.list (written.map (out a))) = true:=Ec0 fun d hd=>(hall d hd).1
    have hdp:PyData.depth (.list (written.map (out a))) ≤ 64:=by
     have:=Fi0 (n:=5) fun d hd=>(hall d hd).2
     show PyData.depthAll _ + 1 ≤ 64; exact Nat.lt_of_le_of_lt ‹_› (by decide)
    refine Em0 (b:=!(PyData.eqv (.list (written.map (out a))) (.list (written.map (out a))))) ok' S3 (No0 ok' ?_ ?_ hc hc hdp) ?_ ?_
    ·exact Bx0 (ρ':=[(oS "k",.val (.int k)),(oS "written",.val (.list (written.map .str)))]) ok' (Bl0 ok' (EvD.toL (Aa0 ok' rfl))) (by unfold sizeLine; exact Nat.le_trans ‹_› (by decide)) rfl (.cons rfl (.inl rfl) rfl rfl rfl rfl (.cons rfl (.inl rfl) rfl rfl rfl rfl .nil)) (by decide) rfl (fun _ _ _=>.inl rfl) rfl fun C X s1 ok2 b hb=>Gg0 ok2 (Sq0 w) rfl (Sv0 w) (Ab0 ok2 (Bk0 ok2 (EvD.toL (Aa0 ok2 rfl)) (Aa0 ok2 rfl) (by exact Int.natCast_nonneg _) (by rw [hk2,List.getElem?_map,hwk]; rfl) (by lia)) (Ab0 ok2 (Aa0 ok2 rfl) Ac0)) (hU a hwm b hb) (Nat.le_of_ble_eq_true rfl)
    ·have hlist:written.map (out a) = row.map fun p=>due a (Fa0 a p.1):=by
      apply List.ext_getElem
      ·simp [hrl']
      ·intro j h1 h2
       simp only [List.length_map] at h1 h2
       rw [List.getElem_map,List.getElem_map]
       exact (hEq k j a row _ _ hwk htk (List.getElem?_eq_getElem h1) (List.getElem?_eq_getElem h2)).symm
     rw [hlist]
     exact Bx0 (f:=fun p:List Nat × Str=>PyData.int (Fa0 a p.1)) (ρ':=[(oS "k",.val (.int k)),(oS "written",.val (.list (written.map .str)))]) ok' (Bl0 ok' (EvD.toL (Aa0 ok' rfl))) (by unfold sizeLine; exact Nat.le_trans ‹_› (by decide)) rfl (.cons rfl (.inl rfl) rfl rfl rfl rfl (.cons rfl (.inl rfl) rfl rfl rfl rfl .nil)) (by decide) rfl (fun _ _ _=>.inl rfl) rfl fun C X s1 ok2 p hp=>Gg0 ok2 (Jk0 w) rfl (Jp0 w) (Ab0 ok2 (Bk0 ok2 (EvD.toL (Aa0 ok2 rfl)) (Aa0 ok2 rfl) (by exact Int.natCast_nonneg _) (by rw [hk2,List.getElem?_map,hwk]; rfl) (by lia)) (Ab0 ok2 (Aa0 ok2 rfl) Ac0)) (hD a hwm _) (Nat.le_of_ble_eq_true rfl)
    ·intro hb
     rw [SeqAt.eqv_refl _ hc] at hb; cases hb
    ·intro _ s4 S4
     exact wN (wN ⟨S4.drop (.cons rfl (.cons rfl .nil)),trivial⟩)
  ·intro s3 _ S3
   exact Ji0 ok S3 Si0
noncomputable abbrev hid (Y:List Addr) (s:Shared):Shared:={ s with heap:=hideAll s.heap Y }
theorem Br0 {Y:List Addr} {o:Obj} (e:s.heap.get? b = some o) (n:b ∉ Y):(hid Y s).heap.get? b = some o:=hideAll_get _ e n
theorem Gc0 {Y:List Addr} {o:Obj} (e:(hid Y s).heap.get? b = some o):s.heap.get? b = some o:=of_hideAll _ e
theorem Uv0 {Y:List Addr} (m:b ∈ Y):(hid Y s).heap.get? b = none:=hideAll_none _ m
theorem Fj0 {Y:List Addr} {o:Obj} (e:(hid Y s).heap.get? b = some o):b ∉ Y:=fun m=>by rw [Uv0 m] at e; cases e
structure Apart (c:Cx) (ρ:Rho) (Y:List Addr):Prop where
 new:∀ a ∈ Y,c.s0.heap.get? a = none
 loc:∀ a ∈ Y,a ≠ c.env.locals
 cell:∀ a ∈ Y,∀ n,(n,a) ∉ c.env.cells
 fs:∀ a ∈ Y,a ∉ c.fs
 tab:∀ a ∈ Y,a ≠ tA
 own:∀ a ∈ Y,a ∉ As0 ρ
 x:∀ a ∈ Y,a ∉ c.X
theorem Cv0 {Y:List Addr} (ok:CxOk c) (S:St (c.mores Y) ρ s) (ap:∀ a ∈ Y,a ≠ tA):TabOk (hid Y s).heap :=
 (S.tab (ok.mores Y)).hide (fun q=>ap _ q rfl) fun a ha o eo=>by
  obtain ⟨o',e',nf⟩:=S.has a (List.mem_append_right _ (List.mem_append_left _ ha))
  rw [eo] at e'; cases e'
  rcases nf with q | q
  ·exact absurd q (ap a ha)
  ·exact .inr q
theorem St.after {Y Y':List Addr} (ok:CxOk c) (S:St (c.mores Y) ρ s) (ap:Apart c ρ Y) (k:Kp c.fs (hid Y s) s') (hsub:∀ a ∈ Y,a ∈ Y') (hnew:∀ a ∈ Y',a ∈ Y ∨ s.heap.get? a = none)
  (has:∀ a ∈ Y',∃ o,s'.heap.get? a = some o∧Nf a o) (ht:0 < s'.toks):St (c.mores Y') ρ s':=by
 have okY:=ok.mores Y
 have tbh:=Cv0 ok S ap.tab
 have tb':TabOk s'.heap:=k.tab tbh
 have tbs:=S.tab okY
 have hslot:∀ b o,s.heap.get? b = some o→b ∉ Y→b ≠ tA→∃ sl,s'.heap.get? b = some { o with slots:=sl }:=fun b o e n h=>k.slot b o (Br0 e n) h
 have hfsY:∀ b ∈ c.fs,b ∉ Y:=fun b hb hy=>ap.fs b hy hb
 have hns:∀ m,s.heap.Ns c.env.locals m→s'.heap.Ns c.env.locals m:=fun m n=>Ns.slot n fun o e=>hslot _ o e (fun q=>ap.loc _ q rfl) (Ns.neTab n tbs)
 have hcl:∀ n a m,(n,a) ∈ c.env.cells→s.heap.IsCell a m→s'.heap.IsCell a m:=fun n a m hm q=>IsCell.slot q fun o e=>hslot _ o e (fun y=>ap.cell _ y n hm) (IsCell.neTab q tbs)
 have hse:∀ x v,Sees c.env s.heap x v→Sees c.env s'.heap x v:=fun x v y=>by
  rcases y with ⟨a,m,n,e⟩ | ⟨a,a',cc,e,n⟩
  ·exact .inl ⟨a,m,hns _ n,e⟩
  ·exact .inr ⟨a,a',cc,e,hcl _ _ _ (Ag0 e) n⟩
 have hfz:∀ a o,fz ((c.mores Y).XX ρ) s.heap a = some o→fz ((c.mores Y').XX ρ) s'.heap a = some o:=fun a o e=>by
  have hn:=Ae0 e
  have hnY:a ∉ Y:=fun q=>hn (List.mem_append_right _ (List.mem_append_left _ q))
  have hnX:a ∉ c.X:=fun q=>hn (List.mem_append_right _ (List.mem_append_right _ q))
  refine Bf0 (k.keep a o (Br0 (Ah0 e) hnY) (fun q=>hnX (ok.fsX a q)) (fun q=>hnX (q ▸ ok.tX))) fun q=>?_
  rcases List.mem_append.mp q with q | q
  ·exact hn (List.mem_append_left _ q)
  ·rcases List.mem_append.mp q with q | q
   ·rcases hnew a q with w | w
    ·exact hnY w
    ·rw [Ah0 e] at w; cases w
   ·exact hnX q
 refine ⟨⟨k.gens.trans S.since.gens,k.os.trans S.since.os,fun b o e h1 h2=>?_,fun b o e h2=>?_,fun _=>tb'⟩,ht,fun l hl env he=>?_,?_,?_,fun x d e=>?_,fun a ha=>?_,fun x a ds e=>?_,fun x v e=>hse _ _ (S.raw x v e),fun p hp=>?_,fun p hp q=>?_⟩
 ·have hbY:b ∉ Y:=fun q=>by rw [ap.new b q] at e; cases e
  exact k.keep b o (Br0 (S.since.keep b o e h1 h2) hbY) (fun q=>by have:=ok.new b q h1; rw [this] at e; cases e) h2
 ·have hbY:b ∉ Y:=fun q=>by rw [ap.new b q] at e; cases e
  obtain ⟨sl,e1⟩:=S.since.slot b o e h2
  obtain ⟨sl2,e2⟩:=k.slot b _ (Br0 e1 hbY) h2
  exact ⟨sl2,e2⟩
 ·obtain ⟨a,L,o,f,e,d,n⟩:=S.frs l hl env he
  have hL:L ∈ c.fs:=by
   obtain ⟨l',hl',hf⟩:=ok.frames
   rw [hl] at hl'; cases hl'
   rw [hf]; exact List.mem_filterMap.mpr ⟨env,he,f⟩
  obtain ⟨sl,e'⟩:=hslot L o e (hfsY L hL) n
  exact ⟨a,L,_,f,e',d,n⟩
 ·obtain ⟨m,n⟩:=S.ns; exact ⟨m,hns m n⟩
 ·intro n a hm; obtain ⟨v,q⟩:=S.cell n a hm; exact ⟨v,hcl n a v hm q⟩
 ·obtain ⟨v,y,r⟩:=S.loc x d e; exact ⟨v,hse _ _ y,r.mono hfz⟩
 ·rcases List.mem_append.mp ha with q | q
  ·obtain ⟨o,e,nf⟩:=S.has a (List.mem_append_left _ q)
   by_cases hta:a = tA
   ·obtain ⟨vs,te,_⟩:=tb'; rw [hta]; exact ⟨_,te,.inl rfl⟩
   ·obtain ⟨sl,e'⟩:=hslot a o e (fun y=>ap.own a y q) hta; exact ⟨_,e',nf⟩
  ·rcases List.mem_append.mp q with q | q
   ·exact has a q
   ·obtain ⟨o,e,nf⟩:=S.has a (List.mem_append_right _ (List.mem_append_right _ q))
    by_cases hta:a = tA
    ·obtain ⟨vs,te,_⟩:=tb'; rw [hta]; exact ⟨_,te,.inl rfl⟩
    ·obtain ⟨sl,e'⟩:=hslot a o e (fun y=>ap.x a y q) hta; exact ⟨_,e',nf⟩
 ·obtain ⟨y,r,n⟩:=S.own x a ds e
  have hao:a ∈ As0 ρ:=List.mem_filterMap.mpr ⟨_,Ag0 e,rfl⟩
  exact ⟨hse _ _ y,r.slot hfz (fun o eo=>hslot a o eo (fun y=>ap.own a y hao) n),n⟩
 ·have hn:=S.pinx p hp
  have hnY:p.1 ∉ Y:=fun q=>hn (List.mem_append_right _ (List.mem_append_left _ q))
  have hnX:p.1 ∉ c.X:=fun q=>hn (List.mem_append_right _ (List.mem_append_right _ q))
  exact k.keep _ _ (Br0 (S.pin p hp) hnY) (fun q=>hnX (ok.fsX _ q)) (fun q=>hnX (q ▸ ok.tX))
 ·have hn:=S.pinx p hp
  rcases List.mem_append.mp q with q | q
  ·exact hn (List.mem_append_left _ q)
  ·rcases List.mem_append.mp q with q | q
   ·rcases hnew _ q with w | w
    ·exact hn (List.mem_append_right _ (List.mem_append_left _ w))
    ·rw [S.pin p hp] at w; cases w
   ·exact hn (List.mem_append_right _ (List.mem_append_right _ q))
noncomputable def atY (c:Cx) (Y:List Addr) (h:Heap):Addr × Obj→Prop:=fun p=>c.pin p ∨ (p.1 ∈ Y∧h.get? p.1 = some p.2)
theorem St.look {Y:List Addr} (S:St (c.mores Y) ρ s) (ap:Apart c ρ Y):St (c.pins (atY c Y s.heap)) ρ s:=by
 have hX:∀ a ∈ c.XX ρ,a ∈ (c.mores Y).XX ρ:=fun a ha=>by
  rcases List.mem_append.mp ha with q | q
  ·exact List.mem_append_left _ q
  ·exact List.mem_append_right _ (List.mem_append_right _ q)
 refine ⟨S.since,S.toks,S.frs,S.ns,S.cell,fun x d e=>?_,fun a ha=>S.has a (hX a ha),fun x a ds e=>?_,S.raw,fun p hp=>?_,fun p hp q=>?_⟩
 ·obtain ⟨v,y,r⟩:=S.loc x d e; exact ⟨v,y,r.mono (Ao0 hX)⟩
 ·obtain ⟨y,⟨vs,n,sl,e1,r⟩,n1⟩:=S.own x a ds e
  exact ⟨y,⟨vs,n,sl,e1,r.mono (Ao0 hX)⟩,n1⟩
 ·exact hp.elim (fun q=>S.pin p q) fun q=>q.2
 ·rcases hp with hp | hp
  ·exact S.pinx p hp (hX _ q)
  ·rcases List.mem_append.mp q with q | q
   ·exact ap.own _ hp.1 q
   ·exact ap.x _ hp.1 q
theorem Qv0 {Y:List Addr} {J:Heap→Prop} (ap:Apart c ρ Y) (hJ:Yg0 Y J) (k:Kp c.fs s s') (j:J s.heap):J s'.heap :=
 hJ _ _ (fun a ha o e=>k.keep a o e (ap.fs a ha) (ap.tab a ha)) j
theorem Ww0 {Y:List Addr} {J:Heap→Prop} (ap:Apart c ρ Y) (hJ:Yg0 Y J) (k:KpL (c.mores Y) s s') (j:J s.heap):J s'.heap :=
 hJ _ _ (fun a ha o e=>k a o (ap.loc a ha) (ap.cell a ha) e) j
mutual
noncomputable def He0:PyData→Bool
 | .list _=>false
 | .tuple xs=>Du0 xs
 | .dict _=>false
 | _=>true
noncomputable def Du0:List PyData→Bool
 | []=>true
 | x :: r=>He0 x && Du0 r
end
theorem Rd.monoT {g':Addr→Option Obj} (k:∀ a o,o.cls = .type "tuple" → g a = some o→g' a = some o) {v:Value} {d:PyData} (h:He0 d = true) (r:Rd g v d):Rd g' v d :=
 Rd.rec (motive_1:=fun v d _=>He0 d = true→Rd g' v d) (motive_2:=fun vs ds _=>Du0 ds = true→RdAll g' vs ds) (fun _=>.none) (fun b _=>.bool b) (fun i t _=>.int i t) (fun x t _=>.str x t) (fun _ _ _ h=>absurd h Bool.false_ne_true) (fun e _ ih h=>.tuple (k _ _ rfl e) (ih h)) (fun _=>.nil)
  (fun _ _ a b h=>by have h:=Bool.and_eq_true_iff.mp (show (He0 _ && Du0 _) = true from h); exact .cons (a h.1) (b h.2)) r h
theorem RdAll.monoT {g':Addr→Option Obj} (k:∀ a o,o.cls = .type "tuple" → g a = some o→g' a = some o) {vs:List Value} {ds:List PyData} (h:Du0 ds = true) (r:RdAll g vs ds):RdAll g' vs ds :=
 r.ind (M:=fun vs ds=>Du0 ds = true→RdAll g' vs ds) (fun _=>.nil) (fun r _ ih h=>by have h:=Bool.and_eq_true_iff.mp (show (He0 _ && Du0 _) = true from h); exact .cons (r.monoT k h.1) (ih h.2)) h
noncomputable def Jb1 (Y:List Addr) (h:Heap):Prop:=∀ a ∈ Y,∀ o,h.get? a = some o→o.cls ≠ .type "tuple"
theorem Yy0 {Y:List Addr} (nt:Jb1 Y h) (hd:He0 d = true) (r:Rd (fz (c.XX ρ) h) v d):Rd (fz ((c.mores Y).XX ρ) h) v d :=
 r.monoT (h:=hd) (fun a o ho e=>Bf0 (Ah0 e) fun q=>by
  rcases List.mem_append.mp q with q | q
  ·exact Ae0 e (List.mem_append_left _ q)
  ·rcases List.mem_append.mp q with q | q
   ·exact nt a q o (Ah0 e) ho
   ·exact Ae0 e (List.mem_append_right _ q))
structure YOk (X Y:List Addr) (h:Heap):Prop where
 x:∀ a ∈ Y,a ∉ X
 has:∀ a ∈ Y,∃ o,h.get? a = some o∧∀ ws,o.data ≠ .fields ws
 lo:∀ a ∈ Y,269 ≤ a
noncomputable def Yz0 (Y X:List Addr):List Addr:=X.filter fun a=>!Y.contains a
theorem Dh0 {Y:List Addr}:a ∈ Yz0 Y X ↔ a ∈ X∧a ∉ Y:=by
 unfold Yz0
 rw [List.mem_filter]
 simp
theorem Kd0 {Y:List Addr} {sc:Shared} {lvl:Nat} {sls:List Slot} {args:Args} {ps:List Str} {params:Arguments} {dV kV doc pm cdv ct oc:Value} {an od:Option Addr} {osl:Array (Option Value)}
  (am:Amb w A fs X (lvl + 1) s) (hY:YOk X Y s.heap) (ho:sc.heap.get? f = some ⟨oc,od,.func (fnOf name qual params body scope dV kV doc pm an cdv ct),osl⟩)
  (hcr:sc.heap.CodeRec cdv qual) (hlen:vs.length = ps.length) (rv:BdAll (fz (Y ++ X) s.heap) vs sls)
  (hbind:∀ (M:Model) (A:Around) (E:Value→Shared→Prop) (Q:List (Str × Value)→Shared→Prop),Q (ps.zip vs) s→wpAny M A (bindArgs (fnOf name qual params body scope dV kV doc pm an cdv ct) args) Q E sc)
  (hnd:ps.Nodup) (hkind:(ps.all fun y=>scope.names.lookup y == some .local || scope.names.lookup y == some .cell) = true)
  (hcn:((cellsFrom 0 scope.names []).map (·.1)).Nodup) (hcd2:ps.all (fun x=>x != ("__classdict__" : Str)) = true) (hnc:∀ L,(envOfC qual scope L f cdv).cells = [])
  (hb:∀ X' fs' L s1,let c:Cx:=⟨w,A.deeper (envOfC qual scope L f cdv),envOfC qual scope L f cdv,X',X,fs',fs,hid Y s,lvl,Bg0 scope,It0⟩; let Q:Flow→Shared→Prop:=Ig1 R; let E:Value→Shared→Prop:=Ih1 w A c.env R; CxOk c →
   St (Cx.mores c Y) (ps.zip sls) s1 →
   Apart c [] Y→(∀ a ∈ Y,∀ o,s.heap.get? a = some o→s1.heap.get? a = some o)→(∀ b ∈ X',b ∈ X ∨ s.heap.get? b = none)→(∀ b o,s.heap.get? b = some o→b ∉ fs→b ≠ tA→s1.heap.get? b = some o) →
   wpAny (MM c.w) c.A (execs body c.env) Q
    E s1)
  (hco:scope.isCoroutine = false:=by rfl) (hgen:scope.isGenerator = false:=by rfl) (hk:scope.kind = .function:=by rfl):codeAny (MM w) A (.call (.ref f) args) R sc:=by
 have hYt:∀ a ∈ Y,a ≠ tA:=fun a ha q=>by have:=hY.lo a ha; rw [q] at this; exact absurd this (by decide)
 have am2:Amb w A fs (Y ++ X) (lvl + 1) s:={ am with
  fsX:=fun b hb=>List.mem_append_right _ (am.fsX b hb)
  tX:=List.mem_append_right _ am.tX
  has:=fun a ha=>by
   rcases List.mem_append.mp ha with q | q
   ·obtain ⟨o,e,d⟩:=hY.has a q; exact ⟨o,e,.inr d⟩
   ·exact am.has a q }
 refine Uj0 am2 ho hcr hlen rv hbind hnd hkind hcn hcd2 (fun X' fs' L s1 hX' ok S=>?_) hco hgen hk
 have hYX':∀ a ∈ Y,a ∈ X':=fun a ha=>ok.x0 a (List.mem_append_left _ ha)
 have hYs:∀ a ∈ Y,∃ o,s.heap.get? a = some o:=fun a ha=>by obtain ⟨o,e,_⟩:=hY.has a ha; exact ⟨o,e⟩
 have hfsY:∀ b ∈ fs',b ∉ Y:=fun b hb hy=>by
  by_cases q:b ∈ fs
  ·exact hY.x b hy (am.fsX b q)
  ·obtain ⟨o,e⟩:=hYs b hy
   rw [ok.new b hb q] at e; cases e
 have hlocY:(envOfC qual scope L f cdv).locals ∉ Y:=fun hy=>by
  obtain ⟨o,e⟩:=hYs _ hy
  rw [ok.locN] at e; cases e
 have htab:TabOk (hid Y s).heap:=am.tab.hide (fun q=>hYt _ q rfl) fun a ha o eo=>by
  obtain ⟨o',e',d⟩:=hY.has a ha
  rw [eo] at e'; cases e'
  exact .inr d
 have hnone:∀ b,s.heap.get? b = none→(hid Y s).heap.get? b = none:=fun b hb=>by
  cases q:(hid Y s).heap.get? b with
  | none=>rfl
  | some o=>rw [Gc0 q] at hb; cases hb
 have okc:CxOk ⟨w,A.deeper (envOfC qual scope L f cdv),envOfC qual scope L f cdv,Yz0 Y X',X,fs',fs,hid Y s,lvl,Bg0 scope,It0⟩:=by
  refine ⟨am.wd.low (fun a o h1 h2 e=>Br0 e fun q=>absurd (hY.lo a q) (Nat.not_le.mpr h1)) (Gr0 _),htab,ok.hand,ok.depth,ok.units,ok.frames,fun b hb=>Dh0.mpr ⟨ok.fsX b hb,hfsY b hb⟩,Dh0.mpr ⟨ok.tX,fun q=>hYt _ q rfl⟩,ok.lo,ok.fs0,fun b hb hn=>hnone b (ok.new b hb hn),ok.kind,ok.glob,ok.blt,
   fun b hb=>Dh0.mpr ⟨ok.x0 b (List.mem_append_right _ hb),fun q=>hY.x b q hb⟩,fun b hb=>?_,Dh0.mpr ⟨ok.locX,hlocY⟩,fun n a hm=>?_,hnone _ ok.locN,fun n a h1 h2=>hnone a (ok.cellN n a h1 h2),ok.apart⟩
  ·obtain ⟨o,e,_⟩:=am.has b hb
   exact ⟨o,Br0 e fun q=>hY.x b q hb⟩
  ·rw [show (envOfC qual scope L f cdv).cells = [] from hnc L] at hm; cases hm
 have how:As0 (ps.zip sls) = []:=Uh0 rv ps
 have hmem:∀ a,a ∈ Cx.XX (Cx.mores ⟨w,A.deeper (envOfC qual scope L f cdv),envOfC qual scope L f cdv,Yz0 Y X',X,fs',fs,hid Y s,lvl,Bg0 scope,It0⟩ Y) (ps.zip sls)→a ∈ Cx.XX ⟨w,A.deeper (envOfC qual scope L f cdv),envOfC qual scope L f cdv,X',Y ++ X,fs',fs,s,lvl,Bg0 scope,It0⟩ (ps.zip sls):=by
  intro a ha
  rcases List.mem_append.mp ha with q | q
  ·exact List.mem_append_left _ q
  ·rcases List.mem_append.mp q with q | q
   ·exact List.mem_append_right _ (hYX' a q)
   ·exact List.mem_append_right _ (Dh0.mp q).1
 refine hb (Yz0 Y X') fs' L s1 okc ?_ ?_ ?_ ?_ S.since.keep
 ·refine ⟨⟨S.since.gens,S.since.os,fun b o e h1 h2=>S.since.keep b o (Gc0 e) h1 h2,fun b o e h2=>S.since.slot b o (Gc0 e) h2,fun _=>S.tab ok⟩,S.toks,S.frs,S.ns,S.cell,fun x d e=>?_,fun a ha=>S.has a (hmem a ha),fun x a ds e=>?_,S.raw,fun p hp=>hp.elim,fun p hp=>hp.elim⟩
  ·obtain ⟨v,y,r⟩:=S.loc x d e; exact ⟨v,y,r.mono (Ao0 hmem)⟩
  ·obtain ⟨y,⟨us,n,sl,e1,r⟩,n1⟩:=S.own x a ds e
   exact ⟨y,⟨us,n,sl,e1,r.mono (Ao0 hmem)⟩,n1⟩
 ·exact ⟨fun a ha=>Uv0 ha,fun a ha q=>hlocY (q ▸ ha),(fun a ha n q=>by rw [show (envOfC qual scope L f cdv).cells = [] from hnc L] at q; cases q),fun a ha q=>hfsY a q ha,hYt,(fun a ha q=>by cases q),fun a ha q=>(Dh0.mp q).2 ha⟩
 ·intro a ha o e
  exact S.since.keep a o e (fun q=>hY.x a ha (am.fsX a q)) (hYt a ha)
 ·intro b hb
  obtain ⟨h1,h2⟩:=Dh0.mp hb
  rcases hX' b h1 with q | q
  ·rcases List.mem_append.mp q with q | q
   ·exact absurd q h2
   ·exact .inl q
  ·exact .inr q
theorem Ep0 {Y:List Addr} {lvl:Nat} {sls:List Slot} {args:Args} {ps:List Str} {params:Arguments} {dV kV doc pm cdv ct oc:Value} {an od:Option Addr} {osl:Array (Option Value)}
  (am:Amb w A fs X (lvl + 1) s) (hY:YOk X Y s.heap) (ho:s.heap.get? f = some ⟨oc,od,.func (fnOf name qual params body scope dV kV doc pm an cdv ct),osl⟩)
  (hcr:s.heap.CodeRec cdv qual) (hlen:vs.length = ps.length) (rv:BdAll (fz (Y ++ X) s.heap) vs sls)
  (hbind:BindsTo s (fnOf name qual params body scope dV kV doc pm an cdv ct) args (ps.zip vs))
  (hnd:ps.Nodup) (hkind:(ps.all fun y=>scope.names.lookup y == some .local || scope.names.lookup y == some .cell) = true)
  (hcn:((cellsFrom 0 scope.names []).map (·.1)).Nodup) (hcd2:ps.all (fun x=>x != ("__classdict__" : Str)) = true) (hnc:∀ L,(envOfC qual scope L f cdv).cells = [])
  (hb:∀ X' fs' L s1,let c:Cx:=⟨w,A.deeper (envOfC qual scope L f cdv),envOfC qual scope L f cdv,X',X,fs',fs,hid Y s,lvl,Bg0 scope,It0⟩; let Q:Flow→Shared→Prop:=Ig1 R; let E:Value→Shared→Prop:=Ih1 w A c.env R; CxOk c →
   St (Cx.mores c Y) (ps.zip sls) s1 →
   Apart c [] Y→(∀ a ∈ Y,∀ o,s.heap.get? a = some o→s1.heap.get? a = some o)→(∀ b ∈ X',b ∈ X ∨ s.heap.get? b = none)→(∀ b o,s.heap.get? b = some o→b ∉ fs→b ≠ tA→s1.heap.get? b = some o) →
   wpAny (MM c.w) c.A (execs body c.env) Q
    E s1)
  (hco:scope.isCoroutine = false:=by rfl) (hgen:scope.isGenerator = false:=by rfl) (hk:scope.kind = .function:=by rfl):codeAny (MM w) A (.call (.ref f) args) R s :=
 Kd0 am hY ho hcr hlen rv hbind hnd hkind hcn hcd2 hnc hb hco hgen hk
theorem Apart.rho {Y:List Addr} (h:Apart c ρ Y) (ho:∀ a ∈ Y,a ∉ As0 ρ'):Apart c ρ' Y:={ h with own:=ho }
theorem St.ambY {Y:List Addr} (ok:CxOk c) (S:St (c.mores Y) ρ s):Amb c.w c.A c.fs (c.XX ρ) c.lvl s :=
 let am:=S.amb (ok.mores Y)
 { am with
  fsX:=fun b hb=>List.mem_append_right _ (ok.fsX b hb)
  tX:=List.mem_append_right _ ok.tX
  has:=fun a ha=>S.has a (by
   rcases List.mem_append.mp ha with q | q
   ·exact List.mem_append_left _ q
   ·exact List.mem_append_right _ (List.mem_append_right _ q)) }
section
open PySem.Builtin PySem.Builtin.ObjectAttr PySem.Builtin.Getset_descriptor
section
variable {x C dx p:Addr} {ox od:Obj}
set_option tactic.hygienic true in
theorem Uw0 {od':Obj} {es:List DictEntry} {n:Nat} {Q:Unit→Shared→Prop} (X:(KF w).In s.heap) (I:InstAt s.heap x ox C (some od)) (hd:ox.dict = some dx)
  (hs:findIn (KF w) (.ref C) "__setattr__" = some (some (.builtin "object.__setattr__"))) (hp:plainOver (KF w) C = true) (ht:takerIn (KF w) C name = some none) (hh:hasDictIn (KF w) C = true)
  (hl:(lookIn name od).isSome = true) (e:Obj.putName name (PyData.keyHash w.params name) (.str name (s.toks + 1)) v od = od') (e':od'.data = .dict es.toArray n) (hz:es.length ≤ 1000)
  (h:∀ h',h'.get? dx = some od'→Heap.SameBut dx s.heap h'→Q () { s with heap:=h',toks:=s.toks + 1 + 1 }):wpAny (MM w) A (setAttr (.ref x) name v) Q E s:=by
 refine set_plain X I hs ?_
 refine osa_open (s:={ s with toks:=s.toks + 1 }) X I hp ht fun b=>?_
 obtain ⟨cd,hc,hd'⟩:=any_some hh
 obtain ⟨hx,hcl,hn,hdd⟩:=I
 obtain ⟨oc,odi,oda,osl⟩:=ox
 dsimp only at hcl hd hdd
 subst hcl hd
 have D:s.heap.get? dx = some od:=hdd
 have hfr:od'.isFreed = false:=by obtain ⟨_,_,dd,_⟩:=od'; cases e'; rfl
 have D':(s.heap.update dx (Obj.putName name (PyData.keyHash w.params name) (.str name (s.toks + 1)) v)).get? dx = some od':=by
  have:=Heap.get?_update_self (Obj.putName name (PyData.keyHash w.params name) (.str name (s.toks + 1)) v) D (by rw [e]; exact hfr)
  rwa [e] at this
 refine wB (wP (wB (wB (wpAny_loadPart hx (wB (looks_clsIn X hc _ _ _ _ (fun _ _ e=>e) ?_))))))
 rw [hd']
 refine wP (a:=some dx) (wB (wP (wB ?_)))
 delta nsSet
 refine wB (wB (wpAny_askSetting (wP (wB (wpAny_mkText (wB (wpAny_loadPart D ?_)))))))
 delta lookIn at hl
 split at hl
 ·rename_i es₀ n₀ q
  rw [q]
  dsimp only
  have c:(!es₀.any (·.key.isStr name) && es₀.any (·.refKey)) = false:=by
   rw [← Array.any_toList,← Array.any_toList]
   split at hl
   ·rename_i en he
    rw [List.any_eq_true.mpr ⟨en,List.mem_of_find?_eq_some he,List.find?_some he⟩]; rfl
   ·split at hl
    ·cases hl
    ·rename_i z; rw [Bool.not_eq_true] at z; rw [z,Bool.and_false]
  rw [aRefKeyMayBeTheName_at,c]
  refine wpAny_updatePart D ?_
  refine wB (wpAny_lookBehind D' (by rw [e']; exact pastItsLine_dict (by rw [List.size_toArray,sizeLine_eq]; exact Nat.le_trans ‹_› (by decide))) ?_)
  exact wP (h _ D' (Heap.SameBut.update ..))
 ·cases hl
theorem Ke0 {expr:Bool} {i:Nat} {Q:Value→Shared→Prop} (X:(KF w).In s.heap) (I:InstAt s.heap x ox C (some od)) (hg:plainGet (KF w) C name = true) (hc:isClsIn (KF w) C = true)
  (ha:findIn (KF w) (.ref C) name = some (some (.ref p))) (hn:specialIn (KF w) (.ref p) "__get__" = some (some (.builtin "member_descriptor.__get__"))) (ht:takesIn (KF w) (.ref p) = some true) (hp:slotIn (KF w) p C = some i)
  (hv:(ox.slots[i]?).join = some v) (hh:handedIn v = true) (h:Q v { s with toks:=s.toks + 1 }):wpAny (MM w) A (getAttr (.ref x) name expr) Q E s :=
 get_bind X I (plainGet_of hg).1 (findObj_data hc ha hn ht) (plainGet_of hg).2 (wpAny_call (slot_get (s:={ s with toks:=s.toks + 1 }) X I hp hv (handed_on hh h)))
theorem Qw0 {ox':Obj} {i:Nat} {Q:Unit→Shared→Prop} (X:(KF w).In s.heap) (I:InstAt s.heap x ox C (some od))
  (hs:findIn (KF w) (.ref C) "__setattr__" = some (some (.builtin "object.__setattr__"))) (hp:plainOver (KF w) C = true) (ht:takerIn (KF w) C name = some (some (.ref p))) (hT:typeIn (KF w) (.ref p) = some (.type "member_descriptor"))
  (hi:slotIn (KF w) p C = some i) (hz:i < 1000) (e:{ ox with slots:=(ox.slots ++ Array.replicate (i + 1 - ox.slots.size) none).setIfInBounds i (some v) } = ox') (hf:ox'.isFreed = false)
  (h:∀ h',h'.get? x = some ox'→Heap.SameBut x s.heap h'→Q () { s with heap:=h',toks:=s.toks + 1 }):wpAny (MM w) A (setAttr (.ref x) name v) Q E s:=by
 refine set_plain X I hs (osa_descr (s:={ s with toks:=s.toks + 1 }) PySem.W.KF.slot_mset X I hp ht hT ?_)
 obtain ⟨n,tn,owner,behind,tb,d,sl,cd,ho,hc,hm,hb,hQ125⟩:=slot_of X hi; subst hQ125
 have hx:=I.at_
 have hg:(s.heap.update x (fun o=>{ o with slots:=(o.slots ++ Array.replicate (cd.slotNames.length - 1 - behind.toNat + 1 - o.slots.size) none).setIfInBounds (cd.slotNames.length - 1 - behind.toNat) (some v) })).get? x = some ox':=by
  have:=Heap.get?_update_self (fun o=>{ o with slots:=(o.slots ++ Array.replicate (cd.slotNames.length - 1 - behind.toNat + 1 - o.slots.size) none).setIfInBounds (cd.slotNames.length - 1 - behind.toNat) (some v) }) hx (by rw [e]; exact hf)
  rwa [e] at this
 obtain ⟨hp',g,dr,t,os⟩:=s
 have L0:=I.type (M:=MM w)
 have L1:=looks_mroIn (M:=MM w) X hm
 have L2:Looks (MM w) hp' (Slots.slotNamesOf (.ref C)) cd.slotNames:=(looks_clsIn X hc).andThen .now
 dsimp only at ho hx L0 L1
 have f0:=looks_field (M:=MM w) ho 0 (v:=.str n tn) rfl
 have f1:=looks_field (M:=MM w) ho 1 (v:=owner) rfl
 have f3:=looks_field (M:=MM w) ho 3 (v:=.builtin "proto.slot#set") rfl
 have f4:=looks_field (M:=MM w) ho 4 (v:=.int behind tb) rfl
 refine codeAny_call_builtin PySem.W.KF.slot_mset.plain PySem.W.KF.entry_mset (PySem.W.KF.slot_mset.check _ _ _ _ _ _ _ _ ⟨_,ho,rfl⟩ (PySem.W.KF.args_mset _ _ _) ?_)
 delta Builtin.«member_descriptor.__set__» Builtin.Getset_descriptor.descrSet Builtin.Getset_descriptor.descrStoreThrough Builtin.Getset_descriptor.descrCheckInstance Builtin.Getset_descriptor.descrNameAndClass isInstance
 have f5:Looks (MM w) hp' (descrItself (.ref p)) [.ref p]:=((Looks.ld (part:=none) ho).andThen .now).andThen (Looks.of_pure (by kernel_rfl))
 repeat lk
 refine ⟨Code.quiet_builtin _ (by decide +kernel),codeAny_builtin PySem.W.KF.entry_slotset ?_⟩
 delta Builtin.«proto.slot#set» Slots.target
 repeat lk
 rw [if_neg hb]
 refine wP (wB ?_)
 delta setSlotAt
 dsimp only
 rw [if_neg (by rw [sizeLine_eq]; lia)]
 exact wpAny_updatePart hx (wP (h _ hg (Heap.SameBut.update ..)))
end
end
structure Nd where
 key:Str
 I:Addr
 D:Addr
 L:Addr
 np:Int
 succ:List Str
structure Srt where
 T:Addr
 DT:Addr
 N:Addr
 R:Option (Addr × List Str)
 po:Int
 fin:Int
 nds:List Nd
noncomputable def Nd.addrs (d:Nd):List Addr:=[d.I,d.D,d.L]
noncomputable def Srt.addrs (x:Srt):List Addr:=x.T :: x.DT :: x.N :: ((x.R.map (·.1)).toList ++ x.nds.flatMap Nd.addrs)
noncomputable def Srt.kvs (x:Srt):List (Str × Value):=x.nds.map fun d=>(d.key,.ref d.I)
noncomputable def StrL (h:Heap) (a:Addr) (ys:List Str):Prop:=∃ vs n sl,h.get? a = some ⟨.type "list",none,.seq vs n,sl⟩∧StrsAre vs.toList ys
theorem StrL.keep (x:StrL h a ys) (k:∀ o,h.get? a = some o→h'.get? a = some o):StrL h' a ys :=
 by obtain ⟨vs,n,sl,e,r⟩:=x; exact ⟨vs,n,sl,k _ e,r⟩
noncomputable def a1:Str:=oS "_node2info"
noncomputable def a2:Str:=oS "_ready_nodes"
noncomputable def a3:Str:=oS "_npassedout"
noncomputable def a4:Str:=oS "_nfinished"
noncomputable def Sg0 (w:World) (t1 t2 t3 t4:Tok) (v1 v2 v3 v4:Value):List DictEntry :=
 [⟨PyData.keyHash w.params (oS "_node2info"),.str (oS "_node2info") t1,v1⟩,⟨PyData.keyHash w.params (oS "_ready_nodes"),.str (oS "_ready_nodes") t2,v2⟩,
 ⟨PyData.keyHash w.params (oS "_npassedout"),.str (oS "_npassedout") t3,v3⟩,⟨PyData.keyHash w.params (oS "_nfinished"),.str (oS "_nfinished") t4,v4⟩]
noncomputable def In0:Option (Addr × List Str)→Value
 | none=>.none
 | some p=>.ref p.1
noncomputable abbrev Hz0 (k:Str) (t:Tok) (np:Int) (u:Tok) (L D:Addr):Obj:={ cls:=.ref 84,dict:=some D,data:=.plain,slots:=#[some (.str k t),some (.int np u),some (.ref L)] }
structure Srt.At (w:World) (h:Heap) (x:Srt):Prop where
 t:h.get? x.T = some (instObj 181 x.DT)
 dt:∃ t1 t2 t3 t4 ep u3 u4,h.get? x.DT = some (dictOf (Sg0 w t1 t2 t3 t4 (.ref x.N) (In0 x.R) (.int x.po u3) (.int x.fin u4)) ep)
 n:h.DictOf (sK w) x.N x.kvs
 r:∀ p,x.R = some p→StrL h p.1 p.2
 nd:∀ d ∈ x.nds,(∃ t u,h.get? d.I = some (Hz0 d.key t d.np u d.L d.D))∧h.get? d.D = some emptyDict∧StrL h d.L d.succ
 apart:x.addrs.Nodup
 lo:∀ a ∈ x.addrs,269 ≤ a
theorem Srt.mem_nd {x:Srt} {d:Nd} (h:d ∈ x.nds) {a:Addr} (ha:a ∈ d.addrs):a ∈ x.addrs :=
 .tail _ (.tail _ (.tail _ (List.mem_append_right _ (List.mem_flatMap.mpr ⟨d,h,ha⟩))))
theorem Srt.mem_r {x:Srt} {p:Addr × List Str} (h:x.R = some p):p.1 ∈ x.addrs :=
 .tail _ (.tail _ (.tail _ (List.mem_append_left _ (by rw [h]; exact .head _))))
theorem Srt.mem_cases {x:Srt} (h:a ∈ x.addrs):a = x.T ∨ a = x.DT ∨ a = x.N ∨ (∃ p,x.R = some p∧a = p.1) ∨ ∃ d ∈ x.nds,a ∈ d.addrs:=by
 rcases List.mem_cons.mp h with h | h
 ·exact .inl h
 rcases List.mem_cons.mp h with h | h
 ·exact .inr (.inl h)
 rcases List.mem_cons.mp h with h | h
 ·exact .inr (.inr (.inl h))
 rcases List.mem_append.mp h with h | h
 ·cases hr:x.R with
  | none=>rw [hr] at h; cases h
  | some p=>rw [hr] at h; exact .inr (.inr (.inr (.inl ⟨p,rfl,by simpa using h⟩)))
 ·obtain ⟨d,hd,ha⟩:=List.mem_flatMap.mp h
  exact .inr (.inr (.inr (.inr ⟨d,hd,ha⟩)))
theorem Srt.At.keep {x:Srt} (at_:x.At w h) (k:∀ a ∈ x.addrs,∀ o,h.get? a = some o→h'.get? a = some o):x.At w h' where
 t:=k _ (.head _) _ at_.t
 dt:=by obtain ⟨t1,t2,t3,t4,ep,u3,u4,e⟩:=at_.dt; exact ⟨t1,t2,t3,t4,ep,u3,u4,k _ (.tail _ (.head _)) _ e⟩
 n:=by obtain ⟨o,es,ep,e,r⟩:=at_.n; exact ⟨o,es,ep,k _ (.tail _ (.tail _ (.head _))) _ e,r⟩
 r:=fun p hp=>(at_.r p hp).keep fun o e=>k _ (Srt.mem_r hp) o e
 nd:=fun d hd=>by obtain ⟨⟨t,u,e1⟩,e2,e3⟩:=at_.nd d hd; exact ⟨⟨t,u,k _ (Srt.mem_nd hd (.head _)) _ e1⟩,k _ (Srt.mem_nd hd (.tail _ (.head _))) _ e2,e3.keep fun o e=>k _ (Srt.mem_nd hd (.tail _ (.tail _ (.head _)))) o e⟩
 apart:=at_.apart
 lo:=at_.lo
theorem Srt.At.locals {x:Srt}:Yg0 x.addrs (fun h=>x.At w h):=fun _ _ k a=>a.keep k
theorem Srt.At.there {x:Srt} (at_:x.At w h):∀ a ∈ x.addrs,∃ o,h.get? a = some o∧(∀ ws,o.data ≠ .fields ws)∧o.cls ≠ .type "tuple" := fun a ha=>by
 rcases Srt.mem_cases ha with rfl | rfl | rfl | ⟨p,hp,rfl⟩ | ⟨d,hd,ha⟩
 ·exact ⟨_,at_.t,(by intro _ q; cases q),(by intro q; simp [dictOf,emptyDict] at q)⟩
 ·obtain ⟨t1,t2,t3,t4,ep,u3,u4,e⟩:=at_.dt; exact ⟨_,e,(by intro _ q; cases q),(by intro q; simp [dictOf,emptyDict] at q)⟩
 ·obtain ⟨o,es,ep,e,⟨hc,_⟩,hd,_⟩:=at_.n
  exact ⟨o,e,(by intro _ q; rw [hd] at q; cases q),(by intro q; rw [hc] at q; simp at q)⟩
 ·obtain ⟨vs,n,sl,e,_⟩:=at_.r p hp; exact ⟨_,e,(by intro _ q; cases q),(by intro q; simp [dictOf,emptyDict] at q)⟩
 ·obtain ⟨⟨t,u,e1⟩,e2,⟨vs,n,sl,e3,_⟩⟩:=at_.nd d hd
  simp only [Nd.addrs,List.mem_cons,List.not_mem_nil,or_false] at ha
  rcases ha with rfl | rfl | rfl
  ·exact ⟨_,e1,(by intro _ q; cases q),(by intro q; simp [dictOf,emptyDict] at q)⟩
  ·exact ⟨_,e2,(by intro _ q; cases q),(by intro q; simp [dictOf,emptyDict] at q)⟩
  ·exact ⟨_,e3,(by intro _ q; cases q),(by intro q; simp [dictOf,emptyDict] at q)⟩
theorem Srt.At.has {x:Srt} (at_:x.At w h):∀ a ∈ x.addrs,∃ o,h.get? a = some o∧Nf a o:=fun a ha=>by obtain ⟨o,e,d,_⟩:=at_.there a ha; exact ⟨o,e,.inr d⟩
theorem Srt.At.noTup {x:Srt} (at_:x.At w h):Jb1 x.addrs h:=fun a ha o e=>by
 obtain ⟨o',e',_,q⟩:=at_.there a ha
 rw [e] at e'; cases e'; exact q
theorem Srt.At.yok {x:Srt} (at_:x.At w h) (hx:∀ a ∈ x.addrs,a ∉ X):YOk X x.addrs h:=⟨hx,fun a ha=>by obtain ⟨o,e,d,_⟩:=at_.there a ha; exact ⟨o,e,d⟩,at_.lo⟩
noncomputable def Held (c:Cx) (x:Srt):Prop:=∃ h0,x.At c.w h0∧∀ a ∈ x.addrs,∀ o,h0.get? a = some o→c.pin (a,o)
theorem Held.at {x:Srt} (H:Held c x) (S:St c ρ s):x.At c.w s.heap :=
 by obtain ⟨_,a,p⟩:=H; exact a.keep fun b hb o e=>S.pin (b,o) (p b hb o e)
theorem Hf0 {x:Srt} (at_:x.At c.w h):Held (c.pins (atY c x.addrs h)) x:=⟨h,at_,fun a ha o e=>.inr ⟨ha,e⟩⟩
theorem Th0 (w:World):∀ name,plainGet (KF w) 181 name = true:=fun _=>by rfl
theorem Ln1 (w:World):∀ name,plainGet (KF w) 84 name = true:=fun _=>by rfl
theorem Wx0 (w:World):hasDictIn (KF w) 181 = true:=by rfl
theorem Gf1 (w:World):isClsIn (KF w) 84 = true:=by rfl
theorem f1 (w:World):findIn (KF w) (.ref 181) (oS "_node2info") = some none:=by rfl
theorem f2 (w:World):findIn (KF w) (.ref 181) (oS "_ready_nodes") = some none:=by rfl
theorem f3 (w:World):findIn (KF w) (.ref 181) (oS "_npassedout") = some none:=by rfl
theorem f4 (w:World):findIn (KF w) (.ref 181) (oS "_nfinished") = some none:=by rfl
theorem s85 (w:World):findIn (KF w) (.ref 84) (oS "node") = some (some (.ref 85)):=by rfl
theorem s86 (w:World):findIn (KF w) (.ref 84) (oS "npredecessors") = some (some (.ref 86)):=by rfl
theorem s87 (w:World):findIn (KF w) (.ref 84) (oS "successors") = some (some (.ref 87)):=by rfl
theorem g85 (w:World):specialIn (KF w) (.ref 85) "__get__" = some (some (.builtin "member_descriptor.__get__"))∧takesIn (KF w) (.ref 85) = some true∧slotIn (KF w) 85 84 = some 0:=⟨by rfl,by rfl,by rfl⟩
theorem g86 (w:World):specialIn (KF w) (.ref 86) "__get__" = some (some (.builtin "member_descriptor.__get__"))∧takesIn (KF w) (.ref 86) = some true∧slotIn (KF w) 86 84 = some 1:=⟨by rfl,by rfl,by rfl⟩
theorem g87 (w:World):specialIn (KF w) (.ref 87) "__get__" = some (some (.builtin "member_descriptor.__get__"))∧takesIn (KF w) (.ref 87) = some true∧slotIn (KF w) 87 84 = some 2:=⟨by rfl,by rfl,by rfl⟩
noncomputable abbrev Db0 (env:Env) (value:Expr) (attr:Str) (pos:Pos):Prop:=eval (.Attribute value attr pos) env = (do
   let o ← eval value env
   standAt pos.atName
   let r ← holding [o] (getAttr o attr true)
   letTemporaryGo value o r
   pure r)
section
variable {x:Srt} {d:Nd} {P:Value→Prop}
theorem Ix0 (ok:CxOk c) (H:Held c x) (ho:Ev c ρ o fun _ u=>u = .ref x.T) (hf:findIn (KF c.w) (.ref 181) name = some none)
  (hl:∀ t1 t2 t3 t4 u3 u4,∃ v,getL name (Sg0 c.w t1 t2 t3 t4 (.ref x.N) (In0 x.R) (.int x.po u3) (.int x.fin u4)) = some (some v)∧handedIn v = true∧P v)
  (he:Db0 c.env o name apos:=by with_unfolding_all rfl):Ev c ρ (.Attribute o name apos) fun _ u=>P u:=fun s S E=>by
 refine Attribute_any_ (Ad0 ok ho S (.refl _ _) fun u s1 S1 k1 _ hu=>?_) he
 subst hu
 have a:=H.at S1
 obtain ⟨t1,t2,t3,t4,ep,u3,u4,e⟩:=a.dt
 obtain ⟨v,h1,h2,h3⟩:=hl t1 t2 t3 t4 u3 u4
 exact get_value (S1.amb ok).wd.k ⟨a.t,rfl,rfl,e⟩ (plainGet_of (Th0 c.w name)).1 (findObj_own (od:=dictOf _ ep) (Wx0 c.w) hf rfl ((lookIn_dict name _ ep).trans h1)) h2 ⟨k1.trans (.toks _ _),h3⟩
theorem Mo0 (ok:CxOk c) (H:Held c x) (ho:Ev c ρ o fun _ u=>u = .ref x.T) (he:Db0 c.env o (oS "_node2info") apos:=by with_unfolding_all rfl):Ev c ρ (.Attribute o (oS "_node2info") apos) fun _ u=>u = .ref x.N :=
 Ix0 ok H ho (f1 _) (fun _ _ _ _ _ _=>⟨_,rfl,rfl,rfl⟩) he
theorem Db1 (r:Option (Addr × List Str)):handedIn (In0 r) = true:=by cases r <;> rfl
theorem Hg0 (ok:CxOk c) (H:Held c x) (ho:Ev c ρ o fun _ u=>u = .ref x.T) (he:Db0 c.env o (oS "_ready_nodes") apos:=by with_unfolding_all rfl):Ev c ρ (.Attribute o (oS "_ready_nodes") apos) fun _ u=>u = In0 x.R :=
 Ix0 ok H ho (f2 _) (fun _ _ _ _ _ _=>⟨_,rfl,Db1 _,rfl⟩) he
theorem Lo1 (ok:CxOk c) (H:Held c x) (ho:Ev c ρ o fun _ u=>u = .ref x.T) (he:Db0 c.env o (oS "_npassedout") apos:=by with_unfolding_all rfl):EvD c ρ (.Attribute o (oS "_npassedout") apos) (.int x.po) :=
 Hr0 (Ix0 (P:=fun u=>∃ t,u = .int x.po t) ok H ho (f3 _) (fun _ _ _ _ _ _=>⟨_,rfl,rfl,_,rfl⟩) he) fun _ _ hh1=>by obtain ⟨t,e⟩:=hh1; exact e ▸ .int _ _
theorem Jc1 (ok:CxOk c) (H:Held c x) (ho:Ev c ρ o fun _ u=>u = .ref x.T) (he:Db0 c.env o (oS "_nfinished") apos:=by with_unfolding_all rfl):EvD c ρ (.Attribute o (oS "_nfinished") apos) (.int x.fin) :=
 Hr0 (Ix0 (P:=fun u=>∃ t,u = .int x.fin t) ok H ho (f4 _) (fun _ _ _ _ _ _=>⟨_,rfl,rfl,_,rfl⟩) he) fun _ _ hh2=>by obtain ⟨t,e⟩:=hh2; exact e ▸ .int _ _
theorem Ti0 {p:Addr} {i:Nat} (ok:CxOk c) (H:Held c x) (hd:d ∈ x.nds) (ho:Ev c ρ o fun _ u=>u = .ref d.I) (ha:findIn (KF c.w) (.ref 84) name = some (some (.ref p)))
  (hg:specialIn (KF c.w) (.ref p) "__get__" = some (some (.builtin "member_descriptor.__get__"))∧takesIn (KF c.w) (.ref p) = some true∧slotIn (KF c.w) p 84 = some i)
  (hl:∀ t u,∃ v,((Hz0 d.key t d.np u d.L d.D).slots[i]?).join = some v∧handedIn v = true∧P v) (he:Db0 c.env o name apos:=by with_unfolding_all rfl):Ev c ρ (.Attribute o name apos) fun _ u=>P u:=fun s S E=>by
 refine Attribute_any_ (Ad0 ok ho S (.refl _ _) fun u s1 S1 k1 _ hu=>?_) he
 subst hu
 obtain ⟨⟨t,u,e1⟩,e2,e3⟩:=(H.at S1).nd d hd
 obtain ⟨v,h1,h2,h3⟩:=hl t u
 exact Ke0 (S1.amb ok).wd.k ⟨e1,rfl,rfl,e2⟩ (Ln1 _ _) (Gf1 _) ha hg.1 hg.2.1 hg.2.2 h1 h2 ⟨k1.trans (.toks _ _),h3⟩
theorem Gg1 (ok:CxOk c) (H:Held c x) (hd:d ∈ x.nds) (ho:Ev c ρ o fun _ u=>u = .ref d.I) (he:Db0 c.env o (oS "node") apos:=by with_unfolding_all rfl):EvD c ρ (.Attribute o (oS "node") apos) (.str d.key) :=
 Hr0 (Ti0 (P:=fun u=>∃ t,u = .str d.key t) ok H hd ho (s85 _) (g85 _) (fun _ _=>⟨_,rfl,rfl,_,rfl⟩) he) fun _ _ hh3=>by obtain ⟨t,e⟩:=hh3; exact e ▸ .str _ _
theorem Gh1 (ok:CxOk c) (H:Held c x) (hd:d ∈ x.nds) (ho:Ev c ρ o fun _ u=>u = .ref d.I) (he:Db0 c.env o (oS "npredecessors") apos:=by with_unfolding_all rfl):EvD c ρ (.Attribute o (oS "npredecessors") apos) (.int d.np) :=
 Hr0 (Ti0 (P:=fun u=>∃ t,u = .int d.np t) ok H hd ho (s86 _) (g86 _) (fun _ _=>⟨_,rfl,rfl,_,rfl⟩) he) fun _ _ hh4=>by obtain ⟨t,e⟩:=hh4; exact e ▸ .int _ _
theorem Tj0 (ok:CxOk c) (H:Held c x) (hd:d ∈ x.nds) (ho:Ev c ρ o fun _ u=>u = .ref d.I) (he:Db0 c.env o (oS "successors") apos:=by with_unfolding_all rfl):Ev c ρ (.Attribute o (oS "successors") apos) fun _ u=>u = .ref d.L :=
 Ti0 ok H hd ho (s87 _) (g87 _) (fun _ _=>⟨_,rfl,rfl,rfl⟩) he
theorem Ai0 (ok:CxOk c) (h:ρ.lookup y = some (.raw v)) (hd:(y == ("__debug__" : Str)) = false:=by rfl):Ev c ρ (.Name y np) fun _ u=>u = v:=Dd0 ok (fun s S=>⟨_,S.raw y _ h,rfl⟩) hd
theorem Io0 (w:World) (k:Str) (t:Tok):(sK w).is k (.str k t) = true:=by show Value.isStrOf k (.str k t) = true; simp [Value.isStrOf]
theorem Srt.At.nodupK {x:Srt} (a:x.At w h):(x.nds.map (·.key)).Nodup:=by
 obtain ⟨o,es,ep,_,_,_,_,_,hn⟩:=a.n
 simpa [Srt.kvs,Function.comp_def] using hn
theorem Gi0 {x:Srt} (hn:(x.nds.map (·.key)).Nodup) (hd:d ∈ x.nds):valueAt x.kvs d.key = some (.ref d.I):=by
 obtain ⟨i,hi,e⟩:=List.getElem_of_mem hd
 refine valueAt_of_get (i:=i) (by simpa [Srt.kvs,Function.comp_def] using hn) ?_
 simp [Srt.kvs,List.getElem?_eq_getElem hi,e]
theorem Qx0 {x:Srt} (hk:k ∉ x.nds.map (·.key)):valueAt x.kvs k = none:=by
 unfold valueAt
 rw [List.find?_eq_none.mpr,Option.map_none]
 intro p hp
 obtain ⟨d,hd,hQ126⟩:=List.mem_map.mp hp; subst hQ126
 simp only [decide_eq_true_eq]
 intro q
 exact hk (q ▸ List.mem_map.mpr ⟨d,hd,rfl⟩)
theorem Ob0 (h:269 ≤ a):(a == sysModules) = false:=by
 cases q:a == sysModules with
 | false=>rfl
 | true=>rw [beq_iff_eq] at q; rw [q] at h; exact absurd h (by decide)
theorem Oc0 {i:Expr} (ok:CxOk c) (H:Held c x) (hd:d ∈ x.nds) (ho:Ev c ρ o fun _ u=>u = .ref x.N) (hi:EvD c ρ i (.str d.key)) (hs:∀ o j,subscripted i false o j = operate [o,j] (getItem o j):=by intro _ _; rfl) :
  Ev c ρ (.Subscript o i pos) fun _ u=>u = .ref d.I :=
 Jg0 ok ho hi (fun _ _ _ _ _ p=>p) fun s ov j S p q E=>by
  subst p
  obtain ⟨t,hQ127⟩:=q.str_inv; subst hQ127
  have a:=H.at S
  exact tail_any a.n.typeIs PySem.slot_dict_getitem.lookup (wpAny_getItem_of (Io0 _ _ _) a.n.mapOf (Gi0 a.nodupK hd) ⟨.toks _ _,rfl⟩) (hs _ _)
end
theorem Cl0 {x:Srt} (h:x.addrs.Nodup):x.T ≠ x.DT∧x.T ≠ x.N∧x.DT ≠ x.N∧(∀ p,x.R = some p→x.T ≠ p.1∧x.DT ≠ p.1∧x.N ≠ p.1)∧(∀ d ∈ x.nds,∀ a ∈ d.addrs,x.T ≠ a∧x.DT ≠ a∧x.N ≠ a∧∀ p,x.R = some p→p.1 ≠ a)∧(x.nds.flatMap Nd.addrs).Nodup:=by
 unfold Srt.addrs at h
 rw [List.nodup_cons,List.nodup_cons,List.nodup_cons,List.nodup_append] at h
 obtain ⟨h1,h2,h3,h4,h5,h6⟩:=h
 have hr:∀ p,x.R = some p→p.1 ∈ (x.R.map (·.1)).toList:=fun p hp=>by rw [hp]; exact .head _
 have hn:∀ d ∈ x.nds,∀ a ∈ d.addrs,a ∈ x.nds.flatMap Nd.addrs:=fun d hd a ha=>List.mem_flatMap.mpr ⟨d,hd,ha⟩
 refine ⟨fun q=>h1 (q ▸ .head _),fun q=>h1 (q ▸ .tail _ (.head _)),fun q=>h2 (q ▸ .head _),fun p hp=>⟨fun q=>h1 (q ▸ .tail _ (.tail _ (List.mem_append_left _ (hr p hp)))),fun q=>h2 (q ▸ .tail _ (List.mem_append_left _ (hr p hp))),fun q=>h3 (q ▸ List.mem_append_left _ (hr p hp))⟩,
  fun d hd a ha=>⟨fun q=>h1 (q ▸ .tail _ (.tail _ (List.mem_append_right _ (hn d hd a ha)))),fun q=>h2 (q ▸ .tail _ (List.mem_append_right _ (hn d hd a ha))),fun q=>h3 (q ▸ List.mem_append_right _ (hn d hd a ha)),fun p hp q=>h6 _ (hr p hp) _ (hn d hd a ha) q⟩,h5⟩
theorem Jd1 {nds:List Nd} (h:(nds.flatMap Nd.addrs).Nodup) {d e:Nd} (hd:d ∈ nds) (he:e ∈ nds) (hne:d.key ≠ e.key):∀ a ∈ d.addrs,∀ b ∈ e.addrs,a ≠ b:=by
 obtain ⟨_,h2⟩:=List.pairwise_flatMap.mp h
 obtain ⟨i,hi,hQ128⟩:=List.getElem_of_mem hd; subst hQ128
 obtain ⟨j,hj,hQ129⟩:=List.getElem_of_mem he; subst hQ129
 rw [List.pairwise_iff_getElem] at h2
 rcases Nat.lt_trichotomy i j with q | q | q
 ·exact h2 i j hi hj q
 ·subst q; exact absurd rfl hne
 ·intro a ha b hb
  exact Ne.symm (h2 j i hj hi q b hb a ha)
theorem Od0 {nds:List Nd} (h:(nds.flatMap Nd.addrs).Nodup) {d:Nd} (hd:d ∈ nds):d.I ≠ d.D∧d.I ≠ d.L∧d.D ≠ d.L:=by
 obtain ⟨h1,_⟩:=List.pairwise_flatMap.mp h
 have:[d.I,d.D,d.L].Nodup:=h1 d hd
 simp at this
 exact ⟨this.1.1,this.1.2,this.2⟩
theorem Tk0 {nds:List Nd} (h:(nds.map (·.key)).Nodup) {d e:Nd} (hd:d ∈ nds) (he:e ∈ nds) (hk:d.key = e.key):d = e:=by
 obtain ⟨i,hi,hQ130⟩:=List.getElem_of_mem hd; subst hQ130
 obtain ⟨j,hj,hQ131⟩:=List.getElem_of_mem he; subst hQ131
 have:i = j:=by
  unfold List.Nodup at h
  rw [List.pairwise_iff_getElem] at h
  rcases Nat.lt_trichotomy i j with q | q | q
  ·have:=h i j (by simpa using hi) (by simpa using hj) q
   rw [List.getElem_map,List.getElem_map] at this; exact absurd hk this
  ·exact q
  ·have:=h j i (by simpa using hj) (by simpa using hi) q
   rw [List.getElem_map,List.getElem_map] at this; exact absurd hk.symm this
 subst this; rfl
noncomputable def Srt.mod (x:Srt) (k:Str) (f:Nd→Nd):Srt:={ x with nds:=x.nds.map fun d=>if d.key = k then f d else d }
structure Nd.Same (f:Nd→Nd):Prop where
 key:∀ d,(f d).key = d.key
 I:∀ d,(f d).I = d.I
 D:∀ d,(f d).D = d.D
 L:∀ d,(f d).L = d.L
theorem Srt.mod_kvs {x:Srt} {f:Nd→Nd} (hf:Nd.Same f):(x.mod k f).kvs = x.kvs:=by
 unfold Srt.kvs Srt.mod
 simp only [List.map_map]
 apply List.map_congr_left
 intro d _
 simp only [Function.comp_apply]
 split
 ·rw [hf.key,hf.I]
 ·rfl
theorem Srt.mod_addrs {x:Srt} {f:Nd→Nd} (hf:Nd.Same f):(x.mod k f).addrs = x.addrs:=by
 unfold Srt.addrs Srt.mod
 simp only [List.flatMap_map]
 congr 4
 congr 1
 funext d
 split
 ·unfold Nd.addrs; rw [hf.I,hf.D,hf.L]
 ·rfl
theorem Srt.At.mod {x:Srt} {d:Nd} {f:Nd→Nd} (a:x.At w h) (hd:d ∈ x.nds) (hf:Nd.Same f) {b:Addr} (hb:b = d.I ∨ b = d.L) (hs:Heap.SameBut b h h')
  (hI:∃ t u,h'.get? d.I = some (Hz0 d.key t (f d).np u d.L d.D)) (hL:StrL h' d.L (f d).succ):(x.mod d.key f).At w h':=by
 obtain ⟨n1,n2,n3,n4,n5,n6⟩:=Cl0 a.apart
 have hbd:b ∈ d.addrs:=by rcases hb with rfl | rfl <;> simp [Nd.addrs]
 have hbD:b ≠ d.D:=by
  obtain ⟨m1,m2,m3⟩:=Od0 n6 hd
  rcases hb with rfl | rfl
  ·exact m1
  ·exact Ne.symm m3
 obtain ⟨p1,p2,p3,p4⟩:=n5 d hd b hbd
 have nk:=a.nodupK
 refine ⟨(hs.2 _ p1).trans a.t,?_,?_,fun p hp=>(a.r p hp).keep fun o e=>(hs.2 _ (p4 p hp)).trans e,fun e he=>?_,by rw [Srt.mod_addrs hf]; exact a.apart,by rw [Srt.mod_addrs hf]; exact a.lo⟩
 ·obtain ⟨t1,t2,t3,t4,ep,u3,u4,e⟩:=a.dt; exact ⟨t1,t2,t3,t4,ep,u3,u4,(hs.2 _ p2).trans e⟩
 ·rw [Srt.mod_kvs hf]; exact a.n.sameBut hs p3
 ·obtain ⟨e0,h0,hQ132⟩:=List.mem_map.mp he; subst hQ132
  split
  ·rename_i hk
   have:=Tk0 nk h0 hd hk
   subst this
   rw [hf.key,hf.I,hf.D,hf.L]
   exact ⟨hI,(hs.2 _ (Ne.symm hbD)).trans (a.nd e0 hd).2.1,hL⟩
  ·rename_i hk
   have hne:=Jd1 n6 h0 hd hk
   obtain ⟨⟨t,u,e1⟩,e2,e3⟩:=a.nd e0 h0
   exact ⟨⟨t,u,(hs.2 _ (hne _ (by simp [Nd.addrs]) _ hbd)).trans e1⟩,(hs.2 _ (hne _ (by simp [Nd.addrs]) _ hbd)).trans e2,e3.keep fun o eo=>(hs.2 _ (hne _ (by simp [Nd.addrs]) _ hbd)).trans eo⟩
theorem Srt.At.setDT {x:Srt} {R:Option (Addr × List Str)} {po fin:Int} (a:x.At w h) (hs:Heap.SameBut x.DT h h') (hR:R = x.R ∨ (x.R = none∧∃ p,R = some p∧p.1 ∉ x.addrs∧269 ≤ p.1∧StrL h' p.1 p.2))
  (hd:∃ t1 t2 t3 t4 ep u3 u4,h'.get? x.DT = some (dictOf (Sg0 w t1 t2 t3 t4 (.ref x.N) (In0 R) (.int po u3) (.int fin u4)) ep)):({ x with R:=R,po:=po,fin:=fin }:Srt).At w h':=by
 obtain ⟨n1,n2,n3,n4,n5,n6⟩:=Cl0 a.apart
 refine ⟨(hs.2 _ n1).trans a.t,hd,a.n.sameBut hs (Ne.symm n3),fun p hp=>?_,fun d hdm=>?_,?_,?_⟩
 ·rcases hR with rfl | ⟨hn,q,rfl,_,_,hq⟩
  ·exact (a.r p hp).keep fun o e=>(hs.2 _ (Ne.symm (n4 p hp).2.1)).trans e
  ·cases hp; exact hq
 ·obtain ⟨⟨t,u,e1⟩,e2,e3⟩:=a.nd d hdm
  have q:=fun b hb=>Ne.symm (n5 d hdm b hb).2.1
  exact ⟨⟨t,u,(hs.2 _ (q _ (by simp [Nd.addrs]))).trans e1⟩,(hs.2 _ (q _ (by simp [Nd.addrs]))).trans e2,e3.keep fun o eo=>(hs.2 _ (q _ (by simp [Nd.addrs]))).trans eo⟩
 ·rcases hR with rfl | ⟨hn,q,rfl,hq1,_,_⟩
  ·exact a.apart
  ·have h0:=a.apart
   unfold Srt.addrs at h0 hq1 ⊢
   rw [hn] at h0 hq1
   simp only [Option.map_none,Option.toList_none,List.nil_append,Option.map_some,Option.toList_some,List.cons_append,List.mem_cons,not_or,List.nodup_cons] at h0 hq1 ⊢
   obtain ⟨g1,g2,g3,g4⟩:=h0
   obtain ⟨q1,q2,q3,q4⟩:=hq1
   exact ⟨⟨g1.1,g1.2.1,Ne.symm q1,g1.2.2⟩,⟨g2.1,Ne.symm q2,g2.2⟩,⟨Ne.symm q3,g3⟩,q4,g4⟩
 ·rcases hR with rfl | ⟨hn,q,rfl,hq1,hq2,_⟩
  ·exact a.lo
  ·intro b hb
   unfold Srt.addrs at hb
   simp only [Option.map_some,Option.toList_some,List.cons_append,List.nil_append,List.mem_cons] at hb
   have:=a.lo
   unfold Srt.addrs at this
   rw [hn] at this
   simp only [Option.map_none,Option.toList_none,List.nil_append,List.mem_cons] at this
   rcases hb with rfl | rfl | rfl | rfl | hb
   ·exact this _ (.inl rfl)
   ·exact this _ (.inr (.inl rfl))
   ·exact this _ (.inr (.inr (.inl rfl)))
   ·exact hq2
   ·exact this _ (.inr (.inr (.inr hb)))
theorem Srt.At.setRs {x:Srt} {p:Addr × List Str} {rs:List Str} (a:x.At w h) (hp:x.R = some p) (hs:Heap.SameBut p.1 h h') (hq:StrL h' p.1 rs):({ x with R:=some (p.1,rs) }:Srt).At w h':=by
 obtain ⟨n1,n2,n3,n4,n5,n6⟩:=Cl0 a.apart
 obtain ⟨m1,m2,m3⟩:=n4 p hp
 have ha:({ x with R:=some (p.1,rs) }:Srt).addrs = x.addrs:=by unfold Srt.addrs; rw [hp]; rfl
 refine ⟨(hs.2 _ m1).trans a.t,?_,a.n.sameBut hs m3,fun q hq'=>by cases hq'; exact hq,fun d hdm=>?_,by rw [ha]; exact a.apart,by rw [ha]; exact a.lo⟩
 ·obtain ⟨t1,t2,t3,t4,ep,u3,u4,e⟩:=a.dt
  exact ⟨t1,t2,t3,t4,ep,u3,u4,(hs.2 _ m2).trans (by rw [e,hp]; rfl)⟩
 ·obtain ⟨⟨t,u,e1⟩,e2,e3⟩:=a.nd d hdm
  have q:=fun b hb=>Ne.symm ((n5 d hdm b hb).2.2.2 p hp)
  exact ⟨⟨t,u,(hs.2 _ (q _ (by simp [Nd.addrs]))).trans e1⟩,(hs.2 _ (q _ (by simp [Nd.addrs]))).trans e2,e3.keep fun o eo=>(hs.2 _ (q _ (by simp [Nd.addrs]))).trans eo⟩
theorem Srt.At.addNd {x:Srt} {D L:Addr} (a:x.At w h) (hnew:∀ b ∈ [I,D,L],b ∉ x.addrs∧269 ≤ b) (hnd:[I,D,L].Nodup) (hs:∀ b ∈ x.addrs,b ≠ x.N→∀ o,h.get? b = some o→h'.get? b = some o)
  (hN:h'.DictOf (sK w) x.N (x.kvs ++ [(k,.ref I)])) (hI:∃ t u,h'.get? I = some (Hz0 k t 0 u L D)) (hD:h'.get? D = some emptyDict) (hL:StrL h' L []):({ x with nds:=x.nds ++ [⟨k,I,D,L,0,[]⟩] }:Srt).At w h':=by
 obtain ⟨n1,n2,n3,n4,n5,n6⟩:=Cl0 a.apart
 have ha:({ x with nds:=x.nds ++ [⟨k,I,D,L,0,[]⟩] }:Srt).addrs = x.addrs ++ [I,D,L]:=by
  unfold Srt.addrs
  simp [List.flatMap_append,Nd.addrs]
 refine ⟨hs _ (.head _) n2 _ a.t,?_,?_,fun p hp=>(a.r p hp).keep fun o e=>hs _ (Srt.mem_r hp) (Ne.symm (n4 p hp).2.2) o e,fun d hd=>?_,?_,?_⟩
 ·obtain ⟨t1,t2,t3,t4,ep,u3,u4,e⟩:=a.dt; exact ⟨t1,t2,t3,t4,ep,u3,u4,hs _ (.tail _ (.head _)) n3 _ e⟩
 ·have:({ x with nds:=x.nds ++ [⟨k,I,D,L,0,[]⟩] }:Srt).kvs = x.kvs ++ [(k,.ref I)]:=by unfold Srt.kvs; simp
  rw [this]; exact hN
 ·rcases List.mem_append.mp hd with hd | hd
  ·obtain ⟨⟨t,u,e1⟩,e2,e3⟩:=a.nd d hd
   have q:=fun b (hb:b ∈ d.addrs) o (eo:h.get? b = some o)=>hs b (Srt.mem_nd hd hb) (Ne.symm (n5 d hd b hb).2.2.1) o eo
   exact ⟨⟨t,u,q _ (by simp [Nd.addrs]) _ e1⟩,q _ (by simp [Nd.addrs]) _ e2,e3.keep fun o eo=>q _ (by simp [Nd.addrs]) _ eo⟩
  ·rw [List.mem_singleton.mp hd]; exact ⟨hI,hD,hL⟩
 ·rw [ha,List.nodup_append]
  exact ⟨a.apart,hnd,fun b hb b' hb' q=>(hnew b' hb').1 (q ▸ hb)⟩
 ·rw [ha]
  intro b hb
  rcases List.mem_append.mp hb with q | q
  ·exact a.lo b q
  ·exact (hnew b q).2
theorem Qy0 (t:TabOk h):∃ o,h.get? tA = some o:=by obtain ⟨vs,e,_⟩:=t; exact ⟨_,e⟩
theorem Apart.extend {Y Y':List Addr} (ok:CxOk c) (S:St (c.mores Y) ρ s) (ap:Apart c ρ Y) (hnew:∀ a ∈ Y',a ∈ Y ∨ s.heap.get? a = none):Apart c ρ Y':=by
 have okY:=ok.mores Y
 have key:∀ {P:Addr→Prop},(∀ a ∈ Y,¬ P a)→(∀ a,P a→∃ o,s.heap.get? a = some o)→∀ a ∈ Y',¬ P a:=fun h1 h2 a ha hp=>by
  rcases hnew a ha with q | q
  ·exact h1 a q hp
  ·obtain ⟨o,e⟩:=h2 a hp; rw [q] at e; cases e
 have tb:=Qy0 (S.tab okY)
 have hfs:∀ a,a ∈ c.fs→∃ o,s.heap.get? a = some o:=fun a ha=>by obtain ⟨o,e,_⟩:=S.has a (List.mem_append_right _ (List.mem_append_right _ (ok.fsX a ha))); exact ⟨o,e⟩
 have htab:=key (P:=fun a=>a = tA) (fun a ha=>ap.tab a ha) (fun a q=>q ▸ tb)
 refine ⟨fun a ha=>?_,key (P:=fun a=>a = c.env.locals) (fun a ha=>ap.loc a ha) (fun a q=>?_),fun a ha n=>key (P:=fun a=>(n,a) ∈ c.env.cells) (fun a ha=>ap.cell a ha n) (fun a q=>?_) a ha,key (P:=fun a=>a ∈ c.fs) (fun a ha=>ap.fs a ha) hfs,htab,
  key (P:=fun a=>a ∈ As0 ρ) (fun a ha=>ap.own a ha) (fun a q=>?_),key (P:=fun a=>a ∈ c.X) (fun a ha=>ap.x a ha) (fun a q=>?_)⟩
 ·rcases hnew a ha with q | q
  ·exact ap.new a q
  ·exact S.new0 okY q (htab a ha)
 ·obtain ⟨m,o,es,ep,e,_⟩:=S.ns; exact ⟨o,by rw [q]; exact e⟩
 ·obtain ⟨v,o,e,_⟩:=S.cell n a q; exact ⟨o,e⟩
 ·obtain ⟨o,e,_⟩:=S.has a (List.mem_append_left _ q); exact ⟨o,e⟩
 ·obtain ⟨o,e,_⟩:=S.has a (List.mem_append_right _ (List.mem_append_right _ q)); exact ⟨o,e⟩
structure SY (c:Cx) (x:Srt) (ρ:Rho) (s:Shared):Prop where
 st:St (c.mores x.addrs) ρ s
 at_:x.At c.w s.heap
 ap:Apart c ρ x.addrs
section
variable {x x':Srt}
theorem SY.after (ok:CxOk c) (Y:SY c x ρ s) (k:Kp c.fs (hid x.addrs s) s') (a:x'.At c.w s'.heap) (hsub:∀ a ∈ x.addrs,a ∈ x'.addrs) (hnew:∀ a ∈ x'.addrs,a ∈ x.addrs ∨ s.heap.get? a = none) (ht:0 < s'.toks):SY c x' ρ s' :=
 ⟨Y.st.after ok Y.ap k hsub hnew a.has ht,a,Y.ap.extend ok Y.st hnew⟩
theorem SY.step (ok:CxOk c) (Y:SY c x ρ s) (k:Kp c.fs s s') (ht:0 < s'.toks):SY c x ρ s' :=
 ⟨Y.st.step (ok.mores _) k ht,Qv0 Y.ap Srt.At.locals k Y.at_,Y.ap⟩
theorem SY.look (Y:SY c x ρ s):St (c.pins (atY c x.addrs s.heap)) ρ s:=Y.st.look Y.ap
theorem Je1 {Y:List Addr} (k:Kp fs s s') (t:TabOk s.heap):Kp fs (hid Y s) s':=⟨k.gens,k.os,fun b o e h1 h2=>k.keep b o (Gc0 e) h1 h2,fun b o e h2=>k.slot b o (Gc0 e) h2,fun _=>k.tab t⟩
theorem Dj0 {Y:List Addr} {s'':Shared} (k:Kp fs s s') (k':Kp fs (hid Y s') s'') (hY:∀ b ∈ Y,b ∉ fs) (t:TabOk (hid Y s').heap):Kp fs (hid Y s) s'' :=
 ⟨k'.gens.trans k.gens,k'.os.trans k.os,fun b o e h1 h2=>k'.keep b o (Br0 (k.keep b o (Gc0 e) h1 h2) (Fj0 e)) h1 h2,fun b o e h2=>by
  obtain ⟨sl,e1⟩:=k.slot b o (Gc0 e) h2
  obtain ⟨sl2,e2⟩:=k'.slot b _ (Br0 e1 (Fj0 e)) h2
  exact ⟨sl2,e2⟩,fun _=>k'.tab t⟩
theorem Kf0 {Y:List Addr} {tk:Nat} (hb:b ∈ Y) (hs:Heap.SameBut b s.heap h') (t:TabOk (hid Y s).heap):Kp fs (hid Y s) { s with heap:=h',toks:=tk } :=
 have key:∀ a o,(hid Y s).heap.get? a = some o→h'.get? a = some o:=fun a o e=>(hs.2 a fun q=>Fj0 e (q ▸ hb)).trans (Gc0 e)
 ⟨rfl,rfl,fun a o e _ _=>key a o e,fun a o e _=>⟨o.slots,key a o e⟩,fun _=>t.keeps key⟩
theorem SY.put (ok:CxOk c) (Y:SY c x ρ s) {b:Addr} {h':Heap} {tk:Nat} (hb:b ∈ x.addrs) (hs:Heap.SameBut b s.heap h') (a:x'.At c.w h') (ha:x'.addrs = x.addrs) (ht:0 < tk):SY c x' ρ { s with heap:=h',toks:=tk } :=
 Y.after ok (Kf0 hb hs (Cv0 ok Y.st Y.ap.tab)) a (fun b hb=>ha ▸ hb) (fun b hb=>.inl (ha ▸ hb)) ht
theorem Az0 {P:Heap→Value→Prop} {Q:Value→Shared→Prop} (ok:CxOk c) (Y:SY c x ρ s) (h:∀ p,Held (c.pins p) x→CxOk (c.pins p)→Ev (c.pins p) ρ e P) (hq:∀ v s',SY c x ρ s'→Kp c.fs s s'→P s'.heap v→Q v s'):wpAny (MM c.w) c.A (eval e c.env) Q E s :=
 Ad0 (c:=c.pins (atY c x.addrs s.heap)) (ok.pins _) (h _ (Hf0 Y.at_) (ok.pins _)) Y.look (.refl _ _) fun v s' S' k _ p=>hq v s' (Y.step ok k S'.toks) k p
theorem Dc1 {b:Bool} {Q:Bool→Shared→Prop} (ok:CxOk c) (Y:SY c x ρ s) (h:∀ p,Held (c.pins p) x→CxOk (c.pins p)→EvB (c.pins p) ρ e b) (hq:∀ s',SY c x ρ s'→Kp c.fs s s'→Q b s'):wpAny (MM c.w) c.A (isTrue e c.env (eval e c.env)) Q E s :=
 Cw0 (c:=c.pins (atY c x.addrs s.heap)) (ok.pins _) (h _ (Hf0 Y.at_) (ok.pins _)) Y.look (.refl _ _) fun s' S' k _=>hq s' (Y.step ok k S'.toks) k
theorem Mp0 {Q:List Value→Shared→Prop} (ok:CxOk c) (Y:SY c x ρ s) (h:∀ p,Held (c.pins p) x→CxOk (c.pins p)→Fb0 (c.pins p) ρ es ds) (hq:∀ vs s',SY c x ρ s'→Kp c.fs s s'→RdAll (fz (c.XX ρ) s'.heap) vs ds→Q vs s') :
  wpAny (MM c.w) c.A (spliced (backTo pos (starEach es c.env))) Q E s :=
 Bj0 (c:=c.pins (atY c x.addrs s.heap)) (ok.pins _) (h _ (Hf0 Y.at_) (ok.pins _)) Y.look (.refl _ _) fun v s' S' k _ p=>hq v s' (Y.step ok k S'.toks) k p
theorem SY.drop (Y:SY c x ρ s) (h:Sub ρ ρ'):SY c x ρ' s :=
 ⟨Y.st.drop h,Y.at_,Y.ap.rho fun a ha q=>by
  obtain ⟨p,hp,e⟩:=List.mem_filterMap.mp q
  exact Y.ap.own a ha (List.mem_filterMap.mpr ⟨_,Ag0 (h.get p hp),e⟩)⟩
theorem SY.store {sl:Slot} {Q:Unit→Shared→Prop} (ok:CxOk c) (Y:SY c x ρ s) (hx:c.env.kindOf y = some .local) (hcd:(y == ("__classdict__" : Str)) = false)
  (r:(∃ d,sl = .val d∧He0 d = true∧Rd (fz (c.XX ρ) s.heap) v d) ∨ sl = .raw v) (h:∀ s',SY c x ((y,sl) :: ρ) s'→Q () s'):wpAny (MM c.w) c.A (storeName c.env y v) Q E s:=by
 refine Y.st.storeS (ok.mores _) (.inl hx) hcd (r.imp (fun hh1=>by obtain ⟨d,e,hn,r⟩:=hh1; exact ⟨d,e,Yy0 Y.at_.noTup hn r⟩) id) fun s' S' _ kl=>h s' ⟨S',Ww0 Y.ap Srt.At.locals kl Y.at_,Y.ap.rho fun a ha=>?_⟩
 have:As0 ((y,sl) :: ρ) = As0 ρ:=by rcases r with ⟨d,e,_⟩ | e <;> (subst e; rfl)
 rw [this]; exact Y.ap.own a ha
theorem Dc0 (ok:CxOk c) (Y:SY c x ρ s) (h:∀ p,Held (c.pins p) x→CxOk (c.pins p)→Ev (c.pins p) ρ e fun _ u=>u = v)
  (hx:c.env.kindOf y = some .local) (hcd:(y == ("__classdict__" : Str)) = false) (hs:swapsWith e (some (.Name y pos')) pos.line c.env = pure false) (hr:∀ s',SY c x ((y,.raw v) :: ρ) s'→wpAny (MM c.w) c.A (execs rest c.env) Q E s') :
  wpAny (MM c.w) c.A (execs (.Assign [.Name y pos'] e pos :: rest) c.env) Q E s :=
 wC (wpAny_Assign_Name (Az0 ok Y h fun u s1 Y1 _ hu=>by subst hu; exact Y1.store ok hx hcd (.inr rfl) fun s2 Y2=>hr s2 Y2) hs)
theorem Kg0 (ok:CxOk c) (Y:SY c x ρ s) (h:∀ p,Held (c.pins p) x→CxOk (c.pins p)→EvD (c.pins p) ρ e d) (hn:He0 d = true)
  (hx:c.env.kindOf y = some .local) (hcd:(y == ("__classdict__" : Str)) = false) (hs:swapsWith e (some (.Name y pos')) pos.line c.env = pure false) (hr:∀ s',SY c x ((y,.val d) :: ρ) s'→wpAny (MM c.w) c.A (execs rest c.env) Q E s') :
  wpAny (MM c.w) c.A (execs (.Assign [.Name y pos'] e pos :: rest) c.env) Q E s :=
 wC (wpAny_Assign_Name (Az0 (P:=pD c ρ d) ok Y h fun u s1 Y1 _ hu=>Y1.store ok hx hcd (.inl ⟨d,rfl,hn,hu⟩) fun s2 Y2=>hr s2 Y2) hs)
theorem Oe0 {b:Bool} {t:Expr} {orelse:List Stmt} (ok:CxOk c) (Y:SY c x ρ s) (h:∀ p,Held (c.pins p) x→CxOk (c.pins p)→EvB (c.pins p) ρ t b)
  (h1:b = true→∀ s',SY c x ρ s'→wpAny (MM c.w) c.A (execs body c.env) (Nm0 c rest Q E) E s')
  (h2:b = false→∀ s',SY c x ρ s'→wpAny (MM c.w) c.A (execs orelse c.env) (Nm0 c rest Q E) E s') :
  wpAny (MM c.w) c.A (execs (.If t body orelse pos :: rest) c.env) Q E s :=
 wC (wpAny_If (Dc1 ok Y h fun s' Y' _=>by
  cases b with
  | true=>exact h1 rfl s' Y'
  | false=>exact h2 rfl s' Y'))
end
noncomputable def Lp1 (w:World) (x:Srt) (fs X:List Addr) (s:Shared) (Post:Srt→Value→(Addr→Option Obj)→Prop) (r:Result) (s':Shared):Prop :=
 ∃ v x',r = .ok (.ret v)∧Kp fs (hid x.addrs s) s'∧x'.At w s'.heap∧(∀ a ∈ x.addrs,a ∈ x'.addrs)∧(∀ a ∈ x'.addrs,a ∈ x.addrs ∨ s.heap.get? a = none)∧Post x' v (fz (x'.addrs ++ X) s'.heap)
noncomputable def Mth (w:World) (lvl:Nat) (f:Addr) (x:Srt) (ds:List PyData) (Post:Srt→Value→(Addr→Option Obj)→Prop):Prop :=
 ∀ A fs X s vs,Amb w A fs X lvl s→x.At w s.heap→(∀ a ∈ x.addrs,a ∉ X)→RdAll (fz (x.addrs ++ X) s.heap) vs ds→codeAny (MM w) A (.call (.ref f) ⟨.ref x.T :: vs,[]⟩) (Lp1 w x fs X s Post) s
theorem Jf1 {X':List Addr} (e:∀ a,a ∈ X ↔ a ∈ X'):fz X h = fz X' h:=by
 funext a
 unfold fz
 by_cases q:a ∈ X
 ·rw [if_pos q,if_pos ((e a).mp q)]
 ·rw [if_neg q,if_neg fun w=>q ((e a).mpr w)]
theorem Iy0 {Y:List Addr}:fz ((c.mores Y).XX ρ) h = fz (Y ++ c.XX ρ) h:=Jf1 fun a=>by
 show a ∈ As0 ρ ++ (Y ++ c.X) ↔ a ∈ Y ++ (As0 ρ ++ c.X)
 simp only [List.mem_append]
 constructor
 ·rintro (q | q | q)
  ·exact .inr (.inl q)
  ·exact .inl q
  ·exact .inr (.inr q)
 ·rintro (q | q | q)
  ·exact .inr (.inl q)
  ·exact .inl q
  ·exact .inr (.inr q)
noncomputable abbrev Dd1 (env:Env) (o:Expr) (name:Str) (args:List Expr) (apos pos:Pos) (pl:Sem Bool):Prop:=eval (.Call (.Attribute o name apos) args [] pos) env = (do
   let ov ← eval o env
   standAt apos.atName
   let (f,first) ← holding [ov] (getMethod ov name pl)
   callWith pos f first (backTo pos (starEach args env)) (backToKw pos (keywordEach [] env)))
theorem Gj0 {x:Srt} {args:List Expr} {n:Nat} {Post:Srt→Value→(Addr→Option Obj)→Prop} {Q:Value→Shared→Prop} {pl:Sem Bool} (ok:CxOk c) (Y:SY c x ρ s)
  (ho:∀ p,Held (c.pins p) x→CxOk (c.pins p)→Ev (c.pins p) ρ o fun _ u=>u = .ref x.T) (hf:findIn (KF c.w) (.ref 181) name = some (some (.ref f))) (ht:typeIn (KF c.w) (.ref f) = some (.type "function")) (hfn:Pw0 c.w f = true)
  (hsh:∀ t1 t2 t3 t4 u3 u4,(getL name (Sg0 c.w t1 t2 t3 t4 (.ref x.N) (In0 x.R) (.int x.po u3) (.int x.fin u4))).map (·.isSome) = some false)
  (hargs:∀ s1 (Q':Args→Shared→Prop),SY c x ρ s1→(∀ vs s2,SY c x ρ s2→Kp c.fs s1 s2→RdAll (fz ((c.mores x.addrs).XX ρ) s2.heap) vs ds→Q' ⟨vs,[]⟩ s2)→wpAny (MM c.w) c.A (evalArgs (.ref f) true (backTo pos (starEach args c.env)) []) Q' E s1)
  (hm:Mth c.w n f x ds Post) (hn:n ≤ c.lvl) (hq:∀ v x' s',SY c x' ρ s'→Kp c.fs (hid x.addrs s) s'→(∀ a ∈ x.addrs,a ∈ x'.addrs)→(∀ a ∈ x'.addrs,a ∈ x.addrs ∨ s.heap.get? a = none)→Post x' v (fz ((c.mores x'.addrs).XX ρ) s'.heap)→Q v s')
  (he:Dd1 c.env o name args apos pos pl:=by rfl):wpAny (MM c.w) c.A (eval (.Call (.Attribute o name apos) args [] pos) c.env) Q E s:=by
 obtain ⟨oc,od,fd,osl,hK⟩:=Jo0 hfn
 refine methodCall_KW (pl:=pl) (Az0 ok Y ho fun u s1 Y1 k1 hu=>?_) he
 subst hu
 obtain ⟨t1,t2,t3,t4,ep,u3,u4,e⟩:=Y1.at_.dt
 refine method_fn (od:=some (dictOf _ ep)) (Y1.st.amb (ok.mores _)).wd.k ⟨Y1.at_.t,rfl,rfl,e⟩ (plainGet_of (Th0 c.w name)).1 (plainGet_of (Th0 c.w name)).2 hf ht ((congrArg (Option.map Option.isSome) (lookIn_dict name _ ep)).trans (hsh t1 t2 t3 t4 u3 u4)) ?_
 refine callWith_function (o:=⟨oc,od,.func fd,osl⟩) (fd:=fd) (hargs s1 _ Y1 fun vs s2 Y2 k2 r2=>?_)
 refine ⟨⟨Y2.st.kf (ok.mores _) hK (Gr0 _ _ _ hK).1 (Gr0 _ _ _ hK).2,rfl⟩,?_⟩
 have hX:∀ a ∈ x.addrs,a ∉ c.XX ρ:=fun a ha q=>by
  rcases List.mem_append.mp q with q | q
  ·exact Y2.ap.own a ha q
  ·exact Y2.ap.x a ha q
 rw [Iy0] at r2
 refine wpAny_with_toks (n:=1) Y2.st.toks (wpAny_call (codeAny_mono (hm c.A c.fs (c.XX ρ) s2 vs ((Y2.st.ambY ok).down hn) Y2.at_ hX r2) fun r s3 hr=>?_))
 obtain ⟨v,x',hQ133,k3,a3,hsub,hnew,hp⟩:=hr; subst hQ133
 intro htk
 rw [← Iy0] at hp
 have kk:Kp c.fs s s2:=k1.trans k2
 refine hq v x' s3 (Y2.after ok k3 a3 hsub hnew htk) (Dj0 kk k3 (fun b hb=>Y.ap.fs b hb) (Cv0 ok Y2.st Y2.ap.tab)) hsub (fun a ha=>?_) hp
 rcases hnew a ha with q | q
 ·exact .inl q
 ·refine .inr ?_
  cases w:s.heap.get? a with
  | none=>rfl
  | some o =>
   have hat:a ≠ tA:=(Y2.ap.extend ok Y2.st hnew).tab a ha
   obtain ⟨sl,e'⟩:=kk.slot a o w hat
   rw [q] at e'; cases e'
theorem Za0 {x:Srt} {Q:Args→Shared→Prop} (ok:CxOk c) (Y:SY c x ρ s)
  (h:∀ p,Held (c.pins p) x→CxOk (c.pins p)→Fb0 (c.pins p) ρ (e :: es) ds) (hn:Du0 ds = true) (hq:∀ vs s2,SY c x ρ s2→Kp c.fs s s2→RdAll (fz ((c.mores x.addrs).XX ρ) s2.heap) vs ds→Q ⟨vs,[]⟩ s2)
  (he:starEach (e :: es) c.env = (false,eval e c.env) :: starEach es c.env:=by rfl):wpAny (MM c.w) c.A (evalArgs (.ref f) true (backTo pos (starEach (e :: es) c.env)) []) Q E s:=by
 have hp:∀ Q,wpAny (MM c.w) c.A (spliced (backTo pos (starEach (e :: es) c.env))) (fun vs s'=>Q ⟨vs,[]⟩ s') E s→wpAny (MM c.w) c.A (evalArgs (.ref f) true (backTo pos (starEach (e :: es) c.env)) []) Q E s:=by
  intro Q hq; rw [he] at hq ⊢; exact evalArgs_plain hq
 refine hp _ (Mp0 ok Y h fun vs s2 Y2 k2 r=>hq vs s2 Y2 k2 ?_)
 have nt:=Y2.at_.noTup
 exact r.monoT (fun a o ho e=>Bf0 (Ah0 e) fun q=>by
  rcases List.mem_append.mp q with q | q
  ·exact Ae0 e (List.mem_append_left _ q)
  ·rcases List.mem_append.mp q with q | q
   ·exact nt a q o (Ah0 e) ho
   ·exact Ae0 e (List.mem_append_right _ q)) hn
theorem Ia0 {C:Addr} {rest:List Value} {kw:List (Str × Value)}:(A.under (.builtin "type.__call__" ⟨.ref C :: rest,kw⟩)).frames = A.frames:=by
 cases h:A.frames <;> simp [Around.under,h,pushEnvs] <;> rfl
theorem Amb.make {n:Nat} {C:Addr} {rest:List Value} {kw:List (Str × Value)} (am:Amb w A fs X (n + 1) s):Amb w (A.under (.builtin "type.__call__" ⟨.ref C :: rest,kw⟩)) fs X n s :=
 { am with
  hand:=fun q=>am.hand (Nat.ble_eq.mpr (Nat.le_succ_of_le (Nat.ble_eq.mp q)))
  depth:=by have:=am.depth; show A.depth + 1 + n ≤ 500; lia
  units:=by have:=am.units; show A.units + 1 + 4 * n ≤ 3000; lia
  frames:=by rw [Ia0]; exact am.frames }
theorem Amb.push {n:Nat} (am:Amb w A fs X n s) (o:Obj):Amb w A fs X n { s with heap:=s.heap.push o } :=
 { am with
  wd:=am.wd.low (fun a o _ _ e=>Heap.get?_push_of_some _ e) (Gr0 _)
  tab:=am.tab.keeps fun b o e=>Heap.get?_push_of_some _ e
  frames:=let ⟨l,h1,h2,h3⟩:=am.frames; ⟨l,h1,h2,fun env he=>let ⟨a,L,o,e1,e2,e3⟩:=h3 env he; ⟨a,L,o,e1,Heap.get?_push_of_some _ e2,e3⟩⟩
  has:=fun a ha=>let ⟨o,e,nf⟩:=am.has a ha; ⟨o,Heap.get?_push_of_some _ e,nf⟩ }
theorem Amb.big {n:Nat} (am:Amb w A fs X n s):269 ≤ s.heap.objs.size:=Heap.lt_size (am.wd.k 268 (((KF w).lookup 268).get (by rfl)) (by rfl))
noncomputable abbrev Mk1:Str:=oS "_NodeInfo"
theorem Mz1 (w:World):makesIn (KF w) 84 = true:=by rfl
theorem Lq1 (w:World):findIn (KF w) (.ref 84) "__init__" = some (some (.ref 80)):=by rfl
theorem Na1 (w:World):typeIn (KF w) (.ref 80) = some (.type "function"):=by rfl
theorem Kl1 (w:World):findIn (KF w) (.ref 84) "__setattr__" = some (some (.builtin "object.__setattr__"))∧plainOver (KF w) 84 = true:=⟨by rfl,by rfl⟩
theorem Nb1 (w:World):takerIn (KF w) 84 (oS "node") = some (some (.ref 85))∧typeIn (KF w) (.ref 85) = some (.type "member_descriptor"):=⟨by rfl,by rfl⟩
theorem Lr1 (w:World):takerIn (KF w) 84 (oS "npredecessors") = some (some (.ref 86))∧typeIn (KF w) (.ref 86) = some (.type "member_descriptor"):=⟨by rfl,by rfl⟩
theorem Nc1 (w:World):takerIn (KF w) 84 (oS "successors") = some (some (.ref 87))∧typeIn (KF w) (.ref 87) = some (.type "member_descriptor"):=⟨by rfl,by rfl⟩
noncomputable abbrev Km1 (D:Addr) (sl:Array (Option Value)):Obj:={ cls:=.ref 84,dict:=some D,data:=.plain,slots:=sl }
theorem Kh0 {D p:Addr} {sl sl':Array (Option Value)} {i:Nat} {Q:Unit→Shared→Prop} (ok:CxOk c) (S:St (c.mores [I,D]) ρ s) (ap:Apart c ρ [I,D])
  (hI:s.heap.get? I = some (Km1 D sl)) (hD:s.heap.get? D = some emptyDict) (ht:takerIn (KF c.w) 84 name = some (some (.ref p))∧typeIn (KF c.w) (.ref p) = some (.type "member_descriptor")) (hi:slotIn (KF c.w) p 84 = some i) (hz:i < 1000)
  (e:(sl ++ Array.replicate (i + 1 - sl.size) none).setIfInBounds i (some v) = sl')
  (hr:∀ s',St (c.mores [I,D]) ρ s'→s'.heap.get? I = some (Km1 D sl')→s'.heap.get? D = some emptyDict→Heap.SameBut I s.heap s'.heap→s'.gens = s.gens→s'.os = s.os→Q () s'):wpAny (MM c.w) c.A (setAttr (.ref I) name v) Q E s:=by
 have hDI:D ≠ I:=fun q=>by rw [q,hI] at hD; cases hD
 refine Qw0 (ox:=Km1 D sl) (ox':=Km1 D sl') (od:=emptyDict) (S.amb (ok.mores _)).wd.k ⟨hI,rfl,rfl,hD⟩ (Kl1 _).1 (Kl1 _).2 ht.1 ht.2 hi hz (by rw [← e]) rfl fun h' e1 hs=>?_
 refine hr _ (S.after ok ap (Kf0 (.head _) hs (Cv0 ok S ap.tab)) (fun a h=>h) (fun a h=>.inl h) (fun a h=>?_) (Nat.succ_pos _)) e1 ((hs.2 D hDI).trans hD) hs rfl rfl
 simp only [List.mem_cons,List.not_mem_nil,or_false] at h
 rcases h with rfl | rfl
 ·exact ⟨_,e1,.inr (by intro _ q; cases q)⟩
 ·exact ⟨_,(hs.2 _ hDI).trans hD,.inr (by intro _ q; cases q)⟩
theorem Zb0 {t:Tok} {n:Nat} (am:Amb w A fs X (n + 2) s)
  (hq:∀ I D L s' t' u',[I,D,L].Nodup→(∀ b ∈ [I,D,L],s.heap.get? b = none∧269 ≤ b)→s'.heap.get? I = some (Hz0 k t' 0 u' L D)→s'.heap.get? D = some emptyDict→StrL s'.heap L []→Kp fs s s'→0 < s'.toks→R (.ok (.ret (.ref I))) s') :
  codeAny (MM w) A (.call (.ref 84) ⟨[.str k t],[]⟩) R s:=by
 have hbig:=am.big
 obtain ⟨h0,g,d,tk,os⟩:=s
 have X0:=am.wd.k
 refine make_core (makes_of X0 (Mz1 w)) (looks_findIn X0 (Lq1 w)) (fun self=>bind_fn X0 self (Na1 w)) (.inl rfl) ?_
 have am1:Amb w (A.under (.builtin "type.__call__" ⟨.ref 84 :: [.str k t],[]⟩)) fs X (n + 1) ⟨(h0.push emptyDict).push (instObj 84 h0.objs.size),g,d,tk,os⟩:=((am.push emptyDict).push (instObj 84 h0.objs.size)).make
 have hI:((h0.push emptyDict).push (instObj 84 h0.objs.size)).get? (h0.objs.size + 1) = some (instObj 84 h0.objs.size):=by heap_get
 have hD:((h0.push emptyDict).push (instObj 84 h0.objs.size)).get? h0.objs.size = some emptyDict:=Heap.get?_push_of_some _ (Heap.get?_push_size _ rfl)
 have hnone:∀ b,h0.objs.size ≤ b→h0.get? b = none:=fun b hb=>Heap.get?_none_of_le hb
 have hYX:∀ a ∈ [h0.objs.size + 1,h0.objs.size],a ∉ X:=fun a ha q=>by
  obtain ⟨o,e,_⟩:=am.has a q
  have e:h0.get? a = some o:=e
  rw [hnone a (by simp at ha; lia)] at e; cases e
 have hY:YOk X [h0.objs.size + 1,h0.objs.size] ((h0.push emptyDict).push (instObj 84 h0.objs.size)):=⟨hYX,fun a ha=>by
   simp only [List.mem_cons,List.not_mem_nil,or_false] at ha
   rcases ha with rfl | rfl
   ·exact ⟨_,hI,by intro _ q; cases q⟩
   ·exact ⟨_,hD,by intro _ q; cases q⟩,fun a ha=>by
   simp only [List.mem_cons,List.not_mem_nil,or_false] at ha
   have hbig:269 ≤ h0.objs.size:=hbig
   rcases ha with rfl | rfl
   ·exact Nat.le_succ_of_le hbig
   ·exact hbig⟩
 refine Ep0 (ps:=[oS "self",oS "node"]) (vs:=[.ref (h0.objs.size + 1),.str k t]) (sls:=[.raw (.ref (h0.objs.size + 1)),.val (.str k)]) (lvl:=n)
  am1 hY (am1.wd.k 80 _ (show (KF w).lookup 80 = some _ from rfl)) (codeRec_of am1.wd.k (show codeIn (KF w) (.ref 79) (oS "_NodeInfo.__init__") = true from rfl)) rfl (.raw (.val (.str _ _) .nil)) (BindsTo.of_eq rfl) (by decide) (by rfl) (by decide) (by rfl) (fun L=>rfl) ?_
 intro X' fs' L s1 c Q E ok S ap hkeep _ hks
 have ap1:Apart _ [(oS "self",.raw (.ref (h0.objs.size + 1))),(oS "node",.val (.str k))] _:=ap.rho fun a _ q=>by cases q
 have hI1:=hkeep _ (.head _) _ hI
 have hD1:=hkeep _ (.tail _ (.head _)) _ hD
 refine wC (plainObj_wpAny_Assign_Attribute (Ad0 (ok.mores _) (Aa0 (ok.mores _) rfl) S (.refl _ _) fun v s2 S2 k2 _ r2=>Ad0 (ok.mores _) (Ai0 (ok.mores _) rfl) S2 (.refl _ _) fun u s3 S3 k3 _ hu=>?_))
 obtain ⟨tv,hQ134⟩:=r2.str_inv; subst hQ134
 subst hu
 have kpY:∀ {sa sb:Shared} (b:Addr) (o:Obj),b ∈ [h0.objs.size + 1,h0.objs.size]→Kp fs' sa sb→sa.heap.get? b = some o→sb.heap.get? b = some o:=fun b o hb kk e=>kk.keep b o e (ap.fs b hb) (ap.tab b hb)
 have hI3:=kpY _ _ (.head _) k3 (kpY _ _ (.head _) k2 hI1)
 have hD3:=kpY _ _ (.tail _ (.head _)) k3 (kpY _ _ (.tail _ (.head _)) k2 hD1)
 refine Kh0 ok S3 ap1 (sl:=#[]) (sl':=#[some (.str k tv)]) hI3 hD3 (Nb1 w) (g85 w).2.2 (by decide) (by simp) fun s4 S4 hI4 hD4 _ _ _=>?_
 refine wC (plainObj_wpAny_Assign_Attribute (Ad0 (ok.mores _) (Ar0 (c:=Cx.mores _ _)) S4 (.refl _ _) fun v s5 S5 k5 _ r5=>Ad0 (ok.mores _) (Ai0 (ok.mores _) rfl) S5 (.refl _ _) fun u s6 S6 k6 _ hu=>?_))
 obtain ⟨tu,hQ135⟩:=r5.int_inv; subst hQ135
 subst hu
 have hI6:=kpY _ _ (.head _) k6 (kpY _ _ (.head _) k5 hI4)
 have hD6:=kpY _ _ (.tail _ (.head _)) k6 (kpY _ _ (.tail _ (.head _)) k5 hD4)
 refine Kh0 ok S6 ap1 (sl':=#[some (.str k tv),some (.int 0 tu)]) hI6 hD6 (Lr1 w) (g86 w).2.2 (by decide) (by simp) fun s7 S7 hI7 hD7 _ _ _=>?_
 refine wC (plainObj_wpAny_Assign_Attribute (List_ (Bj0 (ok.mores _) Ac0 S7 (.refl _ _) fun vs s8 S8 k8 _ r8=>wpAny_newList ?_ (by rw [r8.length]; decide))))
 cases r8
 have S9:=S8.step (ok.mores _) (.push _ { cls:=.type "list",data:=.seq ([]:List Value).toArray }) S8.toks
 have hI8:=kpY _ _ (.head _) k8 hI7
 have hD8:=kpY _ _ (.tail _ (.head _)) k8 hD7
 have hL9:(s8.heap.push { cls:=.type "list",data:=.seq ([]:List Value).toArray }).get? s8.heap.objs.size = some { cls:=.type "list",data:=.seq ([]:List Value).toArray }:=Heap.get?_push_size _ rfl
 have hLt:s8.heap.objs.size ≠ tA:=Nat.ne_of_gt (Nat.lt_of_lt_of_le (by decide) (S8.big (ok.mores _)))
 refine Ad0 (ok.mores _) (Ai0 (ok.mores _) rfl) S9 (.refl _ _) fun u s10 S10 k10 _ hu=>?_
 subst hu
 have hfs10:s8.heap.objs.size ∉ fs':=fun q=>by
  obtain ⟨o,e,_⟩:=S8.has _ (List.mem_append_right _ ((ok.mores _).fsX _ q))
  rw [Aj0] at e; cases e
 have hI10:=kpY _ _ (.head _) k10 (Heap.get?_push_of_some _ hI8)
 have hD10:=kpY _ _ (.tail _ (.head _)) k10 (Heap.get?_push_of_some _ hD8)
 have hL10:=k10.keep _ _ hL9 hfs10 hLt
 have hLI:s8.heap.objs.size ≠ h0.objs.size + 1:=fun q=>by rw [← q,Aj0] at hI8; cases hI8
 have hLD:s8.heap.objs.size ≠ h0.objs.size:=fun q=>by rw [← q,Aj0] at hD8; cases hD8
 refine Kh0 ok S10 ap1 (sl':=#[some (.str k tv),some (.int 0 tu),some (.ref s8.heap.objs.size)]) hI10 hD10 (Nc1 w) (g87 w).2.2 (by decide) (by simp) fun s11 S11 hI11 hD11 hs11 _ _=>wN ?_
 have hold:∀ b o,h0.get? b = some o→b ∉ [h0.objs.size + 1,h0.objs.size]:=fun b o e q=>by
  simp only [List.mem_cons,List.not_mem_nil,or_false] at q
  rcases q with rfl | rfl
  ·rw [hnone _ (Nat.le_succ _)] at e; cases e
  ·rw [hnone _ (Nat.le_refl _)] at e; cases e
 have hin:∀ b o,h0.get? b = some o→(hid [h0.objs.size + 1,h0.objs.size] ⟨(h0.push emptyDict).push (instObj 84 h0.objs.size),g,d,tk,os⟩).heap.get? b = some o:=fun b o e =>
  Br0 (Heap.get?_push_of_some _ (Heap.get?_push_of_some _ e)) (hold b o e)
 have sc:=S11.since
 have hLn:h0.get? s8.heap.objs.size = none:=by
  cases q:h0.get? s8.heap.objs.size with
  | none=>rfl
  | some o =>
   obtain ⟨sl,e⟩:=S8.since.slot _ _ (hin _ _ q) hLt
   rw [Aj0] at e; cases e
 refine ⟨rfl,hq (h0.objs.size + 1) h0.objs.size s8.heap.objs.size s11 tv tu ?_ ?_ hI11 hD11 ⟨_,0,_,(hs11.2 _ hLI).trans hL10,.nil⟩ ?_ S11.toks⟩
 ·simp [hLI,hLD,Ne.symm hLI,Ne.symm hLD]
 ·intro b hb
  simp only [List.mem_cons,List.not_mem_nil,or_false] at hb
  have hbig:269 ≤ h0.objs.size:=hbig
  rcases hb with rfl | rfl | rfl
  ·exact ⟨hnone _ (Nat.le_succ _),Nat.le_succ_of_le hbig⟩
  ·exact ⟨hnone _ (Nat.le_refl _),hbig⟩
  ·exact ⟨hLn,S8.big (ok.mores _)⟩
 ·exact ⟨sc.gens,sc.os,fun b o e h1 h2=>sc.keep b o (hin b o e) h1 h2,fun b o e h2=>sc.slot b o (hin b o e) h2,fun _=>S11.tab (ok.mores _)⟩
theorem Bu0 {x:Srt} {Q:Value→Shared→Prop} (ok:CxOk c) (Y:SY c x ρ s) (h:∀ p,Held (c.pins p) x→CxOk (c.pins p)→EvD (c.pins p) ρ e d) (hq:∀ v s',SY c x ρ s'→Kp c.fs s s'→Rd (fz (c.XX ρ) s'.heap) v d→Q v s'):wpAny (MM c.w) c.A (eval e c.env) Q E s :=
 Az0 (P:=pD c ρ d) ok Y h hq
theorem Held.pinned {x:Srt} (H:Held c x):∀ a ∈ x.addrs,∃ o,c.pin (a,o):=fun a ha=>by
 obtain ⟨h0,at0,hp⟩:=H
 obtain ⟨o,e,_⟩:=at0.has a ha
 exact ⟨o,hp a ha o e⟩
theorem Held.kp {x:Srt} (ok:CxOk c) (H:Held c x) (S:St c ρ s) (k:Kp c.fs s s'):x.At c.w s'.heap :=
 (H.at S).keep fun a ha o e=>by
  obtain ⟨o',hp⟩:=H.pinned a ha
  have:=S.pinx _ hp
  exact k.keep a o e (fun q=>this (Dy0 ok _ q)) (fun q=>this (q ▸ Ii0 ok))
theorem Gi1 {x:Srt} {P:Heap→Value→Prop} (ok:CxOk c) (H:Held c x) (h:Ev c ρ o P):Ev c ρ o fun g u=>P g u∧x.At c.w g:=fun s S E =>
 Ad0 ok h S (.refl _ _) fun v s' S' k _ p=>⟨k,p,H.at S'⟩
noncomputable def Gj1 (x:Srt) (k:Str):Value:=(valueAt x.kvs k).getD .none
theorem Zc0 {a:Expr} {x:Srt} (ok:CxOk c) (H:Held c x) (ho:Ev c ρ o fun _ u=>u = .ref x.N) (ha:EvD c ρ a (.str k))
  (hbase:attributeBase o (oS "get") c.env (eval o c.env) = eval o c.env:=by rfl) (he:starEach [a] c.env = [(false,eval a c.env)]:=by rfl) (hline:(apos.endLine == pos.line) = true:=by rfl) :
  Ev c ρ (.Call (.Attribute o (oS "get") apos) [a] [] pos) fun _ u=>u = Gj1 x k:=by
 refine Fr0 ok PySem.F.plainAttrs_dict PySem.F.slot_dict_get PySem.F.type_dict_get (Gi1 ok H ho) ha (fun s s' v S k p=>⟨p.1,H.kp ok S k⟩) (fun s v p=>?_) (fun s v u S p q E=>?_) hbase he hline
 ·obtain ⟨hQ136,a⟩:=p; subst hQ136
  exact ⟨a.n.typeIs,a.n.mapOf.noDict⟩
 ·obtain ⟨hQ137,a⟩:=p; subst hQ137
  obtain ⟨t,hQ138⟩:=q.str_inv; subst hQ138
  exact call_meetsIn PySem.F.slot_dict_get a.n.typeIs PySem.F.entry_dict_get (PySem.F.args_dict_get_2 _ _) (meets_dict_get (sK c.w) x.N (Io0 _ _ _) (Ob0 (a.lo _ (.tail _ (.tail _ (.head _)))))) ⟨_,a.n.mapOf,.toks _ _,rfl⟩
noncomputable def GetPost (x:Srt) (k:Str) (x':Srt) (v:Value):Prop :=
 (∃ d ∈ x.nds,d.key = k∧x' = x∧v = .ref d.I) ∨ (k ∉ x.nds.map (·.key)∧∃ I D L,x' = { x with nds:=x.nds ++ [⟨k,I,D,L,0,[]⟩] }∧v = .ref I)
theorem Zd0 (w:World) (x:Srt) (k:Str) (hn:x.nds.length ≤ 1000):Mth w 5 124 x [.str k] (fun x' v _=>GetPost x k x' v):=by
 intro A fs X s vs am at_ hX rv
 obtain ⟨v1,rfl,r1⟩:∃ v,vs = [v]∧Rd (fz (x.addrs ++ X) s.heap) v (.str k):=by
  cases rv with | cons r q=>cases q; exact ⟨_,rfl,r⟩
 refine Ep0 (ps:=[oS "self",oS "node"]) (vs:=[.ref x.T,v1]) (sls:=[.raw (.ref x.T),.val (.str k)]) (lvl:=4)
  am (at_.yok hX) (am.wd.k 124 _ (show (KF w).lookup 124 = some _ from rfl)) (codeRec_of am.wd.k (show codeIn (KF w) (.ref 123) (oS "TopologicalSorter._get_nodeinfo") = true from rfl)) rfl (.raw (.val r1 .nil)) (BindsTo.of_eq rfl) (by decide) (by rfl) (by decide) (by rfl) (fun L=>rfl) ?_
 intro X' fs' L s1 c Q E ok S ap hkeep _ hks
 have ap1:Apart _ [(oS "self",.raw (.ref x.T)),(oS "node",.val (.str k))] x.addrs:=ap.rho fun a _ q=>by cases q
 have Y1:SY _ x [(oS "self",.raw (.ref x.T)),(oS "node",.val (.str k))] s1:=⟨S,at_.keep hkeep,ap1⟩
 refine wC (wpAny_If (wpAny_isTrue_Compare1 (wpAny_NamedExpr (Az0 ok Y1 (fun p H okp=>Zc0 okp H (Mo0 okp H (Ai0 okp rfl)) (Aa0 okp rfl)) fun u s2 Y2 k2 hu=>?_))))
 subst hu
 refine wpAny_assign_Name (Y2.store ok rfl rfl (.inr rfl) fun s3 Y3=>wpAny_Constant_none (is_none_gen (wpAny_truthy_bool ?_)))
 by_cases hk:k ∈ x.nds.map (·.key)
 ·obtain ⟨d,hd,hQ139⟩:=List.mem_map.mp hk; subst hQ139
  have hv:Gj1 x d.key = .ref d.I:=by unfold Gj1; rw [Gi0 at_.nodupK hd]; rfl
  rw [hv] at Y3 ⊢
  rw [if_neg (by intro q; cases q)]
  refine wN (wC (wpAny_Return_some (Az0 ok Y3 (fun p H okp=>Ai0 okp rfl) fun u s4 Y4 _ hu=>?_)))
  subst hu
  exact ⟨.ref d.I,x,rfl,Y4.st.since,Y4.at_,fun _ h=>h,fun _ h=>.inl h,.inl ⟨d,hd,rfl,rfl,rfl⟩⟩
 ·have hv:Gj1 x k = .none:=by unfold Gj1; rw [Qx0 hk]; rfl
  rw [hv] at Y3 ⊢
  rw [if_pos (by rfl)]
  refine wC (wpAny_Assign_two ?_)
  refine wpAny_Call_ofName (Az0 ok Y3 (fun p H okp=>Bp0 okp (Wh0 _) rfl) fun u s4 Y4 _ hu=>?_)
  subst hu
  refine callWith_KW (K:=KF w) ((Y4.st.amb (ok.mores _)).wd.k) (by rfl) rfl (Mp0 ok Y4 (fun p H okp=>Ab0 okp (Aa0 okp rfl) Ac0) fun vs s5 Y5 k5 r5=>kwAll_nil ?_)
  obtain ⟨tv,rfl⟩:∃ t,vs = [.str k t]:=by
   cases r5 with | cons r q=>cases q; obtain ⟨t,hQ140⟩:=r.str_inv; subst hQ140; exact ⟨t,rfl⟩
  have am5:=Y5.st.amb (ok.mores _)
  refine ⟨am5.wd.k,wpAny_call (Zb0 (n:=2) am5 fun I D Lx s6 t' u' hnd hnew hI hD hL k6 ht6=>?_)⟩
  have Y6:=Y5.step ok k6 ht6
  have hnf:∀ b ∈ [I,D,Lx],b ∉ fs'∧b ≠ tA:=fun b hb=>by
   have hn:=(hnew b hb).1
   refine ⟨fun q=>?_,fun q=>?_⟩
   ·obtain ⟨o,e,_⟩:=am5.has b (am5.fsX b q)
    rw [hn] at e; cases e
   ·obtain ⟨o,e⟩:=Qy0 am5.tab
    rw [← q,hn] at e; cases e
  refine kas_sub (Az0 ok Y6 (fun p H okp=>Mo0 okp H (Ai0 okp rfl)) fun u s7 Y7 k7 hu=>Bu0 (d:=.str k) ok Y7 (fun p H okp=>Aa0 okp rfl) fun u' s8 Y8 k8 hu'=>?_)
  subst hu
  obtain ⟨tk,hQ141⟩:=hu'.str_inv; subst hQ141
  have k68:=k7.trans k8
  have kp8:∀ b ∈ [I,D,Lx],∀ o,s6.heap.get? b = some o→s8.heap.get? b = some o:=fun b hb o e=>k68.keep b o e (hnf b hb).1 (hnf b hb).2
  refine wpAny_setItem_pairs (Io0 _ _ _) Y8.at_.n (fun h' hN hs=>?_) (by unfold Srt.kvs; rw [List.length_map]; unfold sizeLine; exact Nat.le_trans ‹_› (by decide))
  have hst:stored x.kvs k (.ref I) = x.kvs ++ [(k,.ref I)]:=by
   unfold stored
   rw [if_neg]
   intro q
   obtain ⟨p,hp,hpk⟩:=List.any_eq_true.mp q
   obtain ⟨d,hd,hQ142⟩:=List.mem_map.mp hp; subst hQ142
   simp only [decide_eq_true_eq] at hpk
   exact hk (hpk ▸ List.mem_map.mpr ⟨d,hd,rfl⟩)
  rw [hst] at hN
  have hXn:∀ b ∈ [I,D,Lx],b ∉ x.addrs:=fun b hb q=>by
   obtain ⟨o,e,_⟩:=Y5.at_.has b q
   rw [(hnew b hb).1] at e; cases e
  have hNb:∀ b ∈ [I,D,Lx],b ≠ x.N:=fun b hb q=>hXn b hb (q ▸ .tail _ (.tail _ (.head _)))
  have hk9:∀ b ∈ [I,D,Lx],∀ o,s6.heap.get? b = some o→h'.get? b = some o:=fun b hb o e=>(hs.2 b (hNb b hb)).trans (kp8 b hb o e)
  have a9:=Y8.at_.addNd (h':=h') (k:=k) (I:=I) (D:=D) (L:=Lx) (fun b hb=>⟨hXn b hb,(hnew b hb).2⟩) hnd (fun b _ hbn o e=>(hs.2 b hbn).trans e) hN ⟨t',u',hk9 _ (.head _) _ hI⟩ (hk9 _ (.tail _ (.head _)) _ hD) (hL.keep fun o e=>hk9 _ (.tail _ (.tail _ (.head _))) o e)
  have hadd:({ x with nds:=x.nds ++ [⟨k,I,D,Lx,0,[]⟩] }:Srt).addrs = x.addrs ++ [I,D,Lx]:=by
   unfold Srt.addrs
   simp [List.flatMap_append,Nd.addrs]
  have hnew9:∀ a ∈ ({ x with nds:=x.nds ++ [⟨k,I,D,Lx,0,[]⟩] }:Srt).addrs,a ∈ x.addrs ∨ s5.heap.get? a = none:=fun a ha=>by
   rw [hadd] at ha
   rcases List.mem_append.mp ha with q | q
   ·exact .inl q
   ·exact .inr (hnew a q).1
  have Y9:=Y5.after (s':={ s8 with heap:=h',toks:=s8.toks + 1 }) ok (Dj0 (k6.trans k68) (Kf0 (.tail _ (.tail _ (.head _))) hs (Cv0 ok Y8.st Y8.ap.tab)) (fun b hb=>Y5.ap.fs b hb) (Cv0 ok Y8.st Y8.ap.tab)) a9 (fun a ha=>by rw [hadd]; exact List.mem_append_left _ ha) hnew9 (Nat.succ_pos _)
  refine wpAny_assign_Name (Y9.store ok rfl rfl (.inr rfl) fun s10 Y10=>wN (wC (wpAny_Return_some (Az0 ok Y10 (fun p H okp=>Ai0 okp rfl) fun u s11 Y11 _ hu=>?_))))
  subst hu
  refine ⟨.ref I,_,rfl,Y11.st.since,Y11.at_,fun a ha=>by rw [hadd]; exact List.mem_append_left _ ha,fun a ha=>?_,.inr ⟨hk,I,D,Lx,rfl,rfl⟩⟩
  rw [hadd] at ha
  rcases List.mem_append.mp ha with q | q
  ·exact .inl q
  ·refine .inr ?_
   cases w0:s.heap.get? a with
   | none=>rfl
   | some o =>
    have hfs:a ∉ fs:=fun z=>by
     have:=(hnf a q).1
     exact this (ok.fs0 a z)
    have e1:=hks a o w0 hfs (hnf a q).2
    obtain ⟨sl,e2⟩:=Y5.st.since.slot a o (Br0 w0 fun z=>hXn a q z) (hnf a q).2
    rw [(hnew a q).1] at e2; cases e2
theorem Of0 (ok:CxOk c) (h:EvD c ρ e (.tuple ds)) (hl3:Nat.ble 3 c.lvl = true:=by rfl):Cc1 c ρ true e ds:=fun s S E Q hQ =>
 Ad0 ok h S (.refl _ _) fun v s1 S1 k1 _ p=>by
  obtain ⟨a,vs,n,sl,hQ143,e00,rr⟩:=p.tuple_inv; subst hQ143
  have e0:=Ah0 e00
  have hl:s1.heap.IsTuple a vs:=⟨_,e0,rfl,n,rfl⟩
  have hne:a ≠ s1.heap.objs.size:=Nat.ne_of_lt (Heap.lt_size e0)
  have hlen:=rr.length
  simp only [Array.length_toList] at hlen
  refine wpAny_pyIter_tuple hl (hQ s1 _ _ [s1.heap.objs.size,a] (fun i v=>vs[i]? = some v) (fun i h=>h.IsTupleIter s1.heap.objs.size a i∧h.IsTuple a vs) S1 k1 ⟨rfl,rfl,by rw [← hlen]; exact Walks.tuple (ok.hand hl3) _ a hne vs,⟨⟨_,Heap.get?_push_size _ rfl,rfl,rfl⟩,⟨_,Heap.get?_push_of_some _ e0,rfl,n,rfl⟩⟩,?_,?_,?_,?_⟩)
  ·intro b hb hbI
   simp only [List.mem_cons,List.not_mem_nil,or_false] at hb
   rcases hb with q | q
   ·exact absurd q hbI
   ·subst q; exact ⟨_,_,_,e0,rfl⟩
  ·intro i v _ hv
   exact rr.get' i v (by simpa using hv)
  ·intro _ b hb hbI
   simp only [List.mem_cons,List.not_mem_nil,or_false] at hb
   rcases hb with q | q
   ·exact absurd q hbI
   ·subst q; exact Ae0 e00
  ·intro i g st
   obtain ⟨⟨o',e1,e2,e3⟩,_⟩:=st
   exact ⟨o',_, "tuple_iterator",e1,e3,e2,by decide,by decide⟩
theorem Mq0 (ok:CxOk c) (hf:Ev c ρ (.Name "len" np) fun _ v=>v = .builtin "len") (ha:EvD c ρ e (.tuple ds)) (hsz:ds.length < 2 ^ 40) (he:starEach [e] c.env = [(false,eval e c.env)]:=by rfl) :
  EvD c ρ (.Call (.Name "len" np) [e] [] pos) (.int ds.length) :=
 Bt0 ok hf (.inl ⟨_,rfl⟩) ha (fun s v S p E=>by
  obtain ⟨a,vs,n,sl,hQ144,e0,rr⟩:=p.tuple_inv; subst hQ144
  have hlen:=rr.length
  simp only [Array.length_toList] at hlen
  refine PyProof.Rows.len_tuple (t:=a) (items:=vs) ⟨_,Ah0 e0,rfl,n,rfl⟩ (by lia) ⟨(Kp.toks _ _).trans (.toks _ _),?_⟩
  rw [hlen]; exact .int _ _) he
noncomputable abbrev Ab:=List (Str × Int × List Str)
noncomputable def Srt.abs (x:Srt):Ab:=x.nds.map fun d=>(d.key,d.np,d.succ)
noncomputable def Xp0 (l:Ab) (k:Str):Ab:=if k ∈ l.map (·.1) then l else l ++ [(k,0,[])]
noncomputable def Iu0 (l:Ab) (k:Str) (f:Int × List Str→Int × List Str):Ab:=l.map fun p=>if p.1 = k then (p.1,f p.2) else p
noncomputable def Wy0 (node:Str) (l:Ab) (p:Str):Ab:=Iu0 (Xp0 l p) p fun q=>(q.1,q.2 ++ [node])
noncomputable def Ia1 (l:Ab) (node:Str) (Bd0:List Str):Ab:=Bd0.foldl (Wy0 node) (Iu0 (Xp0 l node) node fun q=>(q.1 + Bd0.length,q.2))
structure Srt.Same (x y:Srt):Prop where
 T:y.T = x.T
 R:y.R = x.R
 po:y.po = x.po
 fin:y.fin = x.fin
theorem Srt.Same.refl (x:Srt):x.Same x:=⟨rfl,rfl,rfl,rfl⟩
theorem Srt.Same.trans {x y z:Srt} (a:x.Same y) (b:y.Same z):x.Same z:=⟨b.T.trans a.T,b.R.trans a.R,b.po.trans a.po,b.fin.trans a.fin⟩
theorem Dk0 (x:Srt):x.abs.map (·.1) = x.nds.map (·.key):=by unfold Srt.abs; simp [Function.comp_def]
theorem GetPost.abs {x x':Srt} (h:GetPost x k x' v):x'.abs = Xp0 x.abs k∧x.Same x'∧∃ d ∈ x'.nds,d.key = k∧v = .ref d.I:=by
 rcases h with ⟨d,hd,rfl,rfl,rfl⟩ | ⟨hk,I,D,L,rfl,rfl⟩
 ·refine ⟨?_,.refl _,d,hd,rfl,rfl⟩
  unfold Xp0
  rw [if_pos (by rw [Dk0]; exact List.mem_map.mpr ⟨d,hd,rfl⟩)]
 ·refine ⟨?_,⟨rfl,rfl,rfl,rfl⟩,⟨k,I,D,L,0,[]⟩,List.mem_append_right _ (.head _),rfl,rfl⟩
  unfold Xp0
  rw [if_neg (by rw [Dk0]; exact hk)]
  unfold Srt.abs; simp
theorem Ki0 {x:Srt} {f:Nd→Nd} {g:Int × List Str→Int × List Str} (h:∀ d ∈ x.nds,d.key = k→((f d).key,(f d).np,(f d).succ) = (d.key,g (d.np,d.succ))):(x.mod k f).abs = Iu0 x.abs k g:=by
 unfold Srt.abs Srt.mod Iu0
 simp only [List.map_map]
 apply List.map_congr_left
 intro d hd
 simp only [Function.comp_apply]
 split
 ·rename_i hk; exact h d hd hk
 ·rfl
theorem Og0 (x:Srt) (k:Str) (f:Nd→Nd):x.Same (x.mod k f):=⟨rfl,rfl,rfl,rfl⟩
theorem Iz0 {x:Srt} {d:Nd} {n:Int} {u:Tok} {Q:Unit→Shared→Prop} (ok:CxOk c) (Y:SY c x ρ s) (hd:d ∈ x.nds)
  (hq:∀ s',SY c (x.mod d.key fun e=>{ e with np:=n }) ρ s'→Q () s'):wpAny (MM c.w) c.A (setAttr (.ref d.I) (oS "npredecessors") (.int n u)) Q E s:=by
 obtain ⟨⟨t,u0,e1⟩,e2,e3⟩:=Y.at_.nd d hd
 refine Qw0 (ox':=Hz0 d.key t n u d.L d.D) (Y.st.amb (ok.mores _)).wd.k ⟨e1,rfl,rfl,e2⟩ (Kl1 _).1 (Kl1 _).2 (Lr1 _).1 (Lr1 _).2 (g86 _).2.2 (by decide) (by simp) rfl fun h' e4 hs=>?_
 have hf:Nd.Same fun e=>{ e with np:=n }:=⟨fun _=>rfl,fun _=>rfl,fun _=>rfl,fun _=>rfl⟩
 have hIL:d.L ≠ d.I:=Ne.symm (Od0 (Cl0 Y.at_.apart).2.2.2.2.2 hd).2.1
 exact hq _ (Y.put ok (Srt.mem_nd hd (.head _)) hs (Y.at_.mod hd hf (.inl rfl) hs ⟨t,u,e4⟩ (e3.keep fun o e=>(hs.2 _ hIL).trans e)) (Srt.mod_addrs hf) (Nat.succ_pos _))
theorem Qz0 {t:Tok} (h:StrsAre vs ys):StrsAre (vs ++ [.str y t]) (ys ++ [y]):=by
 induction h with
 | nil=>exact .cons _ _ .nil
 | cons x t' _ ih=>exact .cons _ _ ih
theorem Ip0 {vs:Array Value} {t:Tok} (h:StrsAre vs.toList ys):StrsAre (vs.push (.str y t)).toList (ys ++ [y]):=by
 rw [Array.toList_push]; exact Qz0 h
theorem Bm0 (h:StrsAre vs ys):vs.length = ys.length:=by
 induction h with
 | nil=>rfl
 | cons _ _ _ ih=>simp [ih]
theorem Ra0 {x x':Srt} {a:Expr} (ok:CxOk c) (Y:SY c x ρ s)
  (ho:∀ p,Held (c.pins p) x→CxOk (c.pins p)→Ev (c.pins p) ρ o fun _ u=>u = .ref b) (ha:∀ p,Held (c.pins p) x→CxOk (c.pins p)→EvD (c.pins p) ρ a (.str y)) (hb:b ∈ x.addrs) (hL:∀ h,x.At c.w h→StrL h b ys) (hz:ys.length ≤ 100000)
  (hx:∀ h h',x.At c.w h→Heap.SameBut b h h'→StrL h' b (ys ++ [y])→x'.At c.w h') (hadd:x'.addrs = x.addrs) (hr:∀ s',SY c x' ρ s'→wpAny (MM c.w) c.A (execs rest c.env) Q E s')
  (hbase:attributeBase o (oS "append") c.env (eval o c.env) = eval o c.env:=by rfl) (he:starEach [a] c.env = [(false,eval a c.env)]:=by rfl) (hline:(apos.endLine == cpos.line) = true:=by rfl) (hi:interactive c.env = false:=by rfl) :
  wpAny (MM c.w) c.A (execs (.Expr (.Call (.Attribute o (oS "append") apos) [a] [] cpos) pos :: rest) c.env) Q E s:=by
 refine wC (wpAny_Expr ?_ hi rfl)
 refine wpAny_Call_method_lateS hbase (by rw [he]; rfl) hline (Az0 ok Y ho fun v s1 Y1 k1 hv=>?_)
 subst hv
 obtain ⟨vs0,n0,sl0,e0,r0⟩:=hL _ Y1.at_
 refine ⟨"list", "list.append",PySem.F.plainAttrs_list,slot_list_append,PySem.F.type_list_append,⟨_,e0,rfl⟩,(fun b q=>by cases q; exact ⟨_,e0,rfl⟩),?_⟩
 have hp:∀ Q,wpAny (MM c.w) c.A (eval a c.env) (fun v s'=>Q ⟨[v],[]⟩ s') E s1→wpAny (MM c.w) c.A (evalArgs (.builtin "list.append") true (backTo cpos (starEach [a] c.env)) []) Q E s1:=by
  intro Q hq; rw [he]; exact evalArgs_plain (spliced_cons (wM hq (fun _ _ h=>spliced_nil h) fun _ _ x=>x))
 refine callWith_builtin (by rw [he]; rfl) (hp (fun a' s₁=>wpAny (MM c.w) c.A (call (.builtin "list.append") ([.ref b] ++ a'.pos) a'.kw) _ E s₁) (Bu0 ok Y1 ha fun u s2 Y2 k2 p2=>?_))
 obtain ⟨t,hQ145⟩:=p2.str_inv; subst hQ145
 obtain ⟨vs,n,sl,e2,r2⟩:=hL _ Y2.at_
 have hlen:=Bm0 r2
 simp only [Array.length_toList] at hlen
 refine Ch0 e2 (fun h' n' e' hs'=>hr _ ?_) (by unfold sizeLine; lia)
 exact Y2.put (tk:=s2.toks) ok hb hs' (hx _ _ Y2.at_ hs' ⟨_,n',sl,e',Ip0 r2⟩) hadd Y2.st.toks
theorem Dv0 {k:Nat} (ok:CxOk c) (h:Ev c ρ o fun _ u=>u = v):EvB c ρ (.Compare o [.IsNot] [.Constant .none k np] pos) (!(v == .none)) :=
 Aq0 (P2:=fun _ u=>u = .none) ok h (fun s S E=>wpAny_Constant_none ⟨.refl _ _,rfl⟩) (fun _ _ _ _ _ p=>p) fun s a b S p q E=>by subst p q; exact isnot_none_gen ⟨.refl _ _,rfl⟩
theorem Apart.to {c':Cx} {Y:List Addr} (h:Apart c ρ Y) (ho:As0 ρ' = []) (h1:c'.s0 = c.s0) (h2:c'.env = c.env) (h3:c'.fs = c.fs) (h4:c'.X = c.X):Apart c' ρ' Y :=
 ⟨by rw [h1]; exact h.new,by rw [h2]; exact h.loc,by rw [h2]; exact h.cell,by rw [h3]; exact h.fs,h.tab,by rw [ho]; exact fun _ _ q=>(by cases q),by rw [h4]; exact h.x⟩
theorem Jg1 {α:Type} {M:Model} {m m':Sem α} {Q:α→Shared→Prop} (h:m = m') (x:wpAny M A m' Q E s):wpAny M A m Q E s:=h ▸ x
noncomputable def syQ (c:Cx) (ρ ρb:Rho) (J JB:Srt→Prop):Flow→Shared→Prop
 | .next,s=>∃ x,SY c x ρ s∧J x
 | .cont,s=>∃ x,SY c x ρ s∧J x
 | .brk,s=>∃ x,SY c x ρb s∧JB x
 | .ret _,_=>False
theorem SY.unpin {x:Srt} {ps:Addr × Obj→Prop} (Y:SY (c.pins ps) x ρ s) (h:∀ p,c.pin p→ps p):SY c x ρ s:=⟨St.unpin (c:=c.mores x.addrs) Y.st h,Y.at_,{ Y.ap with }⟩
set_option tactic.hygienic true in
theorem Rb0 {α:Type} {f:α→PyData} {ys:List α} {x:Srt} {ρs:Nat→Rho} {ρb:Rho} {tpos:Pos} (J:Nat→Srt→Prop) (JB:Srt→Prop) (ok:CxOk c) (Y:SY c x (ρs 0) s)
  (hi:Cc1 (c.mores x.addrs) (ρs 0) true iter (ys.map f)) (hJ0:J 0 x) (hx:c.env.kindOf y = some .local)
  (turn:∀ i a pins xi s',ys[i]? = some a→CxOk (c.pins pins)→J i xi→SY (c.pins pins) xi ((y,.val (f a)) :: ρs i) s'→∀ E',wpAny (MM (c.pins pins).w) (c.pins pins).A (execs body (c.pins pins).env) (syQ (c.pins pins) (ρs (i + 1)) ρb (J (i + 1)) JB) E' s')
  (hend:∀ xi s',J ys.length xi→SY c xi (ρs ys.length) s'→wpAny (MM c.w) c.A (execs rest c.env) Q E s')
  (hbrk:∀ xi s',JB xi→SY c xi ρb s'→wpAny (MM c.w) c.A (execs rest c.env) Q E s')
  (hcd:(y == ("__classdict__" : Str)) = false:=by rfl) (hs:∀ x,foldedSetIterable iter c.env x = pure x:=by intro _; rfl):wpAny (MM c.w) c.A (execs (.For (.Name y tpos) iter body [] pos :: rest) c.env) Q E s:=by
 refine Yh0 (ds:=ys.map f) (ρs:=ρs) (fun i Y h=>∃ xi:Srt,Y = xi.addrs∧xi.At c.w h∧J i xi∧Apart c (ρs i) xi.addrs) x.addrs (fun s'=>∃ xi,SY c xi ρb s'∧JB xi) (fun _ _=>False) ok Y.st hi ⟨x,rfl,Y.at_,hJ0,Y.ap⟩ ?_ ?_ ?_ ?_ (fun s' hh1=>by obtain ⟨xi,Y',j⟩:=hh1; exact hbrk xi s' j Y') (fun _ _ h=>h.elim) hs
 ·rintro i Y h h' hk ⟨xi,rfl,a,r⟩
  exact ⟨xi,rfl,a.keep hk,r⟩
 ·rintro i Y h ⟨xi,rfl,_,_,ap'⟩ a ha
  exact ⟨ap'.loc a ha,ap'.cell a ha,ap'.fs a ha,ap'.tab a ha⟩
 ·intro i d pins Y hd _ okp
  rw [List.getElem?_map] at hd
  obtain ⟨a,ha,hQ146⟩:=Option.map_eq_some_iff.mp hd; subst hQ146
  refine ⟨_,Iv0 okp (.inl hx) hcd,fun sa Sa hh E'=>?_⟩
  obtain ⟨xi,hY,ai,j,api⟩:=hh
  subst hY
  refine wM (turn i a pins xi sa ha (ok.pins pins) j ⟨Sa,ai,{ api with }⟩ E') (fun fl s'' h=>?_) fun _ _ x=>x
  cases fl with
  | next=>obtain ⟨z,Yz,jz⟩:=h; exact ⟨_,Yz.st,z,rfl,Yz.at_,jz,{ Yz.ap with }⟩
  | cont=>obtain ⟨z,Yz,jz⟩:=h; exact ⟨_,Yz.st,z,rfl,Yz.at_,jz,{ Yz.ap with }⟩
  | brk=>obtain ⟨z,Yz,jz⟩:=h; exact fun hp=>⟨z,Yz.unpin hp,jz⟩
  | ret v=>exact h.elim
 ·intro Y s' S hi1
  obtain ⟨xi,hY,a,j,ap'⟩:=hi1
  subst hY
  rw [List.length_map] at S j ap'
  exact hend xi s' j ⟨S,a,ap'⟩
theorem Ey1 {Y:List Addr} {sb:Shared} (k:Kp fs (hid Y sb) s') (h:∀ b o,s.heap.get? b = some o→sb.heap.get? b = some o) (hg:sb.gens = s.gens) (ho:sb.os = s.os) (t:TabOk (hid Y sb).heap):Kp fs (hid Y s) s' :=
 ⟨k.gens.trans hg,k.os.trans ho,fun b o e h1 h2=>k.keep b o (Br0 (h b o (Gc0 e)) (Fj0 e)) h1 h2,fun b o e h2=>k.slot b o (Br0 (h b o (Gc0 e)) (Fj0 e)) h2,fun _=>k.tab t⟩
theorem Dl0 (l:List Str):Du0 (l.map PyData.str) = true:=by
 induction l with
 | nil=>rfl
 | cons p r ih=>show (He0 (.str p) && Du0 (r.map _)) = true; rw [ih]; rfl
theorem Tl0 (x:Srt):x.abs.length = x.nds.length:=by unfold Srt.abs; simp
theorem Oh0 {x:Srt} {d:Nd} (h:d ∈ x.nds):(d.key,d.np,d.succ) ∈ x.abs:=List.mem_map.mpr ⟨d,h,rfl⟩
theorem Ze0 {l:Ab} {n:Nat} (h:∀ p ∈ l,p.2.2.length ≤ n):∀ p ∈ Xp0 l k,p.2.2.length ≤ n:=by
 intro p hp
 unfold Xp0 at hp
 split at hp
 ·exact h p hp
 ·rcases List.mem_append.mp hp with q | q
  ·exact h p q
  ·rw [List.mem_singleton.mp q]; exact Nat.zero_le _
noncomputable def Ib1 (x0:Srt) (node:Str) (Bd0:List Str) (i:Nat):Ab:=(Bd0.take i).foldl (Wy0 node) (Iu0 (Xp0 x0.abs node) node fun q=>(q.1 + Bd0.length,q.2))
theorem Gk1 (w:World) (x:Srt) (node:Str) (Bd0:List Str) (hR:x.R = none) (hn:∀ i,(Ib1 x node Bd0 i).length ≤ 1000∧∀ p ∈ Ib1 x node Bd0 i,p.2.2.length ≤ 1000) (hp:Bd0.length ≤ 1000) (hx:x.nds.length ≤ 1000) :
  Mth w 7 131 x (.str node :: Bd0.map .str) (fun x' v _=>v = .none∧x'.abs = Ia1 x.abs node Bd0∧x.Same x'):=by
 intro A fs X s vs am at_ hX rv
 obtain ⟨v1,vs',rfl,r1,rr⟩:∃ v vs',vs = v :: vs'∧Rd (fz (x.addrs ++ X) s.heap) v (.str node)∧RdAll (fz (x.addrs ++ X) s.heap) vs' (Bd0.map .str):=by
  cases rv with | cons r q=>exact ⟨_,_,rfl,r,q⟩
 have hlen:=rr.length
 rw [List.length_map] at hlen
 let sb:Shared:={ s with heap:=s.heap.push { cls:=.type "tuple",data:=.seq vs'.toArray } }
 have hext:∀ b o,s.heap.get? b = some o→sb.heap.get? b = some o:=fun b o e=>Heap.get?_push_of_some _ e
 have amb:=am.push { cls:=.type "tuple",data:=.seq vs'.toArray }
 have atb:x.At w sb.heap:=at_.keep fun a _ o e=>hext a o e
 have hfr:s.heap.objs.size ∉ x.addrs ++ X:=fun q=>by
  rcases List.mem_append.mp q with q | q
  ·obtain ⟨o,e,_⟩:=at_.has _ q; rw [Aj0] at e; cases e
  ·obtain ⟨o,e,_⟩:=am.has _ q; rw [Aj0] at e; cases e
 have rt:Rd (fz (x.addrs ++ X) sb.heap) (.ref s.heap.objs.size) (.tuple (Bd0.map .str)):=Rd.newTuple hfr (by simpa using rr)
 have r1b:Rd (fz (x.addrs ++ X) sb.heap) v1 (.str node):=by obtain ⟨t,hQ147⟩:=r1.str_inv; subst hQ147; exact .str _ _
 refine Kd0 (s:=sb) (sc:=s) (ps:=[oS "self",oS "node",oS "predecessors"]) (vs:=[.ref x.T,v1,.ref s.heap.objs.size]) (sls:=[.raw (.ref x.T),.val (.str node),.val (.tuple (Bd0.map .str))]) (lvl:=6)
  amb (atb.yok hX) (am.wd.k 131 _ (show (KF w).lookup 131 = some _ from rfl)) (codeRec_of am.wd.k (show codeIn (KF w) (.ref 130) (oS "TopologicalSorter.add") = true from rfl)) rfl (.raw (.val r1b (.val rt .nil))) ?_ (by decide) (by rfl) (by decide) (by rfl) (fun L=>rfl) ?_
 ·intro M A' E' Q hq
  refine Jg1 (m':=newTuple vs' >>= fun t=>pure [(oS "self",Value.ref x.T),(oS "node",v1),(oS "predecessors",t)]) ?_ (wB (wpAny_newTuple (wP hq) (by unfold sizeLine; lia)))
  cases vs' <;> rfl
 intro X' fs' L s1 c Q E ok S ap hkeep hX'' hks
 let ρ0:Rho:=[(oS "self",.raw (.ref x.T)),(oS "node",.val (.str node)),(oS "predecessors",.val (.tuple (Bd0.map .str)))]
 have Y1:SY _ x ρ0 s1:=⟨S,atb.keep hkeep,ap.rho fun a _ q=>by cases q⟩
 refine Oe0 (b:=!(In0 x.R == .none)) ok Y1 (fun p H okp=>Dv0 okp (Hg0 okp H (Ai0 okp rfl))) (fun hb=>by rw [hR] at hb; cases hb) fun _ s2 Y2=>wN ?_
 refine wC (wpAny_Assign_Name (Gj0 (ds:=[.str node]) (n:=5) ok Y2 (fun p H okp=>Ai0 okp rfl) (f:=124) (by rfl) (by rfl) (by rfl) (fun _ _ _ _ _ _=>rfl) (fun s3 Q' Y3 hq=>Za0 ok Y3 (fun p H okp=>Ab0 okp (Aa0 okp rfl) Ac0) rfl hq) (Zd0 w x node hx) (Nat.le_of_ble_eq_true rfl) fun v x2 s3 Y3 _ hsub2 _ hp2=>?_) rfl)
 obtain ⟨hab2,hsm2,d,hd,hdk,hQ148⟩:=GetPost.abs hp2; subst hQ148
 refine Y3.store ok rfl rfl (.inr rfl) fun s4 Y4=>?_
 refine wC (wpAny_AugAssign_AttributeAny (Az0 ok Y4 (fun p H okp=>Ai0 okp rfl) fun u s5 Y5 _ hu=>?_))
 subst hu
 obtain ⟨⟨t5,u5,e5⟩,e5',_⟩:=Y5.at_.nd d hd
 refine Ke0 (Y5.st.amb (ok.mores _)).wd.k ⟨e5,rfl,rfl,e5'⟩ (Ln1 _ _) (Gf1 _) (s86 _) (g86 _).1 (g86 _).2.1 (g86 _).2.2 (v:=.int d.np u5) rfl rfl ?_
 have Y6:=Y5.step ok (.toks _ (s5.toks + 1)) (Nat.succ_pos _)
 refine Bu0 ok Y6 (fun p H okp=>Mq0 okp (Cy0 okp rfl) (Aa0 okp rfl) (by rw [List.length_map]; exact Nat.lt_of_le_of_lt ‹_› (by decide))) fun u s7 Y7 _ hu=>?_
 obtain ⟨t7,hQ149⟩:=hu.int_inv; subst hQ149
 refine iadd_int ?_
 have Y8:=Y7.step ok (.toks _ (s7.toks + 1)) (Nat.succ_pos _)
 refine Iz0 ok Y8 hd fun s9 Y9=>?_
 have hf9:Nd.Same fun e=>{ e with np:=d.np + ((Bd0.map PyData.str).length:Nat) }:=⟨fun _=>rfl,fun _=>rfl,fun _=>rfl,fun _=>rfl⟩
 have hab9:(x2.mod d.key fun e=>{ e with np:=d.np + ((Bd0.map PyData.str).length:Nat) }).abs = Ib1 x node Bd0 0:=by
  rw [Ki0 (g:=fun q=>(q.1 + Bd0.length,q.2)) (fun e he hk=>by have:=Tk0 Y4.at_.nodupK he hd hk; subst this; simp),hab2,hdk]
  rfl
 have hsm9:x.Same (x2.mod d.key fun e=>{ e with np:=d.np + ((Bd0.map PyData.str).length:Nat) }):=hsm2.trans (Og0 _ _ _)
 have hsub9:∀ a ∈ x.addrs,a ∈ (x2.mod d.key fun e=>{ e with np:=d.np + ((Bd0.map PyData.str).length:Nat) }).addrs:=fun a ha=>by rw [Srt.mod_addrs hf9]; exact hsub2 a ha
 generalize (x2.mod d.key fun e=>{ e with np:=d.np + ((Bd0.map PyData.str).length:Nat) }) = x9 at Y9 hab9 hsm9 hsub9
 have hT9:=hsm9.T
 have Y9':SY _ x9 ρ0 s9:=Y9.drop (.cons rfl (.cons rfl (.cons rfl .nil)))
 let J:Nat→Srt→Prop:=fun i xi=>xi.abs = Ib1 x node Bd0 i∧x.Same xi∧∀ a ∈ x.addrs,a ∈ xi.addrs
 refine Rb0 (f:=PyData.str) (ρs:=fun _=>ρ0) (ρb:=[]) J (fun _=>False) ok Y9' (Of0 (ok.mores _) (Aa0 (ok.mores _) rfl)) ⟨hab9,hsm9,hsub9⟩ rfl ?_ ?_ (fun _ _ h=>h.elim)
 ·intro i pr pins xi sa hpr okq hi2 Ya E'
  obtain ⟨habi,hsmi,hsbi⟩:=hi2
  have hTi:=hsmi.T
  have hnd:xi.nds.length ≤ 1000:=by rw [← Tl0,habi]; exact (hn i).1
  refine wC (wpAny_Assign_Name (Gj0 (ds:=[.str pr]) (n:=5) okq Ya (fun p H okp=>by rw [hTi]; exact Ai0 okp rfl) (f:=124) (by rfl) (by rfl) (by rfl) (fun _ _ _ _ _ _=>rfl) (fun s3 Q' Y3 hq=>Za0 okq Y3 (fun p H okp=>Ab0 okp (Aa0 okp rfl) Ac0) rfl hq) (Zd0 w xi pr hnd) (Nat.le_of_ble_eq_true rfl) fun v xj sb' Yb _ hsubj _ hpj=>?_) rfl)
  obtain ⟨habj,hsmj,dj,hdj,hdjk,hQ150⟩:=GetPost.abs hpj; subst hQ150
  refine Yb.store okq rfl rfl (.inr rfl) fun sc Yc=>?_
  have hfj:Nd.Same fun e=>{ e with succ:=e.succ ++ [node] }:=⟨fun _=>rfl,fun _=>rfl,fun _=>rfl,fun _=>rfl⟩
  have hsl:dj.succ.length ≤ 1000:=by
   have h1:=Ze0 (k:=pr) (hn i).2 (dj.key,dj.np,dj.succ) (by rw [← habi,← habj]; exact Oh0 hdj)
   exact h1
  refine Ra0 (x':=xj.mod dj.key fun e=>{ e with succ:=e.succ ++ [node] }) (b:=dj.L) (ys:=dj.succ) (y:=node) okq Yc (fun p H okp=>Tj0 okp H hdj (Ai0 okp rfl)) (fun p H okp=>Aa0 okp rfl) (Srt.mem_nd hdj (.tail _ (.tail _ (.head _)))) (fun h a=>(a.nd dj hdj).2.2) (by exact Nat.le_trans ‹_› (by decide)) ?_ (Srt.mod_addrs hfj) fun sd Yd=>wN ?_
  ·intro h h' a hs hL
   obtain ⟨⟨t,u,e1⟩,_,_⟩:=a.nd dj hdj
   have hIL:dj.I ≠ dj.L:=(Od0 (Cl0 a.apart).2.2.2.2.2 hdj).2.1
   exact a.mod hdj hfj (.inr rfl) hs ⟨t,u,(hs.2 _ hIL).trans e1⟩ hL
  ·have Ye:SY _ _ ρ0 sd:=Yd.drop (.cons rfl (.cons rfl (.cons rfl .nil)))
   refine ⟨_,Ye,?_,(hsmi.trans hsmj).trans (Og0 _ _ _),fun a ha=>by rw [Srt.mod_addrs hfj]; exact hsubj a (hsbi a ha)⟩
   rw [Ki0 (g:=fun q=>(q.1,q.2 ++ [node])) (fun e he hk=>rfl),habj,habi,hdjk]
   unfold Ib1
   rw [List.take_add_one,hpr,List.foldl_append]
   rfl
 ·intro xz sz hi3 Yz
  obtain ⟨habz,hsmz,hsbz⟩:=hi3
  refine wN ⟨.none,xz,rfl,Ey1 Yz.st.since hext rfl rfl ok.tab,Yz.at_,hsbz,?_,rfl,?_,hsmz⟩
  ·intro a ha
   have h0:=Yz.ap.new a ha
   by_cases q:a ∈ x.addrs
   ·exact .inl q
   ·refine .inr ?_
    cases w0:s.heap.get? a with
    | none=>rfl
    | some o =>
     have:=Br0 (Y:=x.addrs) (s:=sb) (hext a o w0) q
     have h0':(hid x.addrs sb).heap.get? a = none:=h0
     rw [h0'] at this; cases this
  ·rw [habz]; unfold Ib1 Ia1; rw [List.take_length]
theorem Kj0 (l:Addr) (vs:Array Value) (n:Nat) (hz:vs.size < 2 ^ 40) :
  Meets (Builtin.«bool.__new__» ⟨[.type "bool",.ref l],[]⟩) (fun _ R s=>s.heap.IsList l vs∧R (.ok (.ret (.bool (!vs.isEmpty)))) { s with toks:=s.toks + 1 + 1 }):=by
 refine .of_wp fun prog w A R s h=>?_
 obtain ⟨hl,h⟩:=h
 show wpAny _ _ (isSubtype (.type "bool") (.type "bool") >>= _) _ _ s
 refine wB (wpAny_of_eq (a:=true) (by rw [isSubtype_type]; kernel_rfl) ?_)
 show wpAny _ _ (truthy (.ref l) >>= _) _ _ s
 exact wB (wpAny_truthy_list hl (by lia) (wP ⟨_,rfl,h⟩))
theorem Gk0 {k:Nat} (ok:CxOk c) (h:Ev c ρ o fun _ u=>u = v):EvB c ρ (.Compare o [.Is] [.Constant .none k np] pos) (v == .none) :=
 Aq0 (P2:=fun _ u=>u = .none) ok h (fun s S E=>wpAny_Constant_none ⟨.refl _ _,rfl⟩) (fun _ _ _ _ _ p=>p) fun s a b S p q E=>by subst p q; exact is_none_gen ⟨.refl _ _,rfl⟩
theorem Ls1 {x y:Expr} {b b':Bool} (ok:CxOk c) (h1:EvD c ρ x (.bool b)) (h2:EvD c ρ y (.bool b')):EvD c ρ (.BoolOp .Or [x,y] pos) (.bool (b || b')):=fun s S E=>by
 refine wpAny_Or2 (Ad0 ok h1 S (.refl _ _) fun v s1 S1 k _ p=>?_)
 cases p.bool_inv
 refine wpAny_truthy_bool ?_
 cases b with
 | true=>exact ⟨k,.bool _⟩
 | false=>exact Ad0 ok h2 S1 k fun v' s2 S2 _ k' p'=>⟨k',p'⟩
theorem Tm0 {x:Srt} {p:Addr × List Str} (ok:CxOk c) (H:Held c x) (hR:x.R = some p) (hz:p.2.length ≤ 1000) (hf:Ev c ρ (.Name "bool" np) fun _ v=>v = .type "bool") (h:Ev c ρ o fun _ u=>u = In0 x.R) (he:starEach [o] c.env = [(false,eval o c.env)]:=by rfl) :
  EvD c ρ (.Call (.Name "bool" np) [o] [] pos) (.bool (!p.2.isEmpty)) :=
 Bt0 ok hf (.inr ⟨_,rfl⟩) h (fun s v S q E=>by
  subst q
  rw [hR]
  obtain ⟨vs,n,sl,e,r⟩:=(H.at S).r p hR
  have hlen:=Bm0 r
  simp only [Array.length_toList] at hlen
  have hb:(!vs.isEmpty) = !p.2.isEmpty:=by
   congr 1
   rw [Bool.eq_iff_iff,Array.isEmpty_iff_size_eq_zero,List.isEmpty_iff_length_eq_zero,hlen]
  refine call_bool_1 (Kj0 p.1 vs n (by lia)) ⟨⟨_,e,rfl,n,rfl⟩,rfl,(Kp.toks _ _).trans (.toks _ _),?_⟩
  rw [hb]; exact .bool _) he
theorem Mr0 (w:World) (x:Srt) (p:Addr × List Str) (hR:x.R = some p) (hz:p.2.length ≤ 1000):Mth w 5 150 x [] (fun x' v _=>x' = x∧v = .bool (decide (x.fin < x.po) || !p.2.isEmpty)):=by
 intro A fs X s vs am at_ hX rv
 cases rv
 refine Ep0 (ps:=[oS "self"]) (vs:=[.ref x.T]) (sls:=[.raw (.ref x.T)]) (lvl:=4)
  am (at_.yok hX) (am.wd.k 150 _ (show (KF w).lookup 150 = some _ from rfl)) (codeRec_of am.wd.k (show codeIn (KF w) (.ref 149) (oS "TopologicalSorter.is_active") = true from rfl)) rfl (.raw .nil) (BindsTo.of_eq rfl) (by decide) (by rfl) (by decide) (by rfl) (fun L=>rfl) ?_
 intro X' fs' L s1 c Q E ok S ap hkeep _ hks
 have Y1:SY _ x [(oS "self",.raw (.ref x.T))] s1:=⟨S,at_.keep hkeep,ap.rho fun a _ q=>by cases q⟩
 refine Oe0 (b:=(In0 x.R == .none)) ok Y1 (fun p H okp=>Gk0 okp (Hg0 okp H (Ai0 okp rfl))) (fun hb=>by rw [hR] at hb; cases hb) fun _ s2 Y2=>wN ?_
 refine wC (wpAny_Return_some (Bu0 ok Y2 (fun q H okp=>Ls1 okp (Ni0 okp (Jc1 okp H (Ai0 okp rfl)) (Lo1 okp H (Ai0 okp rfl)) (Bq0 okp _) Id1) (Tm0 okp H hR hz (Is1 okp rfl) (Hg0 okp H (Ai0 okp rfl)))) fun v s3 Y3 _ hv=>?_))
 cases hv.bool_inv
 exact ⟨_,x,rfl,Y3.st.since,Y3.at_,fun _ h=>h,fun _ h=>.inl h,rfl,rfl⟩
theorem De1 (w:World):findIn (KF w) (.ref 181) "__setattr__" = some (some (.builtin "object.__setattr__"))∧plainOver (KF w) 181 = true:=⟨by rfl,by rfl⟩
theorem Jh1 {x:Srt} {R:Option (Addr × List Str)} {po fin:Int} {Q:Unit→Shared→Prop} (X:(KF w).In s.heap) (a:x.At w s.heap) (ht:takerIn (KF w) 181 name = some none)
  (hl:∀ t1 t2 t3 t4 u3 u4,(getL name (Sg0 w t1 t2 t3 t4 (.ref x.N) (In0 x.R) (.int x.po u3) (.int x.fin u4))).isSome = true)
  (hput:∀ t1 t2 t3 t4 u3 u4 hsh key ep,∃ u3' u4',putL name hsh key v (Sg0 w t1 t2 t3 t4 (.ref x.N) (In0 x.R) (.int x.po u3) (.int x.fin u4)) = Sg0 w t1 t2 t3 t4 (.ref x.N) (In0 R) (.int po u3') (.int fin u4')∧putN name (Sg0 w t1 t2 t3 t4 (.ref x.N) (In0 x.R) (.int x.po u3) (.int x.fin u4)) ep = ep)
  (hq:∀ h',Heap.SameBut x.DT s.heap h'→(∃ t1 t2 t3 t4 ep u3 u4,h'.get? x.DT = some (dictOf (Sg0 w t1 t2 t3 t4 (.ref x.N) (In0 R) (.int po u3) (.int fin u4)) ep))→Q () { s with heap:=h',toks:=s.toks + 1 + 1 }):wpAny (MM w) A (setAttr (.ref x.T) name v) Q E s:=by
 obtain ⟨t1,t2,t3,t4,ep,u3,u4,e⟩:=a.dt
 obtain ⟨u3',u4',h1,h2⟩:=hput t1 t2 t3 t4 u3 u4 (PyData.keyHash w.params name) (.str name (s.toks + 1)) ep
 refine Uw0 (od:=dictOf _ ep) (od':=dictOf (Sg0 w t1 t2 t3 t4 (.ref x.N) (In0 R) (.int po u3') (.int fin u4')) ep) X ⟨a.t,rfl,rfl,e⟩ rfl (De1 w).1 (De1 w).2 ht (Wx0 w) ((congrArg Option.isSome (lookIn_dict name _ ep)).trans (hl t1 t2 t3 t4 u3 u4)) (by rw [putName_dict,h1,h2]) rfl (by show 4 ≤ 1000; decide) fun h' e' hs=>hq h' hs ⟨t1,t2,t3,t4,ep,u3',u4',e'⟩
theorem Ux0 {x:Srt} {po fin:Int} {Q:Unit→Shared→Prop} (ok:CxOk c) (Y:SY c x ρ s) (ht:takerIn (KF c.w) 181 name = some none)
  (hl:∀ t1 t2 t3 t4 u3 u4,(getL name (Sg0 c.w t1 t2 t3 t4 (.ref x.N) (In0 x.R) (.int x.po u3) (.int x.fin u4))).isSome = true)
  (hput:∀ t1 t2 t3 t4 u3 u4 hsh key ep,∃ u3' u4',putL name hsh key v (Sg0 c.w t1 t2 t3 t4 (.ref x.N) (In0 x.R) (.int x.po u3) (.int x.fin u4)) = Sg0 c.w t1 t2 t3 t4 (.ref x.N) (In0 x.R) (.int po u3') (.int fin u4')∧putN name (Sg0 c.w t1 t2 t3 t4 (.ref x.N) (In0 x.R) (.int x.po u3) (.int x.fin u4)) ep = ep)
  (hq:∀ s',SY c { x with po:=po,fin:=fin } ρ s'→Q () s'):wpAny (MM c.w) c.A (setAttr (.ref x.T) name v) Q E s :=
 Jh1 (R:=x.R) (Y.st.amb (ok.mores _)).wd.k Y.at_ ht hl hput fun h' hs hd=>hq _ (Y.put ok (.tail _ (.head _)) hs (Y.at_.setDT hs (.inl rfl) hd) rfl (Nat.succ_pos _))
theorem Ib0 (h:StrsAre vs ys):RdAll g vs (ys.map .str):=by
 induction h with
 | nil=>exact .nil
 | cons x t _ ih=>exact .cons (.str _ _) ih
theorem Gl1 {x:Srt} {p:Addr × List Str} (ok:CxOk c) (H:Held c x) (hR:x.R = some p) (h:Ev c ρ o fun _ u=>u = In0 x.R):EvL c ρ o (p.2.map .str):=fun s S E =>
 Ad0 ok h S (.refl _ _) fun v s' S' k _ hv=>by
  subst hv
  obtain ⟨vs,n,sl,e,r⟩:=(H.at S').r p hR
  exact ⟨k,p.1,by rw [hR]; rfl,vs,n,sl,e,Ib0 r⟩
noncomputable def Uy0 (l:Ab) (rs:List Str):Ab:=rs.foldl (fun l k=>Iu0 l k fun q=>(-1,q.2)) l
theorem Zf0 (l:Ab) (k:Str) (f:Int × List Str→Int × List Str):(Iu0 l k f).map (·.1) = l.map (·.1):=by
 unfold Iu0
 rw [List.map_map]
 apply List.map_congr_left
 intro p _
 simp only [Function.comp_apply]
 split <;> rfl
theorem Zg0 (rs:List Str):∀ l:Ab,(Uy0 l rs).map (·.1) = l.map (·.1):=by
 induction rs with
 | nil=>intro l; rfl
 | cons k r ih=>intro l; show (Uy0 (Iu0 l k _) r).map _ = _; rw [ih,Zf0]
theorem Tn0 (l:Addr) (items:Array Value) (n:Nat) (sl:Array (Option Value)) (hs1:items.size ≤ sizeLine) :
  Meets (Builtin.«list.clear» ⟨[.ref l],[]⟩) (fun _ R s=>s.heap.get? l = some { cls:=.type "list",dict:=none,data:=.seq items n,slots:=sl }∧R (.ok (.ret Value.none)) { s with heap:=s.heap.update l (Obj.mapSeq fun _=>#[]),toks:=s.toks }) :=
 .of_wp fun prog w A R s h=>by obtain ⟨hp,g,d,tk,os⟩:=s; obtain ⟨hl,h⟩:=h; wp_walk using wpAny_loadPart' hl; exact ⟨_,rfl,h⟩
theorem Zh0 {l:Addr} {vs:Array Value} {n:Nat} {sl:Array (Option Value)} {Q:Value→Shared→Prop} (ho:s.heap.get? l = some ⟨.type "list",none,.seq vs n,sl⟩)
  (hQ:∀ h' n',h'.get? l = some ⟨.type "list",none,.seq #[] n',sl⟩→Heap.SameBut l s.heap h'→Q .none { s with heap:=h' }) (hsz:vs.size ≤ sizeLine) :
  wpAny (MM w) A (call (.builtin "list.clear") [.ref l]) Q E s:=by
 refine call_meets PySem.F.slot_list_clear ⟨_,ho,rfl⟩ PySem.F.entry_list_clear (PySem.F.args_list_clear_1 _) (Tn0 l vs n sl hsz) ⟨ho,hQ _ (if (#[]:Array Value).size == vs.size then n else n + 1) ?_ (Heap.SameBut.update ..)⟩
 exact Heap.get?_update_self _ ho rfl
theorem Df1 {x:Srt} {p:Addr × List Str} (ok:CxOk c) (Y:SY c x ρ s) (hR:x.R = some p)
  (ho:∀ p,Held (c.pins p) x→CxOk (c.pins p)→Ev (c.pins p) ρ o fun _ u=>u = In0 x.R) (hz:p.2.length ≤ 100000)
  (hr:∀ s',SY c { x with R:=some (p.1,[]) } ρ s'→wpAny (MM c.w) c.A (execs rest c.env) Q E s')
  (hbase:attributeBase o (oS "clear") c.env (eval o c.env) = eval o c.env:=by rfl) (he:starEach [] c.env = []:=by rfl) (hline:(apos.endLine == cpos.line) = true:=by rfl) (hi:interactive c.env = false:=by rfl) :
  wpAny (MM c.w) c.A (execs (.Expr (.Call (.Attribute o (oS "clear") apos) [] [] cpos) pos :: rest) c.env) Q E s:=by
 refine wC (wpAny_Expr ?_ hi rfl)
 refine wpAny_Call_method_lateS hbase (by rw [he]; rfl) hline (Az0 ok Y ho fun v s1 Y1 k1 hv=>?_)
 subst hv
 rw [hR]
 obtain ⟨vs0,n0,sl0,e0,r0⟩:=Y1.at_.r p hR
 refine ⟨"list", "list.clear",PySem.F.plainAttrs_list,PySem.F.slot_list_clear,PySem.F.type_list_clear,⟨_,e0,rfl⟩,(fun b q=>by cases q; exact ⟨_,e0,rfl⟩),?_⟩
 have hp:∀ Q,Q ⟨[],[]⟩ s1→wpAny (MM c.w) c.A (evalArgs (.builtin "list.clear") true (backTo cpos (starEach [] c.env)) []) Q E s1:=by
  intro Q hq; rw [he]; exact evalArgs_nil3 hq
 refine callWith_builtin (by rw [he]; rfl) (hp (fun a' s₁=>wpAny (MM c.w) c.A (call (.builtin "list.clear") ([.ref p.1] ++ a'.pos) a'.kw) _ E s₁) ?_)
 have hlen:=Bm0 r0
 simp only [Array.length_toList] at hlen
 refine Zh0 e0 (fun h' n' e' hs'=>hr _ ?_) (by unfold sizeLine; lia)
 have hmem:p.1 ∈ x.addrs:=Srt.mem_r hR
 exact Y1.put (tk:=s1.toks) ok hmem hs' (Y1.at_.setRs hR hs' ⟨_,n',sl0,e',.nil⟩) (by unfold Srt.addrs; rw [hR]; rfl) Y1.st.toks
theorem Zi0 (w:World) (x:Srt) (p:Addr × List Str) (hR:x.R = some p) (hz:p.2.length ≤ 1000) (hk:∀ k ∈ p.2,k ∈ x.nds.map (·.key)) :
  Mth w 6 143 x [] (fun x' v g=>x'.T = x.T∧x'.R = some (p.1,[])∧x'.po = x.po + p.2.length∧x'.fin = x.fin∧x'.abs = Uy0 x.abs p.2∧Rd g v (.tuple (p.2.map .str))):=by
 intro A fs X s vs am at_ hX rv
 cases rv
 refine Ep0 (ps:=[oS "self"]) (vs:=[.ref x.T]) (sls:=[.raw (.ref x.T)]) (lvl:=5)
  am (at_.yok hX) (am.wd.k 143 _ (show (KF w).lookup 143 = some _ from rfl)) (codeRec_of am.wd.k (show codeIn (KF w) (.ref 142) (oS "TopologicalSorter.get_ready") = true from rfl)) rfl (.raw .nil) (BindsTo.of_eq rfl) (by decide) (by rfl) (by decide) (by rfl) (fun L=>rfl) ?_
 intro X' fs' L s1 c Q E ok S ap hkeep hX'' hks
 have Y1:SY _ x [(oS "self",.raw (.ref x.T))] s1:=⟨S,at_.keep hkeep,ap.rho fun a _ q=>by cases q⟩
 refine Oe0 (b:=(In0 x.R == .none)) ok Y1 (fun p H okp=>Gk0 okp (Hg0 okp H (Ai0 okp rfl))) (fun hb=>by rw [hR] at hb; cases hb) fun _ s2 Y2=>wN ?_
 refine Kg0 (d:=.tuple (p.2.map .str)) ok Y2 (fun q H okp=>Mc0 okp (Yd0 okp rfl) (Gl1 okp H hR (Hg0 okp H (Ai0 okp rfl))) (by rw [List.length_map]; unfold sizeLine; exact Nat.le_trans ‹_› (by decide))) (Dl0 _) rfl rfl rfl fun s3 Y3=>?_
 refine Dc0 ok Y3 (fun q H okp=>Mo0 okp H (Ai0 okp rfl)) rfl rfl rfl fun s4 Y4=>?_
 let ρ0:Rho:=[(oS "n2i",.raw (.ref x.N)),(oS "result",.val (.tuple (p.2.map .str))),(oS "self",.raw (.ref x.T))]
 have Y4':SY _ x ρ0 s4:=Y4
 let J:Nat→Srt→Prop:=fun i xi=>xi.abs = Uy0 x.abs (p.2.take i)∧x.Same xi∧xi.N = x.N∧xi.addrs = x.addrs
 refine Rb0 (f:=PyData.str) (ρs:=fun _=>ρ0) (ρb:=[]) J (fun _=>False) ok Y4' (Of0 (ok.mores _) (Aa0 (ok.mores _) rfl)) ⟨rfl,.refl _,rfl,rfl⟩ rfl ?_ ?_ (fun _ _ h=>h.elim)
 ·intro i kk pins xi sa hkk okq hi4 Ya E'
  obtain ⟨habi,hsmi,hNi,hadi⟩:=hi4
  have hkm:kk ∈ xi.nds.map (·.key):=by
   rw [← Dk0,habi,Zg0,Dk0]
   exact hk kk (List.mem_of_getElem? hkk)
  obtain ⟨d,hd,hQ151⟩:=List.mem_map.mp hkm; subst hQ151
  refine wC (plainObj_wpAny_Assign_Attribute (Az0 okq Ya (fun q H okp=>Bp0 okp (Me0 _) rfl) fun u sb Yb _ hu=>Az0 okq Yb (fun q H okp=>Oc0 okp H hd (by rw [hNi]; exact Ai0 okp rfl) (Aa0 okp rfl)) fun u' sc Yc _ hu'=>?_))
  subst hu hu'
  refine Iz0 okq Yc hd fun sd Yd=>wN ?_
  have hf:Nd.Same fun e=>{ e with np:=-1 }:=⟨fun _=>rfl,fun _=>rfl,fun _=>rfl,fun _=>rfl⟩
  have Ye:SY _ _ ρ0 sd:=Yd.drop (.cons rfl (.cons rfl (.cons rfl .nil)))
  refine ⟨_,Ye,?_,hsmi.trans (Og0 _ _ _),hNi,(Srt.mod_addrs hf).trans hadi⟩
  rw [Ki0 (g:=fun q=>(-1,q.2)) (fun e he hk=>rfl),habi]
  unfold Uy0
  rw [List.take_add_one,hkk,List.foldl_append]
  rfl
 ·intro xz sz hi5 Yz
  obtain ⟨habz,hsmz,hNz,hadz⟩:=hi5
  rw [List.take_length] at habz
  have hRz:xz.R = some p:=hsmz.R.trans hR
  have hTz:xz.T = x.T:=hsmz.T
  refine Df1 ok Yz hRz (fun q H okp=>Hg0 okp H (by rw [hTz]; exact Ai0 okp rfl)) (by exact Nat.le_trans ‹_› (by decide)) fun s5 Y5=>?_
  refine wC (wpAny_AugAssign_AttributeAny (Az0 ok Y5 (fun p H okp=>Ai0 okp rfl) fun u s6 Y6 _ hu=>?_))
  subst hu
  obtain ⟨t1,t2,t3,t4,ep,u3,u4,e⟩:=Y6.at_.dt
  have et:=Y6.at_.t
  refine get_value (x:=x.T) (Y6.st.amb (ok.mores _)).wd.k ⟨hTz ▸ et,rfl,rfl,e⟩ (plainGet_of (Th0 w (oS "_npassedout"))).1 (findObj_own (od:=dictOf _ ep) (v:=.int xz.po u3) (Wx0 w) (f3 w) rfl ((lookIn_dict _ _ ep).trans rfl)) rfl ?_
  have Y7:=Y6.step ok (.toks _ (s6.toks + 1)) (Nat.succ_pos _)
  refine Bu0 ok Y7 (fun p H okp=>Mq0 okp (Cy0 okp rfl) (Aa0 okp rfl) (by rw [List.length_map]; exact Nat.lt_of_le_of_lt ‹_› (by decide))) fun u s8 Y8 _ hu=>?_
  obtain ⟨t,hQ152⟩:=hu.int_inv; subst hQ152
  refine iadd_int ?_
  have Y9:=Y8.step ok (.toks _ (s8.toks + 1)) (Nat.succ_pos _)
  have hTx:Value.ref x.T = .ref xz.T:=by rw [hTz]
  rw [hTx]
  refine Ux0 (x:={ xz with R:=some (p.1,[]) }) (po:=xz.po + ((p.2.map PyData.str).length:Nat)) (fin:=xz.fin) ok Y9 (by rfl) (fun _ _ _ _ _ _=>by rfl) (fun _ _ _ _ _ _ _ _ _=>⟨_,_,by rfl,by rfl⟩) fun s10 Y10=>?_
  refine wC (wpAny_Return_some (Bu0 ok Y10 (fun q H okp=>Aa0 okp rfl) fun v s11 Y11 _ hv=>?_))
  refine ⟨_,_,rfl,Y11.st.since,Y11.at_,?_,?_,?_⟩
  ·exact fun a ha=>by rw [show ({ xz with R:=some (p.1,[]),po:=_,fin:=_ }:Srt).addrs = xz.addrs from by unfold Srt.addrs; rw [hRz]; rfl,hadz]; exact ha
  ·exact fun a ha=>by rw [show ({ xz with R:=some (p.1,[]),po:=_,fin:=_ }:Srt).addrs = xz.addrs from by unfold Srt.addrs; rw [hRz]; rfl,hadz] at ha; exact .inl ha
  ·refine ⟨hTz,rfl,?_,hsmz.fin,habz,Rd.monoT (fun a o ho e=>Bf0 (Ah0 e) fun q=>?_) (Dl0 _) hv⟩
   ·rw [List.length_map]; show xz.po + _ = _; rw [hsmz.po]
   ·rcases List.mem_append.mp q with q | q
    ·exact Y11.at_.noTup a q o (Ah0 e) ho
    ·exact Ae0 e (List.mem_append_right _ (ok.x0 a q))
theorem Ms0 (h:StrsAre vs ys):∀ (i:Nat) (k:Str),ys[i]? = some k→∃ t,vs[i]? = some (.str k t):=by
 induction h with
 | nil=>intro i k h; simp at h
 | cons x t _ ih =>
  intro i k h
  cases i with
  | zero=>simp only [List.getElem?_cons_zero,Option.some.injEq] at h; subst h; exact ⟨_,rfl⟩
  | succ i=>rw [List.getElem?_cons_succ] at h ⊢; exact ih i k h
theorem SY.pins {x:Srt} (Y:SY c x ρ s) (ps:Addr × Obj→Prop) (h1:∀ p,ps p→s.heap.get? p.1 = some p.2) (h2:∀ p,ps p→p.1 ∉ (c.mores x.addrs).XX ρ):SY (c.pins ps) x ρ s :=
 ⟨Y.st.pins ps h1 h2,Y.at_,⟨Y.ap.new,Y.ap.loc,Y.ap.cell,Y.ap.fs,Y.ap.tab,Y.ap.own,Y.ap.x⟩⟩
noncomputable def fsQ (c:Cx) (ρ:Rho) (J:Srt→Prop) (fl:Flow) (s:Shared):Prop:=(fl = .next ∨ fl = .cont)∧∃ x,SY c x ρ s∧J x
theorem Gm1 {x:Srt} {tpos:Pos} (J:Nat→Srt→Prop) (ok:CxOk c) (Y:SY c x ρ s)
  (ho:∀ p,Held (c.pins p) x→CxOk (c.pins p)→Ev (c.pins p) ρ iter fun _ u=>u = .ref b) (hL:∀ i xi h,J i xi→xi.At c.w h→StrL h b ys) (hJ0:J 0 x)
  (hx:c.env.kindOf y = some .local) (hcd:(y == ("__classdict__" : Str)) = false)
  (turn:∀ (i:Nat) k pins xi s',ys[i]? = some k→CxOk (c.pins pins)→J i xi→SY (c.pins pins) xi ((y,.val (.str k)) :: ρ) s'→∀ E',wpAny (MM (c.pins pins).w) (c.pins pins).A (execs body (c.pins pins).env) (fsQ (c.pins pins) ρ (J (i + 1))) E' s')
  (hend:∀ xi s',J ys.length xi→SY c xi ρ s'→wpAny (MM c.w) c.A (execs rest c.env) Q E s')
  (hs:∀ x,foldedSetIterable iter c.env x = pure x:=by intro _; rfl) (hl3:Nat.ble 3 c.lvl = true:=by rfl):wpAny (MM c.w) c.A (execs (.For (.Name y tpos) iter body [] pos :: rest) c.env) Q E s:=by
 refine wC (wpAny_For (Az0 ok Y ho fun v s1 Y1 k1 hv=>?_) hs)
 subst hv
 obtain ⟨vs0,n0,sl0,e0,r0⟩:=hL 0 x _ hJ0 Y1.at_
 refine wpAny_pyIter_list ⟨_,e0,rfl,n0,rfl⟩ ?_
 have okY:=ok.mores x.addrs
 have hbig:=Y1.st.big okY
 have hat:s1.heap.objs.size ≠ tA:=Nat.ne_of_gt (Nat.lt_of_lt_of_le (by decide) hbig)
 have hI0:c.s0.heap.get? s1.heap.objs.size = none:=Y1.st.new0 okY (Aj0 _) hat
 have Y2:SY c x ρ { s1 with heap:=s1.heap.push { cls:=.type "list_iterator",data:=.fields #[.ref b,.int 0 0] } }:=Y1.step ok (.push _ _) Y1.st.toks
 have hup:∀ (i:Nat) (xi:Srt) (s:Shared) (h':Heap),s1.heap.objs.size ∉ (c.mores xi.addrs).XX ρ→(∀ p,c.pin p→p.1 ≠ s1.heap.objs.size)→SY c xi ρ s→s.heap.IsListIter s1.heap.objs.size b i→Heap.ExtBut s1.heap.objs.size s.heap h'→SY c xi ρ { s with heap:=h' }:=by
  intro i xi s h' hIX hpn Ys it hk
  obtain ⟨o,e1,e2,e3⟩:=it
  refine ⟨Ys.st.upd (ok.mores _) (b:=s1.heap.objs.size) hI0 (fun a o ne e=>hk a o ne e) hat hIX (fun o' e=>?_) hpn rfl rfl Ys.st.toks,Ys.at_.keep fun a ha o e=>hk a o (fun q=>hIX (q ▸ List.mem_append_right _ (List.mem_append_left _ ha))) e,Ys.ap⟩
  rw [e1] at e; cases e
  exact ⟨(by rw [e3]; intro _ _ h; cases h),.inl (by rw [e2]; intro q; exact absurd (Value.type.inj q) (by decide))⟩
 have hpn:∀ p,c.pin p→p.1 ≠ s1.heap.objs.size:=fun p hp q=>by have:=Y1.st.pin p hp; rw [q,Aj0] at this; cases this
 refine codeAny_forLoop_any (fun k s'=>∃ i xi,k = ys.length + 1 - i∧i ≤ ys.length∧SY c xi ρ s'∧s'.heap.IsListIter s1.heap.objs.size b i∧J i xi∧s1.heap.objs.size ∉ (c.mores xi.addrs).XX ρ) ?_ (ys.length + 1) ⟨0,x,rfl,Nat.zero_le _,Y2,⟨_,Heap.get?_push_size _ rfl,rfl,rfl⟩,hJ0,Y1.st.fresh⟩
 rintro k s' ⟨i,xi,rfl,hi,Y',it,j,hIX⟩
 obtain ⟨vs,n,sl,e,r⟩:=hL i xi _ j Y'.at_
 have hl:s'.heap.IsList b vs:=⟨_,e,rfl,n,rfl⟩
 have hlen:=Bm0 r
 simp only [Array.length_toList] at hlen
 by_cases hlt:i < ys.length
 ·obtain ⟨t,hv⟩:=Ms0 r i ys[i] (List.getElem?_eq_getElem hlt)
  rw [Array.getElem?_toList] at hv
  refine wpAny_pyNext_list_item it hl hv fun h' it' hs'=>?_
  have Y3:=hup i xi s' h' hIX hpn Y' it hs'.extBut
  obtain ⟨oI,f1,f2,f3⟩:=it'
  refine Gu0 (c:=c) ⟨oI,_,_,f1,f3,f2,by decide,by decide⟩ ?_
  let P1:Addr × Obj→Prop:=fun p=>c.pin p ∨ p = (s1.heap.objs.size,oI)
  have Y4:SY (c.pins P1) xi ρ _:=Y3.pins P1 (fun p hp=>hp.elim (Y3.st.pin p) fun q=>by rw [q]; exact f1) fun p hp=>hp.elim (Y3.st.pinx p) fun q=>by rw [q]; exact hIX
  refine wpAny_assign_Name (SY.store (c:=c.pins P1) (ok.pins P1) Y4 hx hcd (.inl ⟨.str ys[i],rfl,rfl,.str _ _⟩) fun s5 Y5=>?_)
  refine wM (turn i _ P1 xi s5 (List.getElem?_eq_getElem hlt) (ok.pins P1) j Y5 _) (fun fl s6 h6=>?_) fun _ _ x=>x
  obtain ⟨hfl,xi',Y6,j6⟩:=h6
  have hnext:∃ m,m < ys.length + 1 - i∧∃ i' xi,m = ys.length + 1 - i'∧i' ≤ ys.length∧SY c xi ρ s6∧s6.heap.IsListIter s1.heap.objs.size b i'∧J i' xi∧s1.heap.objs.size ∉ (c.mores xi.addrs).XX ρ :=
   ⟨_,by grind,i + 1,xi',rfl,hlt,⟨Y6.st.unpin (c:=c.mores _) fun p hp=>.inl hp,Y6.at_,⟨Y6.ap.new,Y6.ap.loc,Y6.ap.cell,Y6.ap.fs,Y6.ap.tab,Y6.ap.own,Y6.ap.x⟩⟩,⟨oI,Y6.st.pin (_,oI) (.inr rfl),f2,f3⟩,j6,Y6.st.pinx (_,oI) (.inr rfl)⟩
  rcases hfl with rfl | rfl
  ·exact hnext
  ·exact hnext
 ·have hin:i = ys.length:=by lia
  subst hin
  refine wpAny_pyNext_list_end (ok.hand hl3) it hl (by simp [hlen]) fun h' hk=>?_
  exact wN (hend xi _ j (hup _ xi s' h' hIX hpn Y' it hk))
noncomputable def aAt (l:Ab) (k:Str):Option (Str × Int × List Str):=l.find? fun p=>decide (p.1 = k)
noncomputable def aNp (l:Ab) (k:Str):Int:=((aAt l k).map (·.2.1)).getD 0
noncomputable def Ez1 (l:Ab) (k:Str):List Str:=((aAt l k).map (·.2.2)).getD []
theorem Zj0 {l:Ab} (h:(l.map (·.1)).Nodup) {p:Str × Int × List Str} (hp:p ∈ l):aAt l p.1 = some p:=by
 unfold aAt
 induction l with
 | nil=>cases hp
 | cons q r ih =>
  rw [List.map_cons,List.nodup_cons] at h
  rcases List.mem_cons.mp hp with rfl | hp
  ·rw [List.find?_cons_of_pos (by simp)]
  ·rw [List.find?_cons_of_neg (by simp only [decide_eq_true_eq]; intro q'; exact h.1 (q' ▸ List.mem_map.mpr ⟨p,hp,rfl⟩))]
   exact ih h.2 hp
theorem Zk0 {x:Srt} (a:x.At w h) {d:Nd} (hd:d ∈ x.nds):aAt x.abs d.key = some (d.key,d.np,d.succ) :=
 Zj0 (l:=x.abs) (by rw [Dk0]; exact a.nodupK) (Oh0 hd)
noncomputable def Fx0 (S:Ab × List Str) (k:Str):Ab × List Str :=
 (Iu0 S.1 k fun q=>(q.1 - 1,q.2),if aNp (Iu0 S.1 k fun q=>(q.1 - 1,q.2)) k = 0 then S.2 ++ [k] else S.2)
noncomputable def Dw0 (S:Ab × List Str) (k:Str):Ab × List Str:=(Ez1 S.1 k).foldl Fx0 (Iu0 S.1 k fun q=>(-2,q.2),S.2)
noncomputable def sh (l:Ab):List (Str × List Str):=l.map fun p=>(p.1,p.2.2)
theorem Zl0 (l:Ab) (k:Str) (f:Int × List Str→Int × List Str) (hf:∀ q,(f q).2 = q.2):sh (Iu0 l k f) = sh l:=by
 unfold sh Iu0
 rw [List.map_map]
 apply List.map_congr_left
 intro p _
 simp only [Function.comp_apply]
 split
 ·simp [hf]
 ·rfl
theorem Uz0 (r:List Str):∀ S,sh (r.foldl Fx0 S).1 = sh S.1:=by
 induction r with
 | nil=>intro S; rfl
 | cons k r ih=>intro S; rw [List.foldl_cons,ih]; exact Zl0 S.1 k (fun q=>(q.1 - 1,q.2)) fun _=>rfl
theorem Zm0 (S:Ab × List Str) (k:Str):sh (Dw0 S k).1 = sh S.1:=by
 unfold Dw0; rw [Uz0]; exact Zl0 S.1 k (fun q=>(-2,q.2)) fun _=>rfl
theorem Va0 (r:List Str):∀ S,sh (r.foldl Dw0 S).1 = sh S.1:=by
 induction r with
 | nil=>intro S; rfl
 | cons k r ih=>intro S; rw [List.foldl_cons,ih]; exact Zm0 _ _
theorem Rc0 (r:List Str):∀ S:Ab × List Str,(r.foldl Fx0 S).2.length ≤ S.2.length + r.length:=by
 induction r with
 | nil=>intro S; exact Nat.le_refl _
 | cons k r ih =>
  intro S
  rw [List.foldl_cons]
  have h1:=ih (Fx0 S k)
  have h2:(Fx0 S k).2.length ≤ S.2.length + 1:=by unfold Fx0; simp only; split <;> simp
  rw [List.length_cons]; lia
theorem Gn1 {l l':Ab} (h:sh l = sh l'):l.map (·.1) = l'.map (·.1):=by
 have:=congrArg (List.map Prod.fst) h
 simpa [sh,Function.comp_def] using this
theorem Zn0 {l l':Ab} (h:sh l = sh l') {e:Str × Int × List Str} (he:e ∈ l):∃ e' ∈ l',e'.1 = e.1∧e'.2.2 = e.2.2:=by
 have:(e.1,e.2.2) ∈ sh l':=h ▸ List.mem_map.mpr ⟨e,he,rfl⟩
 obtain ⟨e',h1,h2⟩:=List.mem_map.mp this
 exact ⟨e',h1,(Prod.mk.inj h2).1,(Prod.mk.inj h2).2⟩
theorem Zo0 {n:Nat} (r:List Str):∀ S:Ab × List Str,(∀ e ∈ S.1,e.2.2.length ≤ n)→(r.foldl Dw0 S).2.length ≤ S.2.length + r.length * n:=by
 induction r with
 | nil=>intro S _; simp
 | cons k r ih =>
  intro S hS
  rw [List.foldl_cons]
  have h1:=ih (Dw0 S k) fun e he=>by
   obtain ⟨e',h1,_,h3⟩:=Zn0 (Zm0 S k) he
   rw [← h3]; exact hS e' h1
  have h2:(Dw0 S k).2.length ≤ S.2.length + n:=by
   have h3:=Rc0 (Ez1 S.1 k) (Iu0 S.1 k fun q=>(-2,q.2),S.2)
   have h4:(Ez1 S.1 k).length ≤ n:=by
    unfold Ez1
    cases q:aAt S.1 k with
    | none=>simp
    | some e=>exact hS e (List.mem_of_find?_eq_some q)
   unfold Dw0
   simp only at h3
   lia
  rw [List.length_cons,Nat.succ_mul]; lia
structure DInv (x xi:Srt) (b:Addr) (S:Ab × List Str) (fin:Int):Prop where
 abs:xi.abs = S.1
 R:xi.R = some (b,S.2)
 T:xi.T = x.T
 N:xi.N = x.N
 po:xi.po = x.po
 fin:xi.fin = fin
 adr:xi.addrs = x.addrs
theorem Srt.mod_nd {x:Srt} {d:Nd} {f:Nd→Nd} (h:d ∈ x.nds):(if d.key = k then f d else d) ∈ (x.mod k f).nds:=List.mem_map.mpr ⟨d,h,rfl⟩
theorem Dg1 (w:World) (x:Srt) (p:Addr × List Str) (ks:List Str) (hR:x.R = some p) (hk:∀ i k,ks[i]? = some k→∃ e ∈ ((ks.take i).foldl Dw0 (x.abs,p.2)).1,e.1 = k∧e.2.1 = -1)
  (hs:∀ e ∈ x.abs,e.2.2.length ≤ 100∧∀ s ∈ e.2.2,s ∈ x.abs.map (·.1)) (hl:ks.length ≤ 100) (hp:p.2.length ≤ 100) :
  Mth w 5 164 x (ks.map .str) (fun x' v _=>v = .none∧DInv x x' p.1 (ks.foldl Dw0 (x.abs,p.2)) (x.fin + ks.length)):=by
 intro A fs X s vs' am at_ hX rr
 have hlen:=rr.length
 rw [List.length_map] at hlen
 let sb:Shared:={ s with heap:=s.heap.push { cls:=.type "tuple",data:=.seq vs'.toArray } }
 have hext:∀ b o,s.heap.get? b = some o→sb.heap.get? b = some o:=fun b o e=>Heap.get?_push_of_some _ e
 have amb:=am.push { cls:=.type "tuple",data:=.seq vs'.toArray }
 have atb:x.At w sb.heap:=at_.keep fun a _ o e=>hext a o e
 have hfr:s.heap.objs.size ∉ x.addrs ++ X:=fun q=>by
  rcases List.mem_append.mp q with q | q
  ·obtain ⟨o,e,_⟩:=at_.has _ q; rw [Aj0] at e; cases e
  ·obtain ⟨o,e,_⟩:=am.has _ q; rw [Aj0] at e; cases e
 have rt:Rd (fz (x.addrs ++ X) sb.heap) (.ref s.heap.objs.size) (.tuple (ks.map .str)):=Rd.newTuple hfr (by simpa using rr)
 refine Kd0 (s:=sb) (sc:=s) (ps:=[oS "self",oS "nodes"]) (vs:=[.ref x.T,.ref s.heap.objs.size]) (sls:=[.raw (.ref x.T),.val (.tuple (ks.map .str))]) (lvl:=4)
  amb (atb.yok hX) (am.wd.k 164 _ (show (KF w).lookup 164 = some _ from rfl)) (codeRec_of am.wd.k (show codeIn (KF w) (.ref 163) (oS "TopologicalSorter.done") = true from rfl)) rfl (.raw (.val rt .nil)) ?_ (by decide) (by rfl) (by decide) (by rfl) (fun L=>rfl) ?_
 ·intro M A' E' Q hq
  refine Jg1 (m':=newTuple vs' >>= fun t=>pure [(oS "self",Value.ref x.T),(oS "nodes",t)]) ?_ (wB (wpAny_newTuple (wP hq) (by unfold sizeLine; lia)))
  cases vs' <;> rfl
 intro X' fs' L s1 c Q E ok S ap hkeep hX'' hks
 have Y1:SY _ x [(oS "self",.raw (.ref x.T)),(oS "nodes",.val (.tuple (ks.map .str)))] s1:=⟨S,atb.keep hkeep,ap.rho fun a _ q=>by cases q⟩
 refine Oe0 (b:=(In0 x.R == .none)) ok Y1 (fun p H okp=>Gk0 okp (Hg0 okp H (Ai0 okp rfl))) (fun hb=>by rw [hR] at hb; cases hb) fun _ s2 Y2=>wN ?_
 refine Dc0 ok Y2 (fun q H okp=>Mo0 okp H (Ai0 okp rfl)) rfl rfl rfl fun s3 Y3=>?_
 let ρ0:Rho:=[(oS "n2i",.raw (.ref x.N)),(oS "self",.raw (.ref x.T)),(oS "nodes",.val (.tuple (ks.map .str)))]
 have Y3':SY _ x ρ0 s3:=Y3
 let Si:Nat→Ab × List Str:=fun i=>(ks.take i).foldl Dw0 (x.abs,p.2)
 let J:Nat→Srt→Prop:=fun i xi=>DInv x xi p.1 (Si i) (x.fin + i)
 refine Rb0 (f:=PyData.str) (ρs:=fun _=>ρ0) (ρb:=[]) J (fun _=>False) ok Y3' (Of0 (ok.mores _) (Aa0 (ok.mores _) rfl)) ⟨rfl,hR,rfl,rfl,rfl,by simp,rfl⟩ rfl ?_ ?_ (fun _ _ h=>h.elim)
 ·intro i kk pins xi sa hkk okq D Ya E'
  have ai:=Ya.at_
  obtain ⟨e,he,he1,he2⟩:=hk i kk hkk
  rw [← D.abs] at he
  obtain ⟨d,hd,hQ153⟩:=List.mem_map.mp he; subst hQ153
  simp only at he1 he2
  subst he1
  have hi:i < ks.length:=(List.getElem?_eq_some_iff.mp hkk).1
  refine wC (wpAny_If (wpAny_isTrue_Compare1 (wpAny_NamedExpr (Az0 okq Ya (fun p H okp=>Zc0 okp H (by rw [D.N]; exact Ai0 okp rfl) (Aa0 okp rfl)) fun u sb Yb k2 hu=>?_))))
  subst hu
  have hv:Gj1 xi d.key = .ref d.I:=by unfold Gj1; rw [Gi0 ai.nodupK hd]; rfl
  rw [hv]
  refine wpAny_assign_Name (Yb.store okq rfl rfl (.inr rfl) fun sc Yc=>wpAny_Constant_none (is_none_gen (wpAny_truthy_bool ?_)))
  rw [if_neg (by intro q; cases q)]
  refine wN ?_
  refine Kg0 (d:=.int d.np) okq Yc (fun q H okp=>Gh1 okp H hd (Ai0 okp rfl)) rfl rfl rfl rfl fun sd Yd=>?_
  refine Oe0 (b:=(d.np != -1)) okq Yd (fun p H okp=>Aq0 okp (Aa0 okp rfl) (Hr0 (Bp0 okp (Me0 _) rfl) fun _ _ e=>e ▸ .int _ _) (Bq0 okp _) Pj0) (fun hb=>by rw [he2] at hb; cases hb) fun _ se Ye=>wN ?_
  refine wC (plainObj_wpAny_Assign_Attribute (Az0 okq Ye (fun q H okp=>Bp0 okp (Sr0 _) rfl) fun u sf Yf _ hu=>Az0 okq Yf (fun q H okp=>Ai0 okp rfl) fun u' sg Yg _ hu'=>?_))
  subst hu hu'
  refine Iz0 okq Yg hd fun sh' Yh=>?_
  have hf1:Nd.Same fun e=>{ e with np:=-2 }:=⟨fun _=>rfl,fun _=>rfl,fun _=>rfl,fun _=>rfl⟩
  let In:Nat→Ab × List Str:=fun j=>(d.succ.take j).foldl Fx0 (Iu0 (Si i).1 d.key fun q=>(-2,q.2),(Si i).2)
  have hshi:∀ j,Mine.sh (In j).1 = Mine.sh x.abs:=fun j=>(Uz0 _ _).trans ((Zl0 (Si i).1 d.key (fun q=>(-2,q.2)) fun _=>rfl).trans (Va0 (ks.take i) (x.abs,p.2)))
  have hexi:(d.key,d.np,d.succ) ∈ (Si i).1:=D.abs ▸ Oh0 hd
  obtain ⟨ex,hex,hex1,hex2⟩:=Zn0 (Va0 (ks.take i) (x.abs,p.2)) hexi
  simp only at hex1 hex2
  have hsl:d.succ.length ≤ 100:=hex2 ▸ (hs ex hex).1
  have hinl:∀ j,(In j).2.length ≤ 100000:=fun j=>by
   have h1:=Rc0 (d.succ.take j) (Iu0 (Si i).1 d.key fun q=>(-2,q.2),(Si i).2)
   have h2:=Zo0 (n:=100) (ks.take i) (x.abs,p.2) fun e he=>(hs e he).1
   have h3:(d.succ.take j).length ≤ 100:=by rw [List.length_take]; exact Mh1 ‹_›
   have h4:(ks.take i).length ≤ 100:=by rw [List.length_take]; grind
   have h5:(Si i).2.length ≤ 100 + 100 * 100:=by
    show ((ks.take i).foldl Dw0 (x.abs,p.2)).2.length ≤ _
    simp only at h2
    have:=Nat.mul_le_mul_right 100 h4
    lia
   simp only at h1
   show ((d.succ.take j).foldl Fx0 _).2.length ≤ _
   lia
  let J2:Nat→Srt→Prop:=fun j y=>DInv x y p.1 (In j) (x.fin + i)∧∃ d' ∈ y.nds,d'.L = d.L∧d'.succ = d.succ
  refine Gm1 (b:=d.L) (ys:=d.succ) J2 okq Yh (fun q H okp=>?_) ?_ ?_ rfl rfl ?_ ?_
  ·exact Tj0 (d:={ d with np:=-2 }) okp H (by have:=Srt.mod_nd (k:=d.key) (f:=fun e=>{ e with np:=-2 }) hd; rwa [if_pos rfl] at this) (Ai0 okp rfl)
  ·rintro j y h ⟨_,d',hd',h1,h2⟩ a
   rw [← h1,← h2]; exact (a.nd d' hd').2.2
  ·refine ⟨⟨?_,D.R,D.T,D.N,D.po,D.fin,(Srt.mod_addrs hf1).trans D.adr⟩,{ d with np:=-2 },(by have:=Srt.mod_nd (k:=d.key) (f:=fun e=>{ e with np:=-2 }) hd; rwa [if_pos rfl] at this),rfl,rfl⟩
   rw [Ki0 (g:=fun q=>(-2,q.2)) (fun e he hk=>rfl),D.abs]
   rfl
  ·rintro j k pins2 y s' hj okr ⟨Dy,d',hd',hd1,hd2⟩ Yi E2
   let c2:Cx:=(c.pins pins).pins pins2
   have okr:CxOk c2:=okr
   have Yi:SY c2 _ _ _:=Yi
   show wpAny (MM c2.w) c2.A (execs _ c2.env) _ _ _
   have hkm:k ∈ y.nds.map (·.key):=by
    rw [← Dk0,Dy.abs,Gn1 (hshi j)]
    exact (hs ex hex).2 k (hex2 ▸ List.mem_of_getElem? hj)
   obtain ⟨d2,hdd2,hQ154⟩:=List.mem_map.mp hkm; subst hQ154
   refine Dc0 okr Yi (fun q H okp=>Oc0 okp H hdd2 (by rw [Dy.N]; exact Ai0 okp rfl) (Aa0 okp rfl)) rfl rfl rfl fun sj Yj=>?_
   refine wC (wpAny_AugAssign_AttributeAny (Az0 okr Yj (fun p H okp=>Ai0 okp rfl) fun u s5 Y5 _ hu=>?_))
   subst hu
   obtain ⟨⟨t5,u5,e5⟩,e5',_⟩:=Y5.at_.nd d2 hdd2
   refine Ke0 (Y5.st.amb (okr.mores _)).wd.k ⟨e5,rfl,rfl,e5'⟩ (Ln1 _ _) (Gf1 _) (s86 _) (g86 _).1 (g86 _).2.1 (g86 _).2.2 (v:=.int d2.np u5) rfl rfl ?_
   have Y6:=Y5.step okr (.toks _ (s5.toks + 1)) (Nat.succ_pos _)
   refine Bu0 okr Y6 (fun p H okp=>Ar0) fun u s7 Y7 _ hu=>?_
   obtain ⟨t7,hQ155⟩:=hu.int_inv; subst hQ155
   refine PySem.P.isub_int ?_
   have Y8:=Y7.step okr (.toks _ (s7.toks + 1)) (Nat.succ_pos _)
   refine Iz0 okr Y8 hdd2 fun s9 Y9=>?_
   have hf9:Nd.Same fun e=>{ e with np:=d2.np - 1 }:=⟨fun _=>rfl,fun _=>rfl,fun _=>rfl,fun _=>rfl⟩
   have hd3:({ d2 with np:=d2.np - 1 }:Nd) ∈ (y.mod d2.key fun e=>{ e with np:=d2.np - 1 }).nds:=by
    have:=Srt.mod_nd (k:=d2.key) (f:=fun e=>{ e with np:=d2.np - 1 }) hdd2
    rwa [if_pos rfl] at this
   have hab:(y.mod d2.key fun e=>{ e with np:=d2.np - 1 }).abs = Iu0 (In j).1 d2.key fun q=>(q.1 - 1,q.2):=by
    rw [Ki0 (g:=fun q=>(q.1 - 1,q.2)) (fun e he hk=>by have:=Tk0 Yi.at_.nodupK he hdd2 hk; subst this; rfl),Dy.abs]
   have hnp:aNp (Iu0 (In j).1 d2.key fun q=>(q.1 - 1,q.2)) d2.key = d2.np - 1:=by
    rw [← hab]; unfold aNp
    have:=Zk0 Y9.at_ hd3
    simp only at this
    rw [this]; rfl
   have hdk:∃ d'' ∈ (y.mod d2.key fun e=>{ e with np:=d2.np - 1 }).nds,d''.L = d.L∧d''.succ = d.succ:=by
    refine ⟨_,Srt.mod_nd (k:=d2.key) (f:=fun e=>{ e with np:=d2.np - 1 }) hd',?_⟩
    split <;> exact ⟨hd1,hd2⟩
   have hin:In (j + 1) = Fx0 (In j) d2.key:=by
    show (d.succ.take (j + 1)).foldl Fx0 _ = _
    rw [List.take_add_one,hj,List.foldl_append]
    rfl
   have hado:(y.mod d2.key fun e=>{ e with np:=d2.np - 1 }).addrs = x.addrs:=(Srt.mod_addrs hf9).trans Dy.adr
   have hRo:(y.mod d2.key fun e=>{ e with np:=d2.np - 1 }).R = some (p.1,(In j).2):=Dy.R
   have hTo:(y.mod d2.key fun e=>{ e with np:=d2.np - 1 }).T = x.T:=Dy.T
   have hNo:(y.mod d2.key fun e=>{ e with np:=d2.np - 1 }).N = x.N:=Dy.N
   have hpo:(y.mod d2.key fun e=>{ e with np:=d2.np - 1 }).po = x.po:=Dy.po
   have hfo:(y.mod d2.key fun e=>{ e with np:=d2.np - 1 }).fin = x.fin + i:=Dy.fin
   generalize (y.mod d2.key fun e=>{ e with np:=d2.np - 1 }) = z at Y9 hd3 hab hdk hado hRo hTo hNo hpo hfo
   refine Oe0 (b:=(d2.np - 1 == 0)) okr Y9 (fun p H okp=>Aq0 okp (Gh1 (d:={ d2 with np:=d2.np - 1 }) okp H hd3 (Ai0 okp rfl)) Ar0 (Bq0 okp _) Gp0) (fun hb s10 Y10=>?_) (fun hb s10 Y10=>?_)
   ·have hb0:d2.np - 1 = 0:=by simpa using hb
    refine Ra0 (x':={ z with R:=some (p.1,(In j).2 ++ [d2.key]) }) (b:=p.1) (ys:=(In j).2) (y:=d2.key) okr Y10 (fun q H okp=>Hr0 (Hg0 okp H (by rw [hTo]; exact Ai0 okp rfl)) fun _ _ e=>by rw [e,hRo]; rfl) (fun q H okp=>Aa0 okp rfl) (Srt.mem_r (p:=(p.1,(In j).2)) hRo) (fun h a=>a.r (p.1,(In j).2) hRo) (hinl j) (fun h h' a hs hL=>a.setRs (p:=(p.1,(In j).2)) hRo hs hL) (by unfold Srt.addrs; rw [hRo]; rfl) fun s11 Y11=>wN (wN ⟨.inl rfl,_,Y11.drop ?_,⟨?_,?_,hTo,hNo,hpo,hfo,?_⟩,hdk⟩)
    ·exact .cons rfl (.cons rfl (.cons rfl (.cons rfl (.cons rfl (.cons rfl .nil)))))
    ·rw [hin]; exact hab
    ·rw [hin]; unfold Fx0; simp only [hnp,hb0,if_true]
    ·rw [← hado]; unfold Srt.addrs; rw [hRo]; rfl
   ·have hb0:¬ d2.np - 1 = 0:=by simpa using hb
    refine wN (wN ⟨.inl rfl,_,Y10.drop ?_,⟨?_,?_,hTo,hNo,hpo,hfo,hado⟩,hdk⟩)
    ·exact .cons rfl (.cons rfl (.cons rfl (.cons rfl (.cons rfl (.cons rfl .nil)))))
    ·rw [hin]; exact hab
    ·rw [hin]; unfold Fx0; simp only [hnp,hb0,if_false]; exact hRo
  ·rintro y s' ⟨Dy,_⟩ Yi
   have hInS:In d.succ.length = Si (i + 1):=by
    show (d.succ.take d.succ.length).foldl Fx0 _ = (ks.take (i + 1)).foldl Dw0 _
    rw [List.take_length,List.take_add_one,hkk,List.foldl_append]
    show _ = Dw0 (Si i) d.key
    unfold Dw0
    have:Ez1 (Si i).1 d.key = d.succ:=by rw [← D.abs]; unfold Ez1; rw [Zk0 ai hd]; rfl
    rw [this]
   rw [hInS] at Dy
   refine wC (wpAny_AugAssign_AttributeAny (Az0 okq Yi (fun p H okp=>Ai0 okp rfl) fun u s6 Y6 _ hu=>?_))
   subst hu
   obtain ⟨t1,t2,t3,t4,ep,u3,u4,e⟩:=Y6.at_.dt
   have et:=Y6.at_.t
   refine get_value (x:=x.T) (Y6.st.amb (okq.mores _)).wd.k ⟨Dy.T ▸ et,rfl,rfl,e⟩ (plainGet_of (Th0 w (oS "_nfinished"))).1 (findObj_own (od:=dictOf _ ep) (v:=.int y.fin u4) (Wx0 w) (f4 w) rfl ((lookIn_dict _ _ ep).trans rfl)) rfl ?_
   have Y7:=Y6.step okq (.toks _ (s6.toks + 1)) (Nat.succ_pos _)
   refine Bu0 okq Y7 (fun p H okp=>Ar0) fun u s8 Y8 _ hu=>?_
   obtain ⟨t,hQ156⟩:=hu.int_inv; subst hQ156
   refine iadd_int ?_
   have Y9:=Y8.step okq (.toks _ (s8.toks + 1)) (Nat.succ_pos _)
   have hTx:Value.ref x.T = .ref y.T:=by rw [Dy.T]
   rw [hTx]
   refine Ux0 (x:=y) (po:=y.po) (fin:=y.fin + 1) okq Y9 (by rfl) (fun _ _ _ _ _ _=>by rfl) (fun _ _ _ _ _ _ _ _ _=>⟨_,_,by rfl,by rfl⟩) fun s10 Y10=>wN ?_
   have Ye:SY _ _ ρ0 s10:=Y10.drop (.cons rfl (.cons rfl (.cons rfl .nil)))
   refine ⟨_,Ye,⟨Dy.abs,Dy.R,Dy.T,Dy.N,Dy.po,?_,Dy.adr⟩⟩
   show y.fin + 1 = _
   rw [Dy.fin]; push_cast; simp +arith
 ·intro xz sz D Yz
  refine wN ⟨.none,xz,rfl,Ey1 Yz.st.since hext rfl rfl ok.tab,Yz.at_,fun a ha=>by rw [D.adr]; exact ha,fun a ha=>.inl (by rw [← D.adr]; exact ha),rfl,?_⟩
  have:=D
  simpa [J,Si,List.take_length] using this
namespace Wr
theorem slot_ga:PySem.Slot "list_iterator" "__getattribute__" "object.__getattribute__" :=
 .of (owner := "object") (n := "__getattribute__") (by rw [typeLookup_type,builtinLookup_eq_fast]; kernel_rfl) (by decide +kernel) (by decide +kernel) (by decide +kernel)
  (by first | exact .inl (by decide +kernel) | exact .inr (by decide +kernel)) (by rw [isSubtype_type]; kernel_rfl)
theorem args_ga (a b:Value):argsOk "object.__getattribute__" ⟨[a,b],[]⟩:=by unfold argsOk; kernel_rfl
theorem entry_ga:entryFor table "object.__getattribute__" = some Builtin.«object.__getattribute__»:=entryFor_of_tree (by kernel_rfl)
theorem slot_wd_get:PySem.Slot "wrapper_descriptor" "__get__" "wrapper_descriptor.__get__" :=
 .of (owner := "wrapper_descriptor") (n := "__get__") (by rw [typeLookup_type,builtinLookup_eq_fast]; kernel_rfl) (by decide +kernel) (by decide +kernel) (by decide +kernel)
  (by first | exact .inl (by decide +kernel) | exact .inr (by decide +kernel)) (by rw [isSubtype_type]; kernel_rfl)
theorem wd_noset:typeLookup (.type "wrapper_descriptor") "__set__" = pure none:=by rw [typeLookup_type,builtinLookup_eq_fast]; kernel_rfl
theorem wd_nodel:typeLookup (.type "wrapper_descriptor") "__delete__" = pure none:=by rw [typeLookup_type,builtinLookup_eq_fast]; kernel_rfl
theorem entry_wd_get:entryFor table "wrapper_descriptor.__get__" = some Builtin.«wrapper_descriptor.__get__»:=entryFor_of_tree (by kernel_rfl)
theorem args_wd_get (a b c:Value):argsOk "wrapper_descriptor.__get__" ⟨[a,b,c],[]⟩:=by unfold argsOk; kernel_rfl
theorem type_next:typeOf (.builtin "list_iterator.__next__") = pure (.type "wrapper_descriptor"):=by kernel_rfl
theorem lk_next:typeLookup (.type "list_iterator") "__next__" = pure (some (.builtin "list_iterator.__next__")):=slot_listiter_next.lookup
theorem owner_next:(".".intercalate ("list_iterator.__next__".cutAt '.').dropLast) = "list_iterator" := by
 have e0 : "list_iterator.__next__".cutAt '.' = ["list_iterator", "__next__"]:=by first | rfl | decide +kernel
 rw [e0]; decide +kernel
theorem sub_li:isSubtype (.type "list_iterator") (.type "list_iterator") = pure true:=by rw [isSubtype_type]; kernel_rfl
end Wr
noncomputable abbrev Bv0 (I:Addr):Obj:={ cls:=.type "method-wrapper",data:=.fields #[.builtin "list_iterator.__next__",.ref I] }
section
variable {prog:Program} {g:Array GenState} {d:Drawn} {t:Nat} {os:OsState} {o:Obj}
theorem Ji1 (hx:h.get? a = some o) (hc:o.cls = .type "list_iterator") (hq:R (.ok (.ret (.ref h.objs.size))) ⟨h.push (Bv0 a),g,d,t,os⟩) :
  codeAny (model prog w) A (.call (.builtin "wrapper_descriptor.__get__") ⟨[.builtin "list_iterator.__next__",.ref a,.type "list_iterator"],[]⟩) R ⟨h,g,d,t,os⟩:=by
 have hT:(⟨h,g,d,t,os⟩:Shared).TypeIs (.ref a) "list_iterator" := ⟨_,hx,hc⟩
 have hT5:(⟨h,g,d,t,os⟩:Shared).TypeIs (.builtin "list_iterator.__next__") "wrapper_descriptor" := Wr.type_next
 have f8:isSubtype (.type "list_iterator") (.type (".".intercalate ("list_iterator.__next__".cutAt '.').dropLast)) = pure true:=by rw [Wr.owner_next]; exact Wr.sub_li
 refine codeAny_call_builtin Wr.slot_wd_get.plain Wr.entry_wd_get (Wr.slot_wd_get.check _ _ _ _ _ _ _ _ hT5 (Wr.args_wd_get _ _ _) ?_)
 repeat (any_goals (first | assumption | wp_step))
theorem Dh1 {tk:Tok} {Q:Fin→Shared→Prop} {vs:Array Value} {sl:Array (Option Value)} (hx:h.get? a = some ⟨.type "list_iterator",none,.fields vs,sl⟩) (hq:Q (.done (.ret (.ref h.objs.size))) ⟨h.push (Bv0 a),g,d,t,os⟩) :
  wpAny (model prog w) A (Builtin.«object.__getattribute__» ⟨[.ref a,.str "__next__" tk],[]⟩) Q E ⟨h,g,d,t,os⟩:=by
 have hT:(⟨h,g,d,t,os⟩:Shared).TypeIs (.ref a) "list_iterator" := ⟨_,hx,rfl⟩
 have hT5:(⟨h,g,d,t,os⟩:Shared).TypeIs (.builtin "list_iterator.__next__") "wrapper_descriptor" := Wr.type_next
 have f4:=Wr.lk_next
 have f5:=Wr.type_next
 have f6:=Wr.slot_wd_get.lookup
 have f7:=Wr.wd_noset
 have f8:=Wr.wd_nodel
 repeat (any_goals (first | assumption | wp_step))
 refine Ji1 hx rfl ?_
 repeat (any_goals (first | assumption | wp_step))
theorem Go1 {tk:Tok} {vs:Array Value} {sl:Array (Option Value)} (hx:h.get? a = some ⟨.type "list_iterator",none,.fields vs,sl⟩) (hq:R (.ok (.ret (.ref h.objs.size))) ⟨h.push (Bv0 a),g,d,t,os⟩) :
  codeAny (model prog w) A (.call (.builtin "object.__getattribute__") ⟨[.ref a,.str "__next__" tk],[]⟩) R ⟨h,g,d,t,os⟩ :=
 codeAny_call_builtin Wr.slot_ga.plain Wr.entry_ga (Wr.slot_ga.check _ _ _ _ _ _ _ _ (show (⟨h,g,d,t,os⟩:Shared).TypeIs (.ref a) "list_iterator" from ⟨_,hx,rfl⟩) (Wr.args_ga _ _) (Dh1 hx hq))
theorem Lt1 {tk:Tok} {b1 b2:Bool} {Q:Value→Shared→Prop} {vs:Array Value} {sl:Array (Option Value)} (hx:h.get? a = some ⟨.type "list_iterator",none,.fields vs,sl⟩) (hq:Q (.ref h.objs.size) ⟨h.push (Bv0 a),g,d,t,os⟩):wpAny (model prog w) A (getAttrBy (.ref a) (.str "__next__" tk) b1 b2) Q E ⟨h,g,d,t,os⟩:=by
 have hT:(⟨h,g,d,t,os⟩:Shared).TypeIs (.ref a) "list_iterator" := ⟨_,hx,rfl⟩
 have f2:=Wr.slot_ga.lookup
 have f3:=Wr.slot_ga.bind (.ref a)
 repeat (any_goals (first | assumption | wp_step))
 rw [if_neg (by cases b2 <;> (intro q; cases q))]
 unfold boundAndCalled
 repeat (any_goals (first | assumption | wp_step))
 refine Go1 hx ?_
 repeat (any_goals (first | assumption | wp_step))
theorem Gp1 {b1:Bool} {Q:Value→Shared→Prop} {vs:Array Value} {sl:Array (Option Value)} (hx:s.heap.get? a = some ⟨.type "list_iterator",none,.fields vs,sl⟩) (hq:Q (.ref s.heap.objs.size) { s with heap:=s.heap.push (Bv0 a),toks:=s.toks + 1 }):wpAny (model prog w) A (getAttr (.ref a) "__next__" b1) Q E s:=by
 obtain ⟨h,g,d,t,os⟩:=s
 unfold getAttr
 repeat (any_goals (first | assumption | with_reducible apply Lt1 hx | wp_step))
end
theorem Ls0 {l:Addr} {vs:Array Value} {Q:Value→Shared→Prop} (hl:s.heap.IsList l vs)
  (hq:Q (.ref s.heap.objs.size) { s with heap:=s.heap.push { cls:=.type "list_iterator",data:=.fields #[.ref l,.int 0 0] } }):wpAny (MM w) A (call (.builtin "iter") [.ref l]) Q E s:=by
 refine call_function_entry (by decide +kernel) (by decide +kernel) kdk_entry_iter (kdk_args_iter _) ?_
 delta Builtin.«iter»
 refine wB (m:=someArgs "iter" 1 2 _) (wpAny_of_eq (a:=[Value.ref l]) (by first | rfl | kernel_rfl!) ?_)
 show wpAny _ _ (pyIter (.ref l) >>= _) _ _ _
 exact wB (wpAny_pyIter_list hl (wP ⟨_,rfl,hq⟩))
section
theorem Rd0 {u:Addr} {Q:Value→Shared→Prop} (ho:s.heap.get? u = some (Bv0 I))
  (h:∀ (A':Around) (P:Fin→Shared→Prop) (E':Value→Shared→Prop),A'.handled = A.handled→(∀ v s',Q v s'→P (.done (.ret v)) s')→(∀ v s',E v s'→E' v s')→wpAny (MM w) A' (Builtin.«list_iterator.__next__» ⟨[.ref I],[]⟩) P E' s):wpAny (MM w) A (call (.ref u) []) Q E s:=by
 refine wpAny_call (codeAny_of_tree ?_)
 show wpAny _ A.in1 (callAny (.ref u) ⟨[],[]⟩) _ _ s
 simp -iota only [callAny]
 refine wB (wpAny_load ho ?_)
 simp -iota only [Bv0,show (Value.type "method-wrapper" == Value.type "method" || Value.type "method-wrapper" == Value.type "builtin_function_or_method" || Value.type "method-wrapper" == Value.type "method-wrapper") = true by decide,if_true]
 show wpAny _ A.in1 (if (Value.type "method-wrapper" != Value.type "method") = true then do
     checkBoundCall "list_iterator.__next__" { pos:=[.ref I] }
     again (Code.builtin "list_iterator.__next__" { pos:=[.ref I] })
    else again (Code.call (.builtin "list_iterator.__next__") { pos:=[.ref I] })) _ _ s
 rw [if_pos (by decide)]
 refine wB ?_
 have hc:checkBoundCall "list_iterator.__next__" { pos:=[.ref I] } = pure ():=by
  delta checkBoundCall
  kernel_rfl
 refine wpAny_of_eq hc ?_
 refine wB (wP (wP ?_))
 exact ⟨Code.quiet_builtin _ (by decide +kernel),codeAny_builtin entry_listiter_next (h _ _ _ rfl (fun v s' q=>q) (fun v s' q=>q))⟩
theorem Hh0 {u:Addr} {Q:Value→Shared→Prop} (ho:s.heap.get? u = some (Bv0 I))
  (h:wpAny (MM w) A (call (.ref u) []) Q E s):wpAny (MM w) A (callWith pos (.ref u) [] [] []) Q E s:=by
 delta callWith
 refine wB (wpAny_holding (evalArgs_nil3 (wB (wpAny_standAt ?_))))
 simp -iota only [List.any_nil,Bool.or_false]
 refine wB (m:=keeperOf (.ref u)) ?_
 delta keeperOf
 refine wB (wpAny_load ho ?_)
 simp -iota only [Bv0,show (Value.type "method-wrapper" != Value.type "method") = true by decide,show (Value.type "method-wrapper" == Value.type "builtin_function_or_method" || Value.type "method-wrapper" == Value.type "method-wrapper") = true by decide,if_true,Bool.and_true]
 refine wP ?_
 exact wB (wM h (fun r s₂ hr=>wB (wpAny_holding (wpAny_point (wP hr)))) fun _ _ x=>x)
theorem Zp0 {it l:Addr} {i:Nat} {items:Array Value} {x:Value} {Q:Fin→Shared→Prop} (hit:s.heap.IsListIter it l i) (hl:s.heap.IsList l items) (hx:items[i]? = some x)
  (hQ:∀ h',h'.IsListIter it l (i + 1)→Heap.SameBut it s.heap h'→Q (.done (.ret x)) { s with heap:=h' }):wpAny (MM w) A (Builtin.«list_iterator.__next__» ⟨[.ref it],[]⟩) Q E s:=by
 obtain ⟨o,ho,hc,hd⟩:=id hit
 obtain ⟨ol,hol,_,nl,hdl⟩:=hl
 show wpAny _ _ (field (.ref it) 0 >>= _) _ _ s
 refine wB (wpAny_field ho hd (x:=.ref l) rfl ?_)
 show wpAny _ _ (if (Value.ref l == Value.none) = true then _ else _) _ _ s
 rw [if_neg (show ¬ ((Value.ref l == Value.none) = true) from Bool.false_ne_true)]
 show wpAny _ _ (field (.ref it) 1 >>= _) _ _ s
 refine wB (wpAny_field ho hd (x:=.int i 0) rfl ?_)
 show wpAny _ _ (seqItems? (.ref l) >>= _) _ _ s
 refine wB (wpAny_seqItems hol hdl ?_)
 conv=>arg 3; simp only [Int.toNat_natCast,hx]
 refine wB (wpAny_setField ho hd (by simp) (wP (hQ _ ?_ (Heap.SameBut.update ..))))
 exact ⟨_,Heap.get?_update_self _ ho (Obj.isFreed_of_fields (Obj.data_mapFields hd _)),(Obj.cls_mapFields ..).trans hc,by
  rw [Obj.data_mapFields hd]; simp [rawInt]⟩
theorem Di1 {it l:Addr} {i:Nat} {items:Array Value} {Q:Fin→Shared→Prop} (hh:A.handled = none) (hit:s.heap.IsListIter it l i) (hl:s.heap.IsList l items) (hx:items[i]? = none)
  (hQ:∀ h1 h' e ob vs,Heap.SameBut it s.heap h1→(∀ b o,h1.get? b = some o→h'.get? b = some o)→h1.get? e = none→h'.get? e = some ob→ob.cls = .type "StopIteration" → ob.data = .fields vs→vs[1]? = some .none→vs[2]? = some .none→E (.ref e) { s with heap:=h' }):wpAny (MM w) A (Builtin.«list_iterator.__next__» ⟨[.ref it],[]⟩) Q E s:=by
 obtain ⟨o,ho,hc,hd⟩:=id hit
 obtain ⟨ol,hol,_,nl,hdl⟩:=hl
 show wpAny _ _ (field (.ref it) 0 >>= _) _ _ s
 refine wB (wpAny_field ho hd (x:=.ref l) rfl ?_)
 show wpAny _ _ (if (Value.ref l == Value.none) = true then _ else _) _ _ s
 rw [if_neg (show ¬ ((Value.ref l == Value.none) = true) from Bool.false_ne_true)]
 show wpAny _ _ (field (.ref it) 1 >>= _) _ _ s
 refine wB (wpAny_field ho hd (x:=.int i 0) rfl ?_)
 show wpAny _ _ (seqItems? (.ref l) >>= _) _ _ s
 refine wB (wpAny_seqItems hol hdl ?_)
 conv=>arg 3; simp only [Int.toNat_natCast,hx]
 refine wB (wpAny_rule (wB (wpAny_setField ho hd (by simp) ?_)))
 show wpAny _ _ (newExc (.type "StopIteration") [] >>= _) _ _ _
 refine wB ?_
 simp -iota only [newExc,newTuple]
 refine wB (wpAny_newObj_type ?_ (by size_fits))
 refine wB (m:=firstArgMember _ _) (wpAny_of_eq (a:=Value.none) (by first | rfl | (simp -iota only [firstArgMember]; rfl)) ?_)
 refine wpAny_newObj_type ?_ (by size_fits)
 refine wpAny_raiseNew_none hh ?_
 refine hQ _ _ _ _ _ (Heap.SameBut.update ..) (fun b o e=>Heap.get?_push_of_some _ (Heap.get?_push_of_some _ e)) ?_ (Heap.get?_push_size _ rfl) rfl rfl ?_ ?_
 ·cases q:(s.heap.update it (Obj.mapFields (·.setIfInBounds 0 Value.none))).get? ((s.heap.update it (Obj.mapFields (·.setIfInBounds 0 Value.none))).push { cls:=.type "tuple",data:=.seq (#[]:Array Value) }).objs.size with
  | none=>rfl
  | some o =>
   exfalso
   have h1:=Heap.lt_size q
   have h2:((s.heap.update it (Obj.mapFields (·.setIfInBounds 0 Value.none))).push { cls:=.type "tuple",data:=.seq (#[]:Array Value) }).objs.size = (s.heap.update it (Obj.mapFields (·.setIfInBounds 0 Value.none))).objs.size + 1:=by simp [Heap.push]
   rw [h2] at h1
   exact Nat.lt_irrefl _ (Nat.lt_of_succ_lt h1)
 ·rfl
 ·rfl
theorem Jj1:isSubtype (.type "StopIteration") (.type "BaseException") = pure true:=by rw [isSubtype_type]; kernel_rfl
theorem Jk1:isSubtype (.type ((Manifest.find? "StopIteration").elim "type" fun x=>x.metatype)) (.type "tuple") = pure false:=by
 first | (rw [isSubtype_type]; kernel_rfl) | (rw [Manifest.find?_eq_fast,isSubtype_type]; kernel_rfl) | rfl
theorem To0 {e T:Addr} {oe oT:Obj} {vs ts:Array Value} {hpos:Pos} {b₀:Stmt} {suite:List Stmt} {rest:List ExceptHandler} (ok:CxOk c) (S:St c ρ s) (hl:Nat.ble 2 c.lvl = true)
  (hx:c.env.kindOf (oS "StopIteration") = some .globalImplicit)
  (he:s.heap.get? e = some oe) (hc:oe.cls = .type "StopIteration") (hd:oe.data = .fields vs) (h1:vs[1]? = some (.ref T)) (h2:vs[2]? = some .none) (hT:s.heap.get? T = some oT) (hdT:oT.data = .fields ts) (h3:ts[3]? = some .none) (hTt:T ≠ tA)
  (hE:PassesOwnAt (MM c.w) (c.A.mark (some (.ref e))) c.A c.env E)
  (hq:∀ s',St ((c.mark e).pins fun p=>c.pin p ∨ p = (e,oe)) ρ s'→Kp c.fs s s'→wpAny (MM ((c.mark e).pins fun p=>c.pin p ∨ p = (e,oe)).w) ((c.mark e).pins fun p=>c.pin p ∨ p = (e,oe)).A (execs (b₀ :: suite) ((c.mark e).pins fun p=>c.pin p ∨ p = (e,oe)).env) Q E s') :
  wpAny (MM c.w) c.A (handleBy (.ref e) c.env (.ExceptHandler (some (.Name (oS "StopIteration") np)) none (b₀ :: suite) hpos :: rest)) Q E s:=by
 refine wpAny_handleBy_builtin (X := "StopIteration") (b:=true) Jj1 Jk1 isSubtype_stop ?_
 have okm:=ok.mark e hl
 have Sm:=S.mark e
 refine Ad0 okm (Jn0 okm hx) Sm (.refl _ _) fun v s1 S1 k1 _ hv=>?_
 have het:e ≠ tA:=fun q=>by obtain ⟨tv,tw,_⟩:=S.tab ok; rw [q,tw] at he; cases he; cases hc
 have hnf:∀ a o ws,s.heap.get? a = some o→o.data = .fields ws→a ∉ c.fs:=fun a o ws ea hda hm=>by
  obtain ⟨l,h1,h2⟩:=ok.frames
  rw [h2] at hm
  obtain ⟨en,hen,hfe⟩:=List.mem_filterMap.mp hm
  obtain ⟨_,L',o',q1,q2,⟨es,n,q3⟩,_⟩:=S.frs l h1 en hen
  rw [hfe] at q1; cases q1
  rw [ea] at q2; cases q2
  rw [hda] at q3; cases q3
 have he1:=k1.keep e oe he (hnf _ _ _ he hd) het
 have hT1:=k1.keep T oT hT (hnf _ _ _ hT hdT) hTt
 refine ⟨hv,⟨oe,he1,hc⟩,?_⟩
 rw [if_pos rfl]
 refine En0 he1 hd h1 hT1 hdT (Array.getElem?_eq_some_iff.mp h3).1 ?_
 rw [Heap.update_setField_same _ _ _ _ _ _ hT1 hdT h3]
 refine wpAny_passesOwnAt hE (hq _ (S1.pins _ (fun p hp=>hp.elim (fun q=>S1.pin p q) (fun q=>by subst q; exact he1)) fun p hp=>hp.elim (fun q=>S1.pinx p q) fun q=>?_) k1)
 subst q
 intro hm
 obtain ⟨o,eo,nf⟩:=S1.has e hm
 rw [he1] at eo; cases eo
 rcases nf with q | q
 ·exact het q
 ·exact q _ hd
end
structure FrI where
 u:Addr
 I:Addr
 L:Addr
 ix:Nat
structure Fc where
 a1:Addr
 a2:Addr
 a3:Addr
 a4:Addr
 ks:List Str
 us:List Addr
 st:List FrI
 sn:Str→Bool
 n:Nat
 dk:List Str
noncomputable abbrev Fc.Y (F:Fc):List Addr:=[F.a1,F.a2,F.a3,F.a4]
noncomputable def FrI.zs (f:FrI):List Addr:=[f.u,f.I]
noncomputable def Fc.Z (F:Fc):List Addr:=F.st.flatMap FrI.zs
structure Fc.At (w:World) (h:Heap) (F:Fc):Prop where
 l1:StrL h F.a1 F.ks
 l2:∃ vs n sl,h.get? F.a2 = some ⟨.type "list",none,.seq vs n,sl⟩∧vs.toList = F.us.map Value.ref
 l3:h.SetOf (sK w) F.a3 F.sn F.n
 l4:∃ kvs,h.DictOf (sK w) F.a4 kvs∧kvs.map (·.1) = F.dk
 it:∀ f ∈ F.st,h.get? f.u = some (Bv0 f.I)∧h.IsListIter f.I f.L f.ix
 lo:269 ≤ F.a4
theorem Fc.memZ {F:Fc} {f:FrI} (h:f ∈ F.st) {a:Addr} (ha:a ∈ f.zs):a ∈ F.Y ++ F.Z:=List.mem_append_right _ (List.mem_flatMap.mpr ⟨f,h,ha⟩)
theorem Ic0 {S:Str→Bool} {n:Nat} (x:h.SetOf (sK w) a S n) (k:∀ o,h.get? a = some o→h'.get? a = some o):h'.SetOf (sK w) a S n:=by
 obtain ⟨o,es,ep,t,e,r⟩:=x; exact ⟨o,es,ep,t,k o e,r⟩
theorem Eq0 {kvs:List (Str × Value)} (x:h.DictOf (sK w) a kvs) (k:∀ o,h.get? a = some o→h'.get? a = some o):h'.DictOf (sK w) a kvs:=by
 obtain ⟨o,es,ep,e,r⟩:=x; exact ⟨o,es,ep,k o e,r⟩
theorem Fc.At.keep {F:Fc} (a:F.At w h) (k:∀ b ∈ F.Y ++ F.Z,∀ o,h.get? b = some o→h'.get? b = some o):F.At w h' where
 l1:=a.l1.keep fun o e=>k _ (.head _) o e
 l2:=by obtain ⟨vs,n,sl,e,r⟩:=a.l2; exact ⟨vs,n,sl,k _ (.tail _ (.head _)) _ e,r⟩
 l3:=Ic0 a.l3 fun o e=>k _ (.tail _ (.tail _ (.head _))) o e
 l4:=by obtain ⟨kvs,e,r⟩:=a.l4; exact ⟨kvs,Eq0 e fun o e=>k _ (.tail _ (.tail _ (.tail _ (.head _)))) o e,r⟩
 it:=fun f hf=>by
  obtain ⟨e1,o,e2,e3⟩:=a.it f hf
  exact ⟨k _ (Fc.memZ hf (.head _)) _ e1,o,k _ (Fc.memZ hf (.tail _ (.head _))) _ e2,e3⟩
 lo:=a.lo
theorem Fc.At.locals {F:Fc}:Yg0 (F.Y ++ F.Z) fun h=>F.At w h:=fun h h' k a=>a.keep k
theorem Fc.At.has {F:Fc} (a:F.At w h):∀ b ∈ F.Y,∃ o,h.get? b = some o∧Nf b o:=by
 intro b hb
 simp only [List.mem_cons,List.not_mem_nil,or_false] at hb
 rcases hb with rfl | rfl | rfl | rfl
 ·obtain ⟨vs,n,sl,e,_⟩:=a.l1; exact ⟨_,e,.inr fun ws q=>by cases q⟩
 ·obtain ⟨vs,n,sl,e,_⟩:=a.l2; exact ⟨_,e,.inr fun ws q=>by cases q⟩
 ·obtain ⟨o,es,ep,t,e,_,d,_⟩:=a.l3; exact ⟨_,e,.inr fun ws q=>by rw [d] at q; cases q⟩
 ·obtain ⟨kvs,⟨o,es,ep,e,_,d,_⟩,_⟩:=a.l4; exact ⟨_,e,.inr fun ws q=>by rw [d] at q; cases q⟩
structure SF (c:Cx) (F:Fc) (ρ:Rho) (s:Shared):Prop where
 st:St (c.mores F.Y) ρ s
 at_:F.At c.w s.heap
 ap:Apart c ρ (F.Y ++ F.Z)
 nd:(F.Y ++ F.Z).Nodup
 pn:∀ q,c.pin q→q.1 ∉ F.Y ++ F.Z
theorem Apart.sub {Y Y':List Addr} (h:Apart c ρ Y) (hs:∀ a ∈ Y',a ∈ Y):Apart c ρ Y' :=
 ⟨fun a q=>h.new a (hs a q),fun a q=>h.loc a (hs a q),fun a q=>h.cell a (hs a q),fun a q=>h.fs a (hs a q),fun a q=>h.tab a (hs a q),fun a q=>h.own a (hs a q),fun a q=>h.x a (hs a q)⟩
theorem Apart.app {Y Y':List Addr} (h:Apart c ρ Y) (h':Apart c ρ Y'):Apart c ρ (Y ++ Y'):=by
 have key:∀ {P:Addr→Prop},(∀ a ∈ Y,P a)→(∀ a ∈ Y',P a)→∀ a ∈ Y ++ Y',P a:=fun f g a q=>(List.mem_append.mp q).elim (f a) (g a)
 exact ⟨key h.new h'.new,key h.loc h'.loc,key h.cell h'.cell,key h.fs h'.fs,key h.tab h'.tab,key h.own h'.own,key h.x h'.x⟩
section
variable {F F':Fc}
theorem SF.apY (W:SF c F ρ s):Apart c ρ F.Y:=W.ap.sub fun a q=>List.mem_append_left _ q
theorem SF.step (ok:CxOk c) (W:SF c F ρ s) (k:Kp c.fs s s') (ht:0 < s'.toks):SF c F ρ s' :=
 ⟨W.st.step (ok.mores _) k ht,Qv0 W.ap Fc.At.locals k W.at_,W.ap,W.nd,W.pn⟩
theorem Bs0 {P:Heap→Value→Prop} {Q:Value→Shared→Prop} (ok:CxOk c) (W:SF c F ρ s) (h:∀ p,(∀ q,c.pin q→p q)→CxOk (c.pins p)→Ev (c.pins p) ρ e P) (hq:∀ v s',SF c F ρ s'→Kp c.fs s s'→P s'.heap v→Q v s'):wpAny (MM c.w) c.A (eval e c.env) Q E s :=
 Ad0 (c:=c.pins (atY c F.Y s.heap)) (ok.pins _) (h _ (fun q hq=>.inl hq) (ok.pins _)) (W.st.look W.apY) (.refl _ _) fun v s' S' k _ p=>hq v s' (W.step ok k S'.toks) k p
theorem SF.put (ok:CxOk c) (W:SF c F ρ s) {b:Addr} {h':Heap} {tk:Nat} (hb:b ∈ F.Y) (hs:Heap.SameBut b s.heap h') (hY:F'.Y = F.Y) (hZ:∀ a ∈ F'.Z,a ∈ F.Z) (hn:(F'.Y ++ F'.Z).Nodup) (a:F'.At c.w h') (ht:0 < tk):SF c F' ρ { s with heap:=h',toks:=tk } :=
 have hsub:∀ a ∈ F'.Y ++ F'.Z,a ∈ F.Y ++ F.Z:=fun a q=>(List.mem_append.mp q).elim (fun q=>List.mem_append_left _ (hY ▸ q)) fun q=>List.mem_append_right _ (hZ a q)
 ⟨W.st.after ok W.apY (Kf0 hb hs (Cv0 ok W.st W.apY.tab)) (fun a q=>hY ▸ q) (fun a q=>.inl (hY ▸ q)) a.has ht,a,W.ap.sub hsub,hn,fun q hq m=>W.pn q hq (hsub _ m)⟩
theorem SF.drop (W:SF c F ρ s) (h:Sub ρ ρ'):SF c F ρ' s :=
 ⟨W.st.drop h,W.at_,W.ap.rho fun a ha q=>by
  obtain ⟨p,hp,e⟩:=List.mem_filterMap.mp q
  exact W.ap.own a ha (List.mem_filterMap.mpr ⟨_,Ag0 (h.get p hp),e⟩),W.nd,W.pn⟩
theorem SF.store {t:Tok} {Q:Unit→Shared→Prop} (ok:CxOk c) (W:SF c F ρ s) (hx:c.env.kindOf y = some .local) (hcd:(y == ("__classdict__" : Str)) = false)
  (h:∀ s',SF c F ((y,.val (.str k)) :: ρ) s'→Q () s'):wpAny (MM c.w) c.A (storeName c.env y (.str k t)) Q E s:=by
 refine W.st.storeS (ok.mores _) (.inl hx) hcd (.inl ⟨.str k,rfl,.str _ _⟩) fun s' S' _ kl=>h s' ⟨S',?_,W.ap.rho fun a ha=>W.ap.own a ha,W.nd,W.pn⟩
 exact W.at_.keep fun a ha o e=>kl a o (W.ap.loc a ha) (W.ap.cell a ha) e
theorem SF.turn (ok:CxOk c) (W:SF c F ρ s) {f:FrI} (hf:f ∈ F.st) {h':Heap} (hs:Heap.ExtBut f.I s.heap h') (hY:F'.Y = F.Y) (hZ:∀ a ∈ F'.Z,a ∈ F.Z) (hn:(F'.Y ++ F'.Z).Nodup) (a:F'.At c.w h'):SF c F' ρ { s with heap:=h' }:=by
 have hm:f.I ∈ F.Y ++ F.Z:=Fc.memZ hf (.tail _ (.head _))
 have hsub:∀ a ∈ F'.Y ++ F'.Z,a ∈ F.Y ++ F.Z:=fun a q=>(List.mem_append.mp q).elim (fun q=>List.mem_append_left _ (hY ▸ q)) fun q=>List.mem_append_right _ (hZ a q)
 have hIY:f.I ∉ F.Y:=fun q=>(List.nodup_append.mp W.nd).2.2 _ q _ (List.mem_flatMap.mpr ⟨f,hf,.tail _ (.head _)⟩) rfl
 obtain ⟨_,o,e1,e2,e3⟩:=W.at_.it f hf
 have S':St (c.mores F.Y) ρ { s with heap:=h' }:=by
  refine W.st.upd (ok.mores _) (b:=f.I) (W.ap.new _ hm) (fun a o ne e=>hs a o ne e) (W.ap.tab _ hm) (fun q=>?_) (fun o' e=>?_) (fun p hp q=>W.pn p hp (q ▸ hm)) rfl rfl W.st.toks
  ·rcases List.mem_append.mp q with q | q
   ·exact W.ap.own _ hm q
   ·rcases List.mem_append.mp q with q | q
    ·exact hIY q
    ·exact W.ap.x _ hm q
  ·rw [e1] at e; cases e
   exact ⟨(by rw [e3]; intro _ _ h; cases h),.inl (by rw [e2]; intro q; exact absurd (Value.type.inj q) (by decide))⟩
 exact ⟨hY ▸ S',a,W.ap.sub hsub,hn,fun q hq m=>W.pn q hq (hsub _ m)⟩
end
section
variable {F:Fc}
theorem Fu0 {Q:Value→Shared→Prop} (ok:CxOk c) (W:SF c F ρ s) (h:∀ p,(∀ q,c.pin q→p q)→CxOk (c.pins p)→EvD (c.pins p) ρ e d) (hq:∀ v s',SF c F ρ s'→Kp c.fs s s'→Rd (fz (c.XX ρ) s'.heap) v d→Q v s'):wpAny (MM c.w) c.A (eval e c.env) Q E s :=
 Bs0 (P:=pD c ρ d) ok W h hq
theorem Zq0 {p1 p2:Pos} {Q:Bool→Shared→Prop} (ok:CxOk c) (W:SF c F ρ s) (hx:ρ.lookup (oS "node") = some (.val (.str k))) (hy:ρ.lookup (oS "seen") = some (.raw (.ref F.a3)))
  (hq:∀ s',SF c F ρ s'→Q (F.sn k) s'):wpAny (MM c.w) c.A (isTrue (.Compare (.Name (oS "node") p1) [.In] [.Name (oS "seen") p2] pos) c.env (eval (.Compare (.Name (oS "node") p1) [.In] [.Name (oS "seen") p2] pos) c.env)) Q E s:=by
 refine wpAny_isTrue_Compare1 (Fu0 ok W (fun p _ okp=>Aa0 okp hx) fun v s1 W1 _ hv=>?_)
 obtain ⟨t,hQ157⟩:=Rd.str_inv hv; subst hQ157
 refine Bs0 ok W1 (fun p _ okp=>Ai0 okp hy) fun u s2 W2 _ hu=>?_
 subst hu
 exact wpAny_inSet_of (knd:=sK c.w) (Io0 _ _ _) rfl W2.at_.l3 (wpAny_truthy_bool (hq _ (W2.step ok (.toks _ _) (Nat.succ_pos _))))
theorem Zr0 {p1 p2:Pos} {Q:Bool→Shared→Prop} (ok:CxOk c) (W:SF c F ρ s) (hx:ρ.lookup (oS "node") = some (.val (.str k))) (hy:ρ.lookup (oS "node2stacki") = some (.raw (.ref F.a4)))
  (hk:k ∉ F.dk) (hq:∀ s',SF c F ρ s'→Q false s'):wpAny (MM c.w) c.A (isTrue (.Compare (.Name (oS "node") p1) [.In] [.Name (oS "node2stacki") p2] pos) c.env (eval (.Compare (.Name (oS "node") p1) [.In] [.Name (oS "node2stacki") p2] pos) c.env)) Q E s:=by
 refine wpAny_isTrue_Compare1 (Fu0 ok W (fun p _ okp=>Aa0 okp hx) fun v s1 W1 _ hv=>?_)
 obtain ⟨t,hQ158⟩:=Rd.str_inv hv; subst hQ158
 refine Bs0 ok W1 (fun p _ okp=>Ai0 okp hy) fun u s2 W2 _ hu=>?_
 subst hu
 obtain ⟨kvs,hd,hkv⟩:=W2.at_.l4
 refine wpAny_in_of (knd:=sK c.w) (Io0 _ _ _) (Ob0 W2.at_.lo) hd.mapOf ?_
 have hv:valueAt kvs k = none:=by
  unfold valueAt
  rw [List.find?_eq_none.mpr,Option.map_none]
  intro p hp q
  exact hk (hkv ▸ List.mem_map.mpr ⟨p,hp,of_decide_eq_true q⟩)
 rw [hv]
 exact wpAny_truthy_bool (hq _ (W2.step ok (.toks _ _) (Nat.succ_pos _)))
theorem Gq1 {p1:Pos} {Q:Bool→Shared→Prop} (ok:CxOk c) (W:SF c F ρ s) (hy:ρ.lookup (oS "stack") = some (.raw (.ref F.a1))) (hz:F.ks.length ≤ 100000)
  (hq:∀ s',SF c F ρ s'→Q (!F.ks.isEmpty) s'):wpAny (MM c.w) c.A (isTrue (.Name (oS "stack") p1) c.env (eval (.Name (oS "stack") p1) c.env)) Q E s:=by
 refine wpAny_isTrue_value (Bs0 ok W (fun p _ okp=>Ai0 okp hy) fun u s2 W2 _ hu=>?_) (by rfl)
 subst hu
 obtain ⟨vs,n,sl,e,r⟩:=W2.at_.l1
 have hlen:=Bm0 r
 simp only [Array.length_toList] at hlen
 have hb:(!vs.isEmpty) = !F.ks.isEmpty:=by
  congr 1
  rw [Bool.eq_iff_iff,Array.isEmpty_iff_size_eq_zero,List.isEmpty_iff_length_eq_zero,hlen]
 refine wpAny_truthy_list ⟨_,e,rfl,n,rfl⟩ (by lia) ?_
 rw [hb]
 exact hq _ (W2.step ok ((Kp.toks _ _).trans (.toks _ _)) (Nat.succ_pos _))
theorem Jl1 {p1 p2:Pos} (ok:CxOk c) (W:SF c F ρ s) (hx:ρ.lookup (oS "node") = some (.val (.str k))) (hy:ρ.lookup (oS "seen") = some (.raw (.ref F.a3)))
  (hn:F.n ≤ 1000) (hk:F.sn k = false) (hr:∀ s',SF c { F with sn:=fun k'=>F.sn k' || decide (k' = k),n:=F.n + 1 } ρ s'→wpAny (MM c.w) c.A (execs rest c.env) Q E s')
  (hline:(apos.endLine == cpos.line) = true:=by rfl) (hi:interactive c.env = false:=by rfl) (hbase:attributeBase (.Name (oS "seen") p1) (oS "add") c.env (eval (.Name (oS "seen") p1) c.env) = eval (.Name (oS "seen") p1) c.env:=by rfl) :
  wpAny (MM c.w) c.A (execs (.Expr (.Call (.Attribute (.Name (oS "seen") p1) (oS "add") apos) [.Name (oS "node") p2] [] cpos) pos :: rest) c.env) Q E s:=by
 refine wC (wpAny_Expr ?_ hi rfl)
 refine Call_method1 hbase rfl hline (Bs0 ok W (fun p _ okp=>Ai0 okp hy) fun v s1 W1 k1 hv=>?_)
 subst hv
 refine ⟨"set", "set.add",PySem.F.plainAttrs_set,PySem.F.slot_set_add,PySem.F.type_set_add,W1.at_.l3.typeIs,W1.at_.l3.noDict,?_⟩
 refine callWith_builtin rfl (evalArgs_plain (spliced_cons (Fu0 ok W1 (fun p _ okp=>Aa0 okp hx) fun u s2 W2 _ hu=>spliced_nil ?_)))
 obtain ⟨t,hQ159⟩:=Rd.str_inv hu; subst hQ159
 refine call_set_add (knd:=sK c.w) (Io0 _ _ _) rfl W2.at_.l3 (by show F.n + 1 < scanBound; unfold scanBound; lia) fun h' hs hS=>hr _ ?_
 rw [hk] at hS
 refine W2.put ok (.tail _ (.tail _ (.head _))) hs rfl (fun a h=>h) W2.nd ?_ (Nat.succ_pos _)
 have hk':=fun (b:Addr) (hb:b ∈ F.Y ++ F.Z) (ne:b ≠ F.a3) (o:Obj) (e:s2.heap.get? b = some o)=>(hs.2 b ne).trans e
 have nd:=W2.nd
 simp only [List.cons_append,List.nil_append,List.nodup_cons,List.mem_cons,not_or] at nd
 refine ⟨W2.at_.l1.keep fun o e=>hk' _ (.head _) nd.1.2.1 o e,?_,hS,?_,fun f hf=>?_,W2.at_.lo⟩
 ·obtain ⟨vs,n,sl,e,r⟩:=W2.at_.l2
  exact ⟨vs,n,sl,hk' _ (.tail _ (.head _)) nd.2.1.1 _ e,r⟩
 ·obtain ⟨kvs,e,r⟩:=W2.at_.l4
  exact ⟨kvs,Eq0 e fun o e=>hk' _ (.tail _ (.tail _ (.tail _ (.head _)))) (Ne.symm nd.2.2.1.1) o e,r⟩
 ·obtain ⟨e1,o,e2,e3⟩:=W2.at_.it f hf
  have m1:f.u ∈ F.Z:=List.mem_flatMap.mpr ⟨f,hf,.head _⟩
  have m2:f.I ∈ F.Z:=List.mem_flatMap.mpr ⟨f,hf,.tail _ (.head _)⟩
  exact ⟨hk' _ (Fc.memZ hf (.head _)) (fun q=>nd.2.2.1.2 (q ▸ m1)) _ e1,o,hk' _ (Fc.memZ hf (.tail _ (.head _))) (fun q=>nd.2.2.1.2 (q ▸ m2)) _ e2,e3⟩
end
section
variable {F:Fc}
noncomputable abbrev Fk0 (L:Addr) (i:Nat):Obj:={ cls:=.type "list_iterator",data:=.fields #[.ref L,.int i 0] }
theorem Fc.At.p1 (a:F.At w h) (hs:Heap.SameBut b h h') (ne:F.a1 ≠ b):StrL h' F.a1 F.ks:=a.l1.keep fun o e=>(hs.2 _ ne).trans e
theorem Fc.At.p2 (a:F.At w h) (hs:Heap.SameBut b h h') (ne:F.a2 ≠ b):∃ vs n sl,h'.get? F.a2 = some ⟨.type "list",none,.seq vs n,sl⟩∧vs.toList = F.us.map Value.ref :=
 by obtain ⟨vs,n,sl,e,r⟩:=a.l2; exact ⟨vs,n,sl,(hs.2 _ ne).trans e,r⟩
theorem Fc.At.p3 (a:F.At w h) (hs:Heap.SameBut b h h') (ne:F.a3 ≠ b):h'.SetOf (sK w) F.a3 F.sn F.n:=Ic0 a.l3 fun o e=>(hs.2 _ ne).trans e
theorem Fc.At.p4 (a:F.At w h) (hs:Heap.SameBut b h h') (ne:F.a4 ≠ b):∃ kvs,h'.DictOf (sK w) F.a4 kvs∧kvs.map (·.1) = F.dk :=
 by obtain ⟨kvs,e,r⟩:=a.l4; exact ⟨kvs,Eq0 e fun o e=>(hs.2 _ ne).trans e,r⟩
theorem Fc.At.p5 (a:F.At w h) (hs:Heap.SameBut b h h') (ne:∀ f ∈ F.st,f.u ≠ b∧f.I ≠ b):∀ f ∈ F.st,h'.get? f.u = some (Bv0 f.I)∧h'.IsListIter f.I f.L f.ix:=fun f hf=>by
 obtain ⟨e1,o,e2,e3⟩:=a.it f hf
 exact ⟨(hs.2 _ (ne f hf).1).trans e1,o,(hs.2 _ (ne f hf).2).trans e2,e3⟩
theorem SF.nds (W:SF c F ρ s):(F.a1 ≠ F.a2∧F.a1 ≠ F.a3∧F.a1 ≠ F.a4∧F.a2 ≠ F.a3∧F.a2 ≠ F.a4∧F.a3 ≠ F.a4)∧∀ b ∈ F.Y,∀ f ∈ F.st,f.u ≠ b∧f.I ≠ b:=by
 have nd:=W.nd
 refine ⟨?_,fun b hb f hf=>⟨fun q=>?_,fun q=>?_⟩⟩
 ·simp only [List.cons_append,List.nil_append,List.nodup_cons,List.mem_cons,not_or] at nd
  exact ⟨nd.1.1,nd.1.2.1,nd.1.2.2.1,nd.2.1.1,nd.2.1.2.1,nd.2.2.1.1⟩
 ·exact (List.nodup_append.mp nd).2.2 _ hb _ (List.mem_flatMap.mpr ⟨f,hf,.head _⟩) q.symm
 ·exact (List.nodup_append.mp nd).2.2 _ hb _ (List.mem_flatMap.mpr ⟨f,hf,.tail _ (.head _)⟩) q.symm
theorem Mt0 (ha:h.objs.size ≤ a):h.get? a = none:=by
 cases q:h.get? a with
 | none=>rfl
 | some o=>exact absurd (Heap.lt_size q) (Nat.not_lt.mpr ha)
theorem SF.there (W:SF c F ρ s):∀ b ∈ F.Y ++ F.Z,∃ o,s.heap.get? b = some o:=fun b hb=>by
 rcases List.mem_append.mp hb with q | q
 ·obtain ⟨o,e,_⟩:=W.at_.has b q; exact ⟨o,e⟩
 ·obtain ⟨f,hf,hm⟩:=List.mem_flatMap.mp q
  obtain ⟨e1,o,e2,_⟩:=W.at_.it f hf
  unfold FrI.zs at hm
  simp only [List.mem_cons,List.not_mem_nil,or_false] at hm
  rcases hm with rfl | rfl
  ·exact ⟨_,e1⟩
  ·exact ⟨_,e2⟩
theorem SF.put' {F':Fc} (ok:CxOk c) (W:SF c F ρ s) {b:Addr} {h':Heap} {tk:Nat} (hb:b ∈ F.Y) (hs:Heap.SameBut b s.heap h') (hY:F'.Y = F.Y) (ap:Apart c ρ (F'.Y ++ F'.Z)) (hn:(F'.Y ++ F'.Z).Nodup) (pn:∀ q,c.pin q→q.1 ∉ F'.Y ++ F'.Z) (a:F'.At c.w h') (ht:0 < tk):SF c F' ρ { s with heap:=h',toks:=tk } :=
 ⟨W.st.after ok W.apY (Kf0 hb hs (Cv0 ok W.st W.apY.tab)) (fun a q=>hY ▸ q) (fun a q=>.inl (hY ▸ q)) a.has ht,a,ap,hn,pn⟩
theorem Gr1 {p1 p2:Pos} (ok:CxOk c) (W:SF c F ρ s) (hx:ρ.lookup (oS "node") = some (.val (.str k))) (hy:ρ.lookup (oS "stack") = some (.raw (.ref F.a1)))
  (hn:F.ks.length ≤ 1000) (hr:∀ s',SF c { F with ks:=F.ks ++ [k] } ρ s'→wpAny (MM c.w) c.A (execs rest c.env) Q E s')
  (hline:(apos.endLine == cpos.line) = true:=by rfl) (hi:interactive c.env = false:=by rfl) (hbase:attributeBase (.Name (oS "stack") p1) (oS "append") c.env (eval (.Name (oS "stack") p1) c.env) = eval (.Name (oS "stack") p1) c.env:=by rfl) :
  wpAny (MM c.w) c.A (execs (.Expr (.Call (.Attribute (.Name (oS "stack") p1) (oS "append") apos) [.Name (oS "node") p2] [] cpos) pos :: rest) c.env) Q E s:=by
 refine wC (wpAny_Expr ?_ hi rfl)
 refine Call_method1 hbase rfl hline (Bs0 ok W (fun p _ okp=>Ai0 okp hy) fun v s1 W1 k1 hv=>?_)
 subst hv
 obtain ⟨vs0,n0,sl0,e0,r0⟩:=W1.at_.l1
 refine ⟨"list", "list.append",PySem.F.plainAttrs_list,slot_list_append,PySem.F.type_list_append,⟨_,e0,rfl⟩,(fun b q=>by cases q; exact ⟨_,e0,rfl⟩),?_⟩
 refine callWith_builtin rfl (evalArgs_plain (spliced_cons (Fu0 ok W1 (fun p _ okp=>Aa0 okp hx) fun u s2 W2 _ hu=>spliced_nil ?_)))
 obtain ⟨t,hQ160⟩:=Rd.str_inv hu; subst hQ160
 obtain ⟨vs,n,sl,e2,r2⟩:=W2.at_.l1
 have hlen:=Bm0 r2
 simp only [Array.length_toList] at hlen
 refine Ch0 e2 (fun h' n' e' hs'=>hr _ ?_) (by unfold sizeLine; lia)
 obtain ⟨⟨n12,n13,n14,n23,n24,n34⟩,nz⟩:=W2.nds
 exact W2.put (tk:=s2.toks) ok (.head _) hs' rfl (fun a h=>h) W2.nd ⟨⟨_,n',sl,e',Ip0 r2⟩,W2.at_.p2 hs' (Ne.symm n12),W2.at_.p3 hs' (Ne.symm n13),W2.at_.p4 hs' (Ne.symm n14),W2.at_.p5 hs' (nz _ (.head _)),W2.at_.lo⟩ W2.st.toks
theorem Tp0 {kvs:List (Str × Value)} (h:k ∉ kvs.map (·.1)):(stored kvs k v).map (·.1) = kvs.map (·.1) ++ [k]:=by
 unfold stored
 rw [if_neg (fun q=>?_)]
 ·simp
 ·obtain ⟨p,hp,e⟩:=List.any_eq_true.mp q
  exact h (List.mem_map.mpr ⟨p,hp,of_decide_eq_true e⟩)
theorem Gs1 {p1 p2 p3 p4 p5 p6 p7:Pos} (ok:CxOk c) (W:SF c F ρ s) (hx:ρ.lookup (oS "node") = some (.val (.str k))) (hy:ρ.lookup (oS "stack") = some (.raw (.ref F.a1))) (hz:ρ.lookup (oS "node2stacki") = some (.raw (.ref F.a4)))
  (hl:c.env.kindOf (oS "len") = some .globalImplicit) (hn:F.ks.length ≤ 1000) (hd:F.dk.length ≤ 1000) (hk:k ∉ F.dk) (hr:∀ s',SF c { F with dk:=F.dk ++ [k] } ρ s'→wpAny (MM c.w) c.A (execs rest c.env) Q E s') :
  wpAny (MM c.w) c.A (execs (.Assign [.Subscript (.Name (oS "node2stacki") p1) (.Name (oS "node") p2) p3] (.Call (.Name (oS "len") p4) [.Name (oS "stack") p5] [] p6) p7 :: rest) c.env) Q E s:=by
 refine wC (wpAny_Assign_Subscript ?_)
 refine wpAny_Call_ofName (Bs0 ok W (fun p _ okp=>Cy0 okp hl) fun v s1 W1 k1 hv=>?_)
 subst hv
 refine callWith_builtin1 (Bs0 ok W1 (fun p _ okp=>Ai0 okp hy) fun v s2 W2 k2 hv=>?_)
 subst hv
 obtain ⟨vs,n,sl,e2,r2⟩:=W2.at_.l1
 have hlen:=Bm0 r2
 simp only [Array.length_toList] at hlen
 refine len_list ⟨_,e2,rfl,n,rfl⟩ (by lia) ?_
 refine Bs0 ok (W2.step ok (.toks _ _) (Nat.succ_pos _)) (fun p _ okp=>Ai0 okp hz) fun v s3 W3 k3 hv=>?_
 subst hv
 refine Fu0 ok W3 (fun p _ okp=>Aa0 okp hx) fun v s4 W4 _ hv=>?_
 obtain ⟨t,hQ161⟩:=Rd.str_inv hv; subst hQ161
 obtain ⟨kvs,hm,hkv⟩:=W4.at_.l4
 have hkl:kvs.length ≤ 1000:=by rw [← List.length_map (f:=(·.1)),hkv]; exact hd
 refine wpAny_setItem_pairs (knd:=sK c.w) (Io0 _ _ _) hm (fun h' hm' hs'=>hr _ ?_) (by unfold sizeLine; exact Nat.le_trans ‹_› (by decide))
 obtain ⟨⟨n12,n13,n14,n23,n24,n34⟩,nz⟩:=W4.nds
 exact W4.put ok (.tail _ (.tail _ (.tail _ (.head _)))) hs' rfl (fun a h=>h) W4.nd ⟨W4.at_.p1 hs' n14,W4.at_.p2 hs' n24,W4.at_.p3 hs' n34,⟨_,hm',by rw [Tp0 (by rw [hkv]; exact hk),hkv]⟩,W4.at_.p5 hs' (nz _ (.tail _ (.tail _ (.tail _ (.head _))))),W4.at_.lo⟩ (Nat.succ_pos _)
theorem Zs0 {x:Srt} {d:Nd} {p1 p2 p3 p4 p5 p6 p7 p8:Pos} (ok:CxOk c) (W:SF c F ρ s) (H:Held c x) (hd:d ∈ x.nds) (hx:ρ.lookup (oS "node") = some (.val (.str d.key))) (hy:ρ.lookup (oS "itstack") = some (.raw (.ref F.a2))) (hz:ρ.lookup (oS "n2i") = some (.raw (.ref x.N)))
  (hl:c.env.kindOf (oS "iter") = some .globalImplicit) (hn:F.us.length ≤ 1000) (hr:∀ s' u I,SF c { F with us:=F.us ++ [u],st:=F.st ++ [⟨u,I,d.L,0⟩] } ρ s'→wpAny (MM c.w) c.A (execs rest c.env) Q E s')
  (hline:(apos.endLine == cpos.line) = true:=by rfl) (hi:interactive c.env = false:=by rfl) (hbase:attributeBase (.Name (oS "itstack") p1) (oS "append") c.env (eval (.Name (oS "itstack") p1) c.env) = eval (.Name (oS "itstack") p1) c.env:=by rfl) :
  wpAny (MM c.w) c.A (execs (.Expr (.Call (.Attribute (.Name (oS "itstack") p1) (oS "append") apos) [.Attribute (.Call (.Name (oS "iter") p2) [.Attribute (.Subscript (.Name (oS "n2i") p3) (.Name (oS "node") p4) p5) (oS "successors") p6] [] p7) (oS "__next__") p8] [] cpos) pos :: rest) c.env) Q E s:=by
 refine wC (wpAny_Expr ?_ hi rfl)
 refine Call_method1 hbase rfl hline (Bs0 ok W (fun p _ okp=>Ai0 okp hy) fun v s1 W1 k1 hv=>?_)
 subst hv
 obtain ⟨vs0,n0,sl0,e0,r0⟩:=W1.at_.l2
 refine ⟨"list", "list.append",PySem.F.plainAttrs_list,slot_list_append,PySem.F.type_list_append,⟨_,e0,rfl⟩,(fun b q=>by cases q; exact ⟨_,e0,rfl⟩),?_⟩
 refine callWith_builtin rfl (evalArgs_plain (spliced_cons ?_))
 refine Attribute_any_ ?_ (by with_unfolding_all rfl)
 refine wpAny_Call_ofName (Bs0 ok W1 (fun p _ okp=>Iq1 okp hl) fun v s2 W2 k2 hv=>?_)
 subst hv
 refine callWith_builtin1 (Bs0 (P:=fun _ u=>u = .ref d.L) ok W2 (fun p hp okp=>?_) fun v s3 W3 k3 hv=>?_)
 ·have H':Held (c.pins p) x:=by obtain ⟨h0,a0,q0⟩:=H; exact ⟨h0,a0,fun a ha o e=>hp _ (q0 a ha o e)⟩
  exact Tj0 okp H' hd (Oc0 okp H' hd (Ai0 okp hz) (Aa0 okp hx))
 subst hv
 have at3:x.At c.w s3.heap:=by obtain ⟨h0,a0,q0⟩:=H; exact a0.keep fun b hb o e=>W3.st.pin (b,o) (q0 b hb o e)
 obtain ⟨vsL,nL,slL,eL,rL⟩:=(at3.nd d hd).2.2
 refine Ls0 ⟨_,eL,rfl,nL,rfl⟩ ?_
 refine Gp1 (Heap.get?_push_size _ rfl) (spliced_nil ?_)
 have hI:s3.heap.get? s3.heap.objs.size = none:=Aj0 _
 have hu:s3.heap.get? (s3.heap.push (Fk0 d.L 0)).objs.size = none:=Mt0 (by simp [Heap.push])
 have hne:(s3.heap.push (Fk0 d.L 0)).objs.size ≠ s3.heap.objs.size:=by simp [Heap.push]
 have eI:((s3.heap.push (Fk0 d.L 0)).push (Bv0 s3.heap.objs.size)).get? s3.heap.objs.size = some (Fk0 d.L 0):=Heap.get?_push_of_some _ (Heap.get?_push_size _ rfl)
 have eu:((s3.heap.push (Fk0 d.L 0)).push (Bv0 s3.heap.objs.size)).get? (s3.heap.push (Fk0 d.L 0)).objs.size = some (Bv0 s3.heap.objs.size):=Heap.get?_push_size _ rfl
 have hthere:∀ b ∈ F.Y ++ F.Z,∃ o,s3.heap.get? b = some o:=fun b hb=>W3.there b hb
 have W4:SF c F ρ { s3 with heap:=(s3.heap.push (Fk0 d.L 0)).push (Bv0 s3.heap.objs.size),toks:=s3.toks + 1 }:=W3.step ok (((Kp.push s3 _).trans (.push _ _)).trans (.toks _ _)) (Nat.succ_pos _)
 generalize hgI:s3.heap.objs.size = I at *
 generalize hgu:(s3.heap.push (Fk0 d.L 0)).objs.size = u at *
 obtain ⟨vs,n,sl,e2,r2⟩:=W4.at_.l2
 have hlen:vs.size ≤ 1000:=by rw [← Array.length_toList,r2,List.length_map]; exact hn
 have apN:Apart c ρ [u,I]:=W3.apY.extend ok W3.st fun a ha=>.inr (by
  simp only [List.mem_cons,List.not_mem_nil,or_false] at ha
  rcases ha with rfl | rfl
  ·exact hu
  ·exact hI)
 have hdis:∀ b ∈ F.Y ++ F.Z,b ≠ u∧b ≠ I:=fun b hb=>by
  obtain ⟨o,e⟩:=hthere b hb
  exact ⟨(fun q=>by rw [q,hu] at e; cases e),(fun q=>by rw [q,hI] at e; cases e)⟩
 have hZ:({ F with us:=F.us ++ [u],st:=F.st ++ [⟨u,I,d.L,0⟩] }:Fc).Y ++ ({ F with us:=F.us ++ [u],st:=F.st ++ [⟨u,I,d.L,0⟩] }:Fc).Z = (F.Y ++ F.Z) ++ [u,I]:=by
  unfold Fc.Z
  rw [List.flatMap_append,← List.append_assoc]; rfl
 refine Ch0 e2 (fun h' n' e' hs'=>hr _ u I ?_) (by unfold sizeLine; exact Nat.le_trans ‹_› (by decide))
 obtain ⟨⟨n12,n13,n14,n23,n24,n34⟩,nz⟩:=W4.nds
 have hm2:F.a2 ∈ F.Y:=.tail _ (.head _)
 refine W4.put' (tk:=s3.toks + 1) ok hm2 hs' rfl (by rw [hZ]; exact W4.ap.app apN) (by
   rw [hZ]
   refine List.nodup_append.mpr ⟨W4.nd,by simp [hne],fun a ha b hb q=>?_⟩
   simp only [List.mem_cons,List.not_mem_nil,or_false] at hb
   rcases hb with rfl | rfl
   ·exact (hdis a ha).1 q
   ·exact (hdis a ha).2 q) (fun q hq m=>by
   rw [hZ] at m
   rcases List.mem_append.mp m with m | m
   ·exact W4.pn q hq m
   ·have:=W3.st.pin q hq
    simp only [List.mem_cons,List.not_mem_nil,or_false] at m
    rcases m with m | m
    ·rw [m,hu] at this; cases this
    ·rw [m,hI] at this; cases this) ⟨W4.at_.p1 hs' n12,⟨_,n',sl,e',by simp [r2]⟩,W4.at_.p3 hs' (Ne.symm n23),W4.at_.p4 hs' (Ne.symm n24),?_,W4.at_.lo⟩ (Nat.succ_pos _)
 intro f hf
 rcases List.mem_append.mp hf with hf | hf
 ·exact W4.at_.p5 hs' (nz _ hm2) f hf
 ·rw [List.mem_singleton.mp hf]
  have hd2:=hdis F.a2 (List.mem_append_left _ hm2)
  exact ⟨(hs'.2 _ (Ne.symm hd2.1)).trans eu,_,(hs'.2 _ (Ne.symm hd2.2)).trans eI,rfl,rfl⟩
end
section
variable {F:Fc}
noncomputable abbrev Oi0 (p1 p2 p3 p4 p5:Pos):Expr:=.Call (.Subscript (.Name (oS "itstack") p1) (.UnaryOp .USub (.Constant (.int 1) 0 p2) p3) p4) [] [] p5
theorem Fa1 {us0:List Addr} {u:Addr} {p1 p2 p3 p4 p5:Pos} {Q:Value→Shared→Prop} (ok:CxOk c) (W:SF c F ρ s) (hy:ρ.lookup (oS "itstack") = some (.raw (.ref F.a2))) (hu:F.us = us0 ++ [u]) (hn:F.us.length ≤ 1000)
  (hq:∀ s',SF c F ρ s'→wpAny (MM c.w) c.A (callWith p5 (.ref u) [] [] []) Q E s'):wpAny (MM c.w) c.A (eval (Oi0 p1 p2 p3 p4 p5) c.env) Q E s:=by
 show wpAny (MM c.w) c.A (do callWith p5 (← eval (.Subscript (.Name (oS "itstack") p1) (.UnaryOp .USub (.Constant (.int 1) 0 p2) p3) p4) c.env) [] (backTo p5 (starEach [] c.env)) (backToKw p5 (keywordEach [] c.env))) Q E s
 refine wB (Subscript_ (Bs0 ok W (fun p _ okp=>Ai0 okp hy) fun v s1 W1 _ hv=>?_))
 subst hv
 refine Fu0 ok W1 (fun p _ okp=>Hs0 Ar0) fun v s2 W2 _ hv=>?_
 obtain ⟨t,hQ162⟩:=Rd.int_inv hv; subst hQ162
 obtain ⟨vs,n,sl,e,r⟩:=W2.at_.l2
 have hsz:vs.size = us0.length + 1:=by rw [← Array.length_toList,r,hu]; simp
 have hl:s2.heap.IsList F.a2 vs:=⟨_,e,rfl,n,rfl⟩
 refine tail_any hl.typeIs slot_list_getitem.lookup (wpAny_getItem_list_neg hl (by decide) (by lia) (by decide) (x:=.ref u) ?_ (hq _ W2)) rfl
 rw [← Array.getElem?_toList,r,hu,hsz,show (-1 + ((us0.length + 1:Nat):Int)).toNat = us0.length by simp +arith]
 simp
theorem Gt1 {F:Fc} {st0:List FrI} {f:FrI} (hst:F.st = st0 ++ [f]) (i:Nat):({ F with st:=st0 ++ [{ f with ix:=i }] }:Fc).Z = F.Z:=by
 unfold Fc.Z; rw [hst]; simp [List.flatMap_append,FrI.zs]
theorem SF.tops (W:SF c F ρ s) {st0:List FrI} {f:FrI} (hst:F.st = st0 ++ [f]):∀ g ∈ st0,g.u ≠ f.I∧g.I ≠ f.I:=fun g hg=>by
 have nd:=(List.nodup_append.mp W.nd).2.1
 unfold Fc.Z at nd
 rw [hst,List.flatMap_append,List.nodup_append] at nd
 have hm:f.I ∈ [f].flatMap FrI.zs:=List.mem_flatMap.mpr ⟨f,.head _,.tail _ (.head _)⟩
 exact ⟨fun q=>nd.2.2 _ (List.mem_flatMap.mpr ⟨g,hg,.head _⟩) _ hm q,fun q=>nd.2.2 _ (List.mem_flatMap.mpr ⟨g,hg,.tail _ (.head _)⟩) _ hm q⟩
theorem Fc.At.pI {F:Fc} (a:F.At w h) (hs:Heap.ExtBut b h h') (hY:∀ y ∈ F.Y,y ≠ b):StrL h' F.a1 F.ks∧(∃ vs n sl,h'.get? F.a2 = some ⟨.type "list",none,.seq vs n,sl⟩∧vs.toList = F.us.map Value.ref)∧h'.SetOf (sK w) F.a3 F.sn F.n∧(∃ kvs,h'.DictOf (sK w) F.a4 kvs∧kvs.map (·.1) = F.dk) ∧
  ∀ f ∈ F.st,f.u ≠ b→f.I ≠ b→h'.get? f.u = some (Bv0 f.I)∧h'.IsListIter f.I f.L f.ix:=by
 refine ⟨a.l1.keep fun o e=>hs _ o (hY _ (.head _)) e,?_,Ic0 a.l3 fun o e=>hs _ o (hY _ (.tail _ (.tail _ (.head _)))) e,?_,fun f hf h1 h2=>?_⟩
 ·obtain ⟨vs,n,sl,e,r⟩:=a.l2; exact ⟨vs,n,sl,hs _ _ (hY _ (.tail _ (.head _))) e,r⟩
 ·obtain ⟨kvs,e,r⟩:=a.l4; exact ⟨kvs,Eq0 e fun o e=>hs _ o (hY _ (.tail _ (.tail _ (.tail _ (.head _))))) e,r⟩
 ·obtain ⟨e1,o,e2,e3⟩:=a.it f hf
  exact ⟨hs _ _ h1 e1,o,hs _ _ h2 e2,e3⟩
theorem Tq0 {x:Srt} {d:Nd} {f:FrI} {us0:List Addr} {st0:List FrI} {kk:Str} {p0 p1 p2 p3 p4 p5 p6 p7:Pos} {h₀:ExceptHandler} {hs:List ExceptHandler} (ok:CxOk c) (W:SF c F ρ s) (H:Held c x) (hd:d ∈ x.nds) (hy:ρ.lookup (oS "itstack") = some (.raw (.ref F.a2)))
  (hu:F.us = us0 ++ [f.u]) (hst:F.st = st0 ++ [f]) (hn:F.us.length ≤ 1000) (hL:f.L = d.L) (hk:d.succ[f.ix]? = some kk) (hx:c.env.kindOf (oS "node") = some .local)
  (hq:∀ s',SF c { F with st:=st0 ++ [{ f with ix:=f.ix + 1 }] } ((oS "node",.val (.str kk)) :: ρ) s'→Q .brk s') :
  wpAny (MM c.w) c.A (exec (.Try [.Assign [.Name (oS "node") p0] (Oi0 p1 p2 p3 p4 p5) p6,.Break p7] (h₀ :: hs) [] [] pos) c.env) Q E s:=by
 have hfm:f ∈ F.st:=by rw [hst]; simp
 refine wpAny_Try_except (wC (wpAny_Assign_Name (Fa1 ok W hy hu hn fun s1 W1=>?_) rfl))
 obtain ⟨eu,it⟩:=W1.at_.it f hfm
 refine Hh0 eu (Rd0 eu fun A' P E' _ hP _=>?_)
 have at1:x.At c.w s1.heap:=by obtain ⟨h0,a0,q0⟩:=H; exact a0.keep fun b hb o e=>W1.st.pin (b,o) (q0 b hb o e)
 obtain ⟨vsL,nL,slL,eL,rL⟩:=(at1.nd d hd).2.2
 obtain ⟨t,hv⟩:=Ms0 rL _ _ hk
 rw [Array.getElem?_toList] at hv
 rw [hL] at it
 refine Zp0 it ⟨_,eL,rfl,nL,rfl⟩ hv fun h' it' hs'=>hP _ _ ?_
 obtain ⟨_,nz⟩:=W1.nds
 obtain ⟨q1,q2,q3,q4,q5⟩:=W1.at_.pI hs'.extBut fun y hy'=>Ne.symm (nz y hy' f hfm).2
 have huI:f.u ≠ f.I:=fun q=>by
  have nd:=(List.nodup_append.mp W1.nd).2.1
  unfold Fc.Z at nd
  rw [hst,List.flatMap_append,List.nodup_append] at nd
  have:=nd.2.1
  simp [FrI.zs,q] at this
 have htops:=W1.tops hst
 have hZ:=Gt1 hst (f.ix + 1)
 have W2:SF c { F with st:=st0 ++ [{ f with ix:=f.ix + 1 }] } ρ { s1 with heap:=h' }:=by
  refine W1.turn ok hfm hs'.extBut rfl (fun a ha=>by rw [hZ] at ha; exact ha) (by rw [hZ]; exact W1.nd) ⟨q1,q2,q3,q4,fun g hg=>?_,W1.at_.lo⟩
  rcases List.mem_append.mp hg with hg | hg
  ·exact q5 g (by rw [hst]; exact List.mem_append_left _ hg) (htops g hg).1 (htops g hg).2
  ·rw [List.mem_singleton.mp hg]
   exact ⟨(hs'.2 _ huI).trans eu,by rw [hL]; exact it'⟩
 exact W2.store ok hx rfl fun s3 W3=>wC (wpAny_Break (hq s3 W3))
end
theorem Zt0 (l:Addr) (items:Array Value) (n:Nat) (sl:Array (Option Value)) (y:Value) (hy:items[items.size - 1]? = some y) (hs1:items.size ≤ sizeLine) :
  Meets (Builtin.«list.pop» ⟨[.ref l],[]⟩)
   (fun _ R s=>s.heap.get? l = some { cls:=.type "list",dict:=none,data:=.seq items n,slots:=sl }∧R (.ok (.ret y)) { s with heap:=s.heap.update l (Obj.mapSeq fun xs=>xs.eraseIdxIfInBounds (items.size - 1)) }) :=
 .of_wp fun prog w A R s h=>by
  obtain ⟨hp,g,d,tk,os⟩:=s; obtain ⟨hl,h⟩:=h
  have hpos:0 < items.size:=by
   rcases Nat.eq_zero_or_pos items.size with h0 | h0
   ·simp [h0] at hy
   ·exact h0
  have hne:¬ items.isEmpty = true:=by
   intro he; have:items.size = 0:=by simpa using he
   lia
  have hk:seqIndex? (-1) items.size = some (items.size - 1):=by
   rw [seqIndex_neg (by exact Int.natCast_nonneg _) (by lia)]; congr 1; grind
  wp_walk using wpAny_loadPart' hl
  simp only [hk,hy,Option.bind_some,Option.map_some]
  have hz':(items.eraseIdxIfInBounds (items.size - 1)).size ≤ sizeLine + 1:=Nat.le_trans (MeetsSeq.size_erased items _) (Nat.le_succ_of_le hs1)
  wp_walk using (wpAny_updateSeq hl rfl (hz:=hs1) (_hz':=hz')),wpAny_loadPart' hl
  exact ⟨_,rfl,h⟩
theorem Zu0 {l:Addr} {vs:Array Value} {n:Nat} {sl:Array (Option Value)} {y:Value} {Q:Value→Shared→Prop} (ho:s.heap.get? l = some ⟨.type "list",none,.seq vs n,sl⟩) (hy:vs[vs.size - 1]? = some y)
  (hQ:∀ h' n',h'.get? l = some ⟨.type "list",none,.seq vs.pop n',sl⟩→Heap.SameBut l s.heap h'→Q y { s with heap:=h' }) (hsz:vs.size ≤ sizeLine) :
  wpAny (MM w) A (call (.builtin "list.pop") [.ref l]) Q E s:=by
 have hpos:0 < vs.size:=by
  rcases Nat.eq_zero_or_pos vs.size with h0 | h0
  ·simp [h0] at hy
  ·exact h0
 have e:vs.eraseIdxIfInBounds (vs.size - 1) = vs.pop:=by
  apply Array.ext'
  rw [Array.toList_pop]
  unfold Array.eraseIdxIfInBounds
  rw [dif_pos (by lia),Array.toList_eraseIdx,List.eraseIdx_eq_take_drop_succ,List.dropLast_eq_take]
  have:vs.size - 1 + 1 = vs.toList.length:=by rw [Array.length_toList]; exact Nat.sub_add_cancel ‹_›
  rw [this,List.drop_length,List.append_nil,Array.length_toList]
 refine call_meets PySem.F.slot_list_pop ⟨_,ho,rfl⟩ PySem.F.entry_list_pop (PySem.F.args_list_pop_1 _) (Zt0 l vs n sl y hy hsz) ⟨ho,hQ _ (if (vs.eraseIdxIfInBounds (vs.size - 1)).size == vs.size then n else n + 1) ?_ (Heap.SameBut.update ..)⟩
 rw [← e]
 exact Heap.get?_update_self _ ho rfl
theorem Re0 {ks:List Str} (h:StrsAre vs (ks ++ [k])):∃ us t,vs = us ++ [.str k t]∧StrsAre us ks:=by
 induction ks generalizing vs with
 | nil=>cases h with | cons x t r=>cases r; exact ⟨[],t,rfl,.nil⟩
 | cons y r ih =>
  cases h with
  | cons x t q =>
   obtain ⟨us,t',hQ163,q'⟩:=ih q; subst hQ163
   exact ⟨_ :: us,t',rfl,.cons _ _ q'⟩
theorem Vb0 {vs:Array Value} {us:List Value} {y:Value} (h:vs.toList = us ++ [y]):vs[vs.size - 1]? = some y∧vs.pop.toList = us:=by
 have hs:vs.size = us.length + 1:=by rw [← Array.length_toList,h]; simp
 refine ⟨?_,?_⟩
 ·rw [← Array.getElem?_toList,h,hs]; simp
 ·rw [Array.toList_pop,h]; simp
section
variable {F:Fc}
theorem Jm1 {ks0 dk0:List Str} {p1 p2 p3:Pos} (ok:CxOk c) (W:SF c F ρ s) (hy:ρ.lookup (oS "stack") = some (.raw (.ref F.a1))) (hz:ρ.lookup (oS "node2stacki") = some (.raw (.ref F.a4)))
  (hks:F.ks = ks0 ++ [k]) (hdk:F.dk = dk0 ++ [k]) (hn:F.ks.length ≤ 1000) (hd:F.dk.length ≤ 1000) (hk:k ∉ dk0) (hr:∀ s',SF c { F with ks:=ks0,dk:=dk0 } ρ s'→wpAny (MM c.w) c.A (execs rest c.env) Q E s')
  (hline:(apos.endLine == cpos.line) = true:=by rfl) (hbase:attributeBase (.Name (oS "stack") p2) (oS "pop") c.env (eval (.Name (oS "stack") p2) c.env) = eval (.Name (oS "stack") p2) c.env:=by rfl) :
  wpAny (MM c.w) c.A (execs (.Delete [.Subscript (.Name (oS "node2stacki") p1) (.Call (.Attribute (.Name (oS "stack") p2) (oS "pop") apos) [] [] cpos) p3] pos :: rest) c.env) Q E s:=by
 refine wC (wpAny_Delete (wpAny_deleteEach_cons (wpAny_delete_Subscript ?_)))
 refine Bs0 ok W (fun p _ okp=>Ai0 okp hz) fun v s1 W1 _ hv=>?_
 subst hv
 refine Call_method0 hbase hline (Bs0 ok W1 (fun p _ okp=>Ai0 okp hy) fun v s2 W2 _ hv=>?_)
 subst hv
 obtain ⟨vs,n,sl,e,r⟩:=W2.at_.l1
 have hlen:=Bm0 r
 simp only [Array.length_toList] at hlen
 rw [hks] at r
 obtain ⟨us,t,hvs,r'⟩:=Re0 r
 obtain ⟨hlast,hpop⟩:=Vb0 hvs
 refine ⟨"list", "list.pop",PySem.F.plainAttrs_list,PySem.F.slot_list_pop,PySem.F.type_list_pop,⟨_,e,rfl⟩,(fun b q=>by cases q; exact ⟨_,e,rfl⟩),?_⟩
 refine callWith_builtin rfl (evalArgs_nil3 ?_)
 refine Zu0 e hlast (fun h' n' e' hs'=>?_) (by unfold sizeLine; lia)
 obtain ⟨⟨n12,n13,n14,n23,n24,n34⟩,nz⟩:=W2.nds
 have W3:SF c { F with ks:=ks0 } ρ { s2 with heap:=h' }:=W2.put (tk:=s2.toks) ok (.head _) hs' rfl (fun a h=>h) W2.nd ⟨⟨_,n',sl,e',by rw [hpop]; exact r'⟩,W2.at_.p2 hs' (Ne.symm n12),W2.at_.p3 hs' (Ne.symm n13),W2.at_.p4 hs' (Ne.symm n14),W2.at_.p5 hs' (nz _ (.head _)),W2.at_.lo⟩ W2.st.toks
 obtain ⟨kvs,hm,hkv⟩:=W3.at_.l4
 have hkv':kvs.map (·.1) = dk0 ++ [k]:=hkv.trans hdk
 have hkl:kvs.length ≤ 1000:=by rw [← List.length_map (f:=(·.1)),hkv',← hdk]; exact hd
 have hsome:(valueAt kvs k).isSome = true:=by
  have hm:k ∈ kvs.map (·.1):=by rw [hkv']; simp
  obtain ⟨p,hp,hpk⟩:=List.mem_map.mp hm
  unfold valueAt
  rw [Option.isSome_map,List.find?_isSome]
  exact ⟨p,hp,decide_eq_true hpk⟩
 have hwo:(without kvs k).map (·.1) = dk0:=by
  have h1:(without kvs k).map (·.1) = (kvs.map (·.1)).filter fun y=>decide (y ≠ k):=by
   unfold without
   rw [List.filter_map]; rfl
  rw [h1,hkv',List.filter_append]
  have h2:dk0.filter (fun y=>decide (y ≠ k)) = dk0:=List.filter_eq_self.mpr fun y hy=>decide_eq_true fun q=>hk (q ▸ hy)
  rw [h2]; simp
 refine wpAny_delItem_slot hm.mapOf.typeIs (by decide) PySem.F.slot_dict_delitem (call_meetsIn PySem.F.slot_dict_delitem hm.mapOf.typeIs PySem.F.entry_dict_delitem (PySem.F.args_dict_delitem_2 _ _) (meets_dict_delitem_pairs (sK c.w) F.a4 (Io0 _ _ _)) ⟨kvs,hm,by unfold sizeLine; exact Nat.le_trans ‹_› (by decide),hsome,fun h'' hm'' hs''=>wpAny_deleteEach_nil (hr _ ?_)⟩)
 exact W3.put ok (.tail _ (.tail _ (.tail _ (.head _)))) hs'' rfl (fun a h=>h) W3.nd ⟨W3.at_.p1 hs'' n14,W3.at_.p2 hs'' n24,W3.at_.p3 hs'' n34,⟨_,hm'',hwo⟩,W3.at_.p5 hs'' (nz _ (.tail _ (.tail _ (.tail _ (.head _))))),W3.at_.lo⟩ (Nat.succ_pos _)
theorem Dj1 {us0:List Addr} {u:Addr} {p2:Pos} (ok:CxOk c) (W:SF c F ρ s) (hy:ρ.lookup (oS "itstack") = some (.raw (.ref F.a2))) (hus:F.us = us0 ++ [u]) (hn:F.us.length ≤ 1000)
  (hr:∀ s',SF c { F with us:=us0 } ρ s'→wpAny (MM c.w) c.A (execs rest c.env) Q E s') (hline:(apos.endLine == cpos.line) = true:=by rfl) (hi:interactive c.env = false:=by rfl) (hbase:attributeBase (.Name (oS "itstack") p2) (oS "pop") c.env (eval (.Name (oS "itstack") p2) c.env) = eval (.Name (oS "itstack") p2) c.env:=by rfl) :
  wpAny (MM c.w) c.A (execs (.Expr (.Call (.Attribute (.Name (oS "itstack") p2) (oS "pop") apos) [] [] cpos) pos :: rest) c.env) Q E s:=by
 refine wC (wpAny_Expr_any ?_ hi rfl)
 refine Call_method0 hbase hline (Bs0 ok W (fun p _ okp=>Ai0 okp hy) fun v s2 W2 _ hv=>?_)
 subst hv
 obtain ⟨vs,n,sl,e,r⟩:=W2.at_.l2
 have hlen:vs.size ≤ 1000:=by rw [← Array.length_toList,r,List.length_map]; exact hn
 rw [hus,List.map_append] at r
 obtain ⟨hlast,hpop⟩:=Vb0 r
 refine ⟨"list", "list.pop",PySem.F.plainAttrs_list,PySem.F.slot_list_pop,PySem.F.type_list_pop,⟨_,e,rfl⟩,(fun b q=>by cases q; exact ⟨_,e,rfl⟩),?_⟩
 refine callWith_builtin rfl (evalArgs_nil3 ?_)
 refine Zu0 e hlast (fun h' n' e' hs'=>?_) (by unfold sizeLine; exact Nat.le_trans ‹_› (by decide))
 obtain ⟨⟨n12,n13,n14,n23,n24,n34⟩,nz⟩:=W2.nds
 have hm2:F.a2 ∈ F.Y:=.tail _ (.head _)
 exact hr _ (W2.put (tk:=s2.toks) ok hm2 hs' rfl (fun a h=>h) W2.nd ⟨W2.at_.p1 hs' n12,⟨_,n',sl,e',hpop⟩,W2.at_.p3 hs' (Ne.symm n23),W2.at_.p4 hs' (Ne.symm n24),W2.at_.p5 hs' (nz _ hm2),W2.at_.lo⟩ W2.st.toks)
theorem SF.back {e:Addr} {ps:Addr × Obj→Prop} (W:SF ((c.mark e).pins ps) F ρ s) (hp:∀ q,c.pin q→ps q):SF c F ρ s :=
 ⟨⟨W.st.since,W.st.toks,W.st.frs,W.st.ns,W.st.cell,W.st.loc,W.st.has,W.st.own,W.st.raw,fun p h=>W.st.pin p (hp p h),fun p h=>W.st.pinx p (hp p h)⟩,W.at_,⟨W.ap.new,W.ap.loc,W.ap.cell,W.ap.fs,W.ap.tab,W.ap.own,W.ap.x⟩,W.nd,fun q h=>W.pn q (hp q h)⟩
theorem Wz0 {x:Srt} {d:Nd} {f:FrI} {us0:List Addr} {st0:List FrI} {ks0 dk0:List Str} {p0 p1 p2 p3 p4 p5 p6 p7 hpos d1 d2 d3 d4 d5 d6 e1 e2 e3 e4:Pos} {outer:List Env} {LL:Addr} (ok:CxOk c) (W:SF c F ρ s) (H:Held c x) (hd:d ∈ x.nds) (hy:ρ.lookup (oS "itstack") = some (.raw (.ref F.a2)))
  (hy1:ρ.lookup (oS "stack") = some (.raw (.ref F.a1))) (hy4:ρ.lookup (oS "node2stacki") = some (.raw (.ref F.a4)))
  (hu:F.us = us0 ++ [f.u]) (hst:F.st = st0 ++ [f]) (hks:F.ks = ks0 ++ [k]) (hdk:F.dk = dk0 ++ [k]) (hkd:k ∉ dk0) (hn:F.us.length ≤ 1000) (hn1:F.ks.length ≤ 1000) (hn2:F.dk.length ≤ 1000) (hL:f.L = d.L) (hk:d.succ[f.ix]? = none)
  (hsi:c.env.kindOf (oS "StopIteration") = some .globalImplicit) (hl3:Nat.ble 3 c.lvl = true) (hfr:c.A.frames = some (c.env :: outer)) (hfe:c.env.frame = some LL)
  (hq:∀ s',SF c { F with ks:=ks0,us:=us0,st:=st0,dk:=dk0 } ρ s'→Q .next s')
  (hline1:(d2.endLine == d3.line) = true:=by rfl) (hline2:(e2.endLine == e3.line) = true:=by rfl) (hi:interactive c.env = false:=by rfl)
  (hb1:attributeBase (.Name (oS "stack") d1) (oS "pop") c.env (eval (.Name (oS "stack") d1) c.env) = eval (.Name (oS "stack") d1) c.env:=by rfl)
  (hb2:attributeBase (.Name (oS "itstack") e1) (oS "pop") c.env (eval (.Name (oS "itstack") e1) c.env) = eval (.Name (oS "itstack") e1) c.env:=by rfl) :
  wpAny (MM c.w) c.A (exec (.Try [.Assign [.Name (oS "node") p0] (Oi0 p1 p2 p3 p4 p5) p6,.Break p7]
   [.ExceptHandler (some (.Name (oS "StopIteration") np)) none [.Delete [.Subscript (.Name (oS "node2stacki") d4) (.Call (.Attribute (.Name (oS "stack") d1) (oS "pop") d2) [] [] d3) d5] d6,.Expr (.Call (.Attribute (.Name (oS "itstack") e1) (oS "pop") e2) [] [] e3) e4] hpos] [] [] pos) c.env) Q E s:=by
 have hfm:f ∈ F.st:=by rw [hst]; simp
 refine wpAny_Try_except (wC (wpAny_Assign_Name (Fa1 ok W hy hu hn fun s1 W1=>?_) rfl))
 obtain ⟨eu,it⟩:=W1.at_.it f hfm
 refine Hh0 eu (Rd0 eu fun A' P E' hA' _ hE'=>?_)
 have at1:x.At c.w s1.heap:=by obtain ⟨h0,a0,q0⟩:=H; exact a0.keep fun b hb o e=>W1.st.pin (b,o) (q0 b hb o e)
 obtain ⟨vsL,nL,slL,eL,rL⟩:=(at1.nd d hd).2.2
 have hlenL:=Bm0 rL
 simp only [Array.length_toList] at hlenL
 rw [hL] at it
 refine Di1 (hA'.trans (ok.hand hl3)) it ⟨_,eL,rfl,nL,rfl⟩ ?_ fun h1 h' e ob vs hs1 hkp hnew hob hcls hdat hv1 hv2=>hE' _ _ ?_
 ·rw [List.getElem?_eq_none_iff] at hk; simp; simp_all
 obtain ⟨_,nz⟩:=W1.nds
 obtain ⟨q1,q2,q3,q4,q5⟩:=W1.at_.pI hs1.extBut fun y hy'=>Ne.symm (nz y hy' f hfm).2
 have htops:=W1.tops hst
 have hZ:∀ a ∈ ({ F with st:=st0 }:Fc).Z,a ∈ F.Z:=fun a ha=>by
  unfold Fc.Z at ha ⊢; rw [hst,List.flatMap_append]; exact List.mem_append_left _ ha
 have hN:(({ F with st:=st0 }:Fc).Y ++ ({ F with st:=st0 }:Fc).Z).Nodup:=by
  have nd:=W1.nd
  have hz:F.Y ++ F.Z = (({ F with st:=st0 }:Fc).Y ++ ({ F with st:=st0 }:Fc).Z) ++ [f].flatMap FrI.zs:=by
   unfold Fc.Z; rw [hst,List.flatMap_append,List.append_assoc]
  rw [hz] at nd
  exact (List.nodup_append.mp nd).1
 have W2:SF c { F with st:=st0 } ρ { s1 with heap:=h1 } :=
  W1.turn ok hfm hs1.extBut rfl hZ hN ⟨q1,q2,q3,q4,fun g hg=>q5 g (by rw [hst]; exact List.mem_append_left _ hg) (htops g hg).1 (htops g hg).2,W1.at_.lo⟩
 refine Ql0 (c:=c.mores F.Y) (s:={ s1 with heap:=h1 }) (ok.mores _) W2.st hfr hfe hkp hnew hob hdat hv1 hv2 rfl rfl W1.st.toks fun s3 oe vs' T oT ts k3 S3 w1 w2 w3 w4 w5 w6 w7 w8 w9=>?_
 have W3:=W2.step ok k3 S3.toks
 refine wM (To0 (c:=c.mores F.Y) (E:=fun _ _=>False) (ok.mores _) S3 (Nat.ble_eq.mpr (Nat.le_of_succ_le (Nat.ble_eq.mp hl3))) hsi w1 (w2.trans hcls) w3 w4 w5 w6 w7 w8 w9 PassesOwnAt.never fun s4 S4 k4=>?_) (fun _ _ z=>z) (fun _ _ z=>z.elim)
 have W3':=W3.step ok k4 S4.toks
 have okm:CxOk ((c.mark e).pins fun p=>c.pin p ∨ p = (e,oe)):=(ok.mark e (Nat.ble_eq.mpr (Nat.le_of_succ_le (Nat.ble_eq.mp hl3)))).pins _
 have W4:SF ((c.mark e).pins fun p=>c.pin p ∨ p = (e,oe)) { F with st:=st0 } ρ s4:=by
  refine ⟨S4,W3'.at_,⟨W3'.ap.new,W3'.ap.loc,W3'.ap.cell,W3'.ap.fs,W3'.ap.tab,W3'.ap.own,W3'.ap.x⟩,W3'.nd,fun q hq m=>hq.elim (fun q'=>W3'.pn q q' m) fun q'=>?_⟩
  rw [q'] at m
  obtain ⟨o,eo⟩:=W2.there e m
  have:h1.get? e = some o:=eo
  rw [hnew] at this; cases this
 show wpAny (MM ((c.mark e).pins fun p=>c.pin p ∨ p = (e,oe)).w) ((c.mark e).pins fun p=>c.pin p ∨ p = (e,oe)).A _ _ _ _
 refine Jm1 okm W4 hy1 hy4 hks hdk hn1 hn2 hkd (fun s5 W5=>?_) hline1 hb1
 refine Dj1 okm W5 hy hu hn (fun s6 W6=>wN ?_) hline2 hi hb2
 exact hq _ (W6.back fun q h=>.inl h)
end
section
variable {F:Fc}
theorem SF.other (ok:CxOk c) (W:SF c F ρ s) {I:Addr} {h':Heap} (hI:c.s0.heap.get? I = none) (hat:I ≠ tA) (hX:I ∉ c.XX ρ) (hYZ:I ∉ F.Y ++ F.Z) (hp:∀ q,c.pin q→q.1 ≠ I) {o:Obj} {vs:Array Value} {n:String} (e1:s.heap.get? I = some o) (e2:o.cls = .type n) (hnc:n ≠ "code") (e3:o.data = .fields vs) (hs:Heap.ExtBut I s.heap h'):SF c F ρ { s with heap:=h' }:=by
 refine ⟨W.st.upd (ok.mores _) (b:=I) hI (fun a o ne e=>hs a o ne e) hat (fun q=>?_) (fun o' e=>?_) hp rfl rfl W.st.toks,W.at_.keep fun a ha o e=>hs a o (fun q=>hYZ (q ▸ ha)) e,W.ap,W.nd,W.pn⟩
 ·rcases List.mem_append.mp q with q | q
  ·exact hX (List.mem_append_left _ q)
  ·rcases List.mem_append.mp q with q | q
   ·exact hYZ (List.mem_append_left _ q)
   ·exact hX (List.mem_append_right _ q)
 ·rw [e1] at e; cases e
  exact ⟨(by rw [e3]; intro _ _ h; cases h),.inl (by rw [e2]; intro q; exact hnc (Value.type.inj q))⟩
theorem SF.pins (W:SF c F ρ s) (ps:Addr × Obj→Prop) (h1:∀ p,ps p→s.heap.get? p.1 = some p.2) (h2:∀ p,ps p→p.1 ∉ c.XX ρ) (h3:∀ p,ps p→p.1 ∉ F.Y ++ F.Z):SF (c.pins ps) F ρ s :=
 ⟨W.st.pins ps h1 (fun p hp q=>by
  rcases List.mem_append.mp q with q | q
  ·exact h2 p hp (List.mem_append_left _ q)
  ·rcases List.mem_append.mp q with q | q
   ·exact h3 p hp (List.mem_append_left _ q)
   ·exact h2 p hp (List.mem_append_right _ q)),W.at_,⟨W.ap.new,W.ap.loc,W.ap.cell,W.ap.fs,W.ap.tab,W.ap.own,W.ap.x⟩,W.nd,h3⟩
theorem SF.unpin {ps:Addr × Obj→Prop} (W:SF (c.pins ps) F ρ s) (hp:∀ q,c.pin q→ps q):SF c F ρ s :=
 ⟨⟨W.st.since,W.st.toks,W.st.frs,W.st.ns,W.st.cell,W.st.loc,W.st.has,W.st.own,W.st.raw,fun p h=>W.st.pin p (hp p h),fun p h=>W.st.pinx p (hp p h)⟩,W.at_,⟨W.ap.new,W.ap.loc,W.ap.cell,W.ap.fs,W.ap.tab,W.ap.own,W.ap.x⟩,W.nd,fun q h=>W.pn q (hp q h)⟩
theorem Held.atSF {x:Srt} (H:Held c x) (W:SF c F ρ s):x.At c.w s.heap:=by obtain ⟨h0,a0,q0⟩:=H; exact a0.keep fun b hb o e=>W.st.pin (b,o) (q0 b hb o e)
noncomputable def sfQ (c:Cx) (ρ:Rho) (J:Fc→Prop) (fl:Flow) (s:Shared):Prop:=(fl = .next ∨ fl = .cont)∧∃ F,SF c F ρ s∧J F
theorem Xa0 {x:Srt} {tpos ipos:Pos} (J:Fc→Prop) (ok:CxOk c) (W:SF c F ρ s) (H:Held c x) (hy:ρ.lookup (oS "n2i") = some (.raw (.ref x.N))) (hJ0:J F)
  (hx:c.env.kindOf (oS "node") = some .local)
  (turn:∀ k pins F' s',k ∈ x.nds.map (·.key)→(∀ q,c.pin q→pins q)→CxOk (c.pins pins)→J F'→SF (c.pins pins) F' ((oS "node",.val (.str k)) :: ρ) s'→∀ E',wpAny (MM (c.pins pins).w) (c.pins pins).A (execs body (c.pins pins).env) (sfQ (c.pins pins) ρ J) E' s')
  (hend:∀ F' s',J F'→SF c F' ρ s'→wpAny (MM c.w) c.A (execs rest c.env) Q E s')
  (hs:∀ x,foldedSetIterable (.Name (oS "n2i") ipos) c.env x = pure x:=by intro _; rfl) (hl3:Nat.ble 3 c.lvl = true:=by rfl):wpAny (MM c.w) c.A (execs (.For (.Name (oS "node") tpos) (.Name (oS "n2i") ipos) body [] pos :: rest) c.env) Q E s:=by
 refine wC (wpAny_For (Bs0 ok W (fun p _ okp=>Ai0 okp hy) fun v s1 W1 k1 hv=>?_) hs)
 subst hv
 have at1:=H.atSF W1
 obtain ⟨ep,hat1⟩:=at1.n.dictAt
 refine wpAny_pyIter_dict (knd:=sK c.w) (Ob0 (at1.lo _ (.tail _ (.tail _ (.head _))))) hat1 ?_
 have hbig:=W1.st.big (ok.mores _)
 have hat:s1.heap.objs.size ≠ tA:=Nat.ne_of_gt (Nat.lt_of_lt_of_le (by decide) hbig)
 have hI0:c.s0.heap.get? s1.heap.objs.size = none:=W1.st.new0 (ok.mores _) (Aj0 _) hat
 have hIX:s1.heap.objs.size ∉ c.XX ρ:=fun q=>W1.st.fresh (by
  rcases List.mem_append.mp q with q | q
  ·exact List.mem_append_left _ q
  ·exact List.mem_append_right _ (List.mem_append_right _ q))
 have hpn:∀ p,c.pin p→p.1 ≠ s1.heap.objs.size:=fun p hp q=>by have:=W1.st.pin p hp; rw [q,Aj0] at this; cases this
 have hIYZ:s1.heap.objs.size ∉ F.Y ++ F.Z:=fun q=>by obtain ⟨o,e⟩:=W1.there _ q; rw [Aj0] at e; cases e
 obtain ⟨h0,a0,q0⟩:=H
 have HN:∃ oN,x.At c.w h0∧h0.get? x.N = some oN:=by obtain ⟨o,es,e0,e,r⟩:=a0.n; exact ⟨o,a0,e⟩
 have hda:∀ F' s',SF c F' ρ s'→s'.heap.DictAt (sK c.w) x.N x.kvs ep:=fun F' s' W'=>by
  obtain ⟨oN,_,eN⟩:=HN
  have hp:=q0 x.N (.tail _ (.tail _ (.head _))) oN eN
  obtain ⟨o,es,e,r⟩:=hat1
  have h1:=W1.st.pin (x.N,oN) hp
  have h2:=W'.st.pin (x.N,oN) hp
  simp only at h1 h2
  rw [h1] at e; cases e
  exact ⟨oN,es,h2,r⟩
 refine codeAny_forLoop_any (fun n s'=>∃ i F',n = x.kvs.length + 1 - i∧i ≤ x.kvs.length∧SF c F' ρ s'∧s'.heap.IsKeyIter s1.heap.objs.size x.N i x.kvs.length ep∧J F'∧s1.heap.objs.size ∉ F'.Y ++ F'.Z) ?_ (x.kvs.length + 1) ⟨0,F,rfl,Nat.zero_le _,W1.step ok (.push _ _) W1.st.toks,⟨_,Heap.get?_push_size _ rfl,rfl,rfl⟩,hJ0,hIYZ⟩
 rintro n s' ⟨i,F',rfl,hi,W',it,j,hIF⟩
 have hup:∀ h',Heap.ExtBut s1.heap.objs.size s'.heap h'→SF c F' ρ { s' with heap:=h' }:=fun h' hk=>by
  obtain ⟨o,e1,e2,e3⟩:=it
  exact W'.other ok hI0 hat hIX hIF hpn e1 e2 (by decide) e3 hk
 by_cases hlt:i < x.kvs.length
 ·refine wpAny_pyNext_dict_item (knd:=sK c.w) it (hda F' s' W') (k:=x.kvs[i].1) (v:=x.kvs[i].2) (List.getElem?_eq_getElem hlt) fun key h' hkey it' hs'=>?_
  have W3:=hup h' hs'.extBut
  obtain ⟨t,hQ164⟩:=Value.isStrOf_shape hkey; subst hQ164
  obtain ⟨oI,f1,f2,f3⟩:=it'
  refine Gu0 (c:=c) ⟨oI,_,_,f1,f3,f2,by decide,by decide⟩ ?_
  let P1:Addr × Obj→Prop:=fun p=>c.pin p ∨ p = (s1.heap.objs.size,oI)
  have W4:SF (c.pins P1) F' ρ _:=W3.pins P1 (fun p hp=>hp.elim (W3.st.pin p) fun q=>by rw [q]; exact f1) (fun p hp=>hp.elim (fun q m=>W3.st.pinx p q (by
   rcases List.mem_append.mp m with m | m
   ·exact List.mem_append_left _ m
   ·exact List.mem_append_right _ (List.mem_append_right _ m))) fun q=>by rw [q]; exact hIX) (fun p hp=>hp.elim (W3.pn p) fun q=>by rw [q]; exact hIF)
  have hkm:x.kvs[i].1 ∈ x.nds.map (·.key):=by
   have h1:x.kvs[i].1 ∈ x.kvs.map (·.1):=List.mem_map.mpr ⟨_,List.getElem_mem hlt,rfl⟩
   have h2:x.kvs.map (·.1) = x.nds.map (·.key):=by unfold Srt.kvs; simp [Function.comp_def]
   rw [h2] at h1; exact h1
  refine wpAny_assign_Name (SF.store (c:=c.pins P1) (ok.pins P1) W4 hx rfl fun s5 W5=>?_)
  refine wM (turn _ P1 F' s5 hkm (fun q h=>.inl h) (ok.pins P1) j W5 _) (fun fl s6 h6=>?_) fun _ _ x=>x
  obtain ⟨hfl,F'',W6,j6⟩:=h6
  have hnext:∃ m,m < x.kvs.length + 1 - i∧∃ i' F',m = x.kvs.length + 1 - i'∧i' ≤ x.kvs.length∧SF c F' ρ s6∧s6.heap.IsKeyIter s1.heap.objs.size x.N i' x.kvs.length ep∧J F'∧s1.heap.objs.size ∉ F'.Y ++ F'.Z :=
   ⟨_,by grind,i + 1,F'',rfl,hlt,W6.unpin fun p hp=>.inl hp,⟨oI,W6.st.pin (_,oI) (.inr rfl),f2,f3⟩,j6,W6.pn (_,oI) (.inr rfl)⟩
  rcases hfl with rfl | rfl
  ·exact hnext
  ·exact hnext
 ·have hin:i = x.kvs.length:=by lia
  subst hin
  refine wpAny_pyNext_dict_end (knd:=sK c.w) (ok.hand hl3) it (hda F' s' W') (by simp) fun h' hk=>?_
  exact wN (hend F' _ j (hup h' hk))
end
theorem Apart.nil:Apart c ρ []:=⟨(fun _ q=>by cases q),(fun _ q=>by cases q),(fun _ q=>by cases q),(fun _ q=>by cases q),(fun _ q=>by cases q),(fun _ q=>by cases q),(fun _ q=>by cases q)⟩
section
theorem Vc0 {o:Obj} {Q:Unit→Shared→Prop} (ok:CxOk c) (S:St c ρ s) (hx:c.env.kindOf y = some .local) (hcd:(y == ("__classdict__" : Str)) = false) (hf:o.isFreed = false)
  (h:∀ a s',CxOk (c.pins fun q=>c.pin q ∨ q = (a,o))→Apart c ρ [a]→(∀ q,c.pin q→q.1 ≠ a)→269 ≤ a→St (c.pins fun q=>c.pin q ∨ q = (a,o)) ((y,.raw (.ref a)) :: ρ) s'→Q () s'):wpAny (MM c.w) c.A (storeName c.env y (.ref s.heap.objs.size)) Q E { s with heap:=s.heap.push o }:=by
 have hfr:=Aj0 s.heap
 have hpn:∀ q,c.pin q→q.1 ≠ s.heap.objs.size:=fun q hq e=>by have:=S.pin q hq; rw [e,hfr] at this; cases this
 have hap:Apart c ρ [s.heap.objs.size]:=Apart.extend (Y:=[]) ok S Apart.nil fun a ha=>.inr (by rw [List.mem_singleton.mp ha]; exact hfr)
 have S1:=S.step (s':={ s with heap:=s.heap.push o }) ok (.push _ _) S.toks
 have S2:St (c.pins fun q=>c.pin q ∨ q = (s.heap.objs.size,o)) ρ { s with heap:=s.heap.push o }:=S1.pins _ (fun p hp=>hp.elim (S1.pin p) fun q=>by rw [q]; exact Heap.get?_push_size _ hf) fun p hp=>hp.elim (S1.pinx p) fun q=>by rw [q]; exact S.fresh
 exact S2.storeS (c:=c.pins _) (ok.pins _) (.inl hx) hcd (.inr rfl) fun s' S' _ _=>h _ s' (ok.pins _) hap hpn (S.big ok) S'
theorem St.toMores {Y:List Addr} (S:St c ρ s) (hr:∀ y d,ρ.lookup y ≠ some (.val d)) (ho:∀ y a ds,ρ.lookup y ≠ some (.own a ds)) (hY:∀ a ∈ Y,∃ o,s.heap.get? a = some o∧Nf a o) (hp:∀ q,c.pin q→q.1 ∉ Y):St (c.mores Y) ρ s :=
 ⟨S.since,S.toks,S.frs,S.ns,S.cell,fun y d h=>absurd h (hr y d),fun a ha=>by
  rcases List.mem_append.mp ha with q | q
  ·exact S.has a (List.mem_append_left _ q)
  ·rcases List.mem_append.mp q with q | q
   ·exact hY a q
   ·exact S.has a (List.mem_append_right _ q),fun y a ds h=>absurd h (ho y a ds),S.raw,S.pin,fun p h m=>by
  rcases List.mem_append.mp m with q | q
  ·exact S.pinx p h (List.mem_append_left _ q)
  ·rcases List.mem_append.mp q with q | q
   ·exact hp p h q
   ·exact S.pinx p h (List.mem_append_right _ q)⟩
end
noncomputable def Unv (nds:List Nd) (sn:Str→Bool):Nat:=((nds.filter fun d=>!sn d.key).map fun d=>1 + d.succ.length).sum
noncomputable def Rem (fr:List (Nd × FrI)):Nat:=(fr.map fun p=>p.1.succ.length - p.2.ix).sum
theorem Dk1 {nds:List Nd} {sn:Str→Bool} (h:k ∉ nds.map (·.key)):Unv nds (fun k'=>sn k' || decide (k' = k)) = Unv nds sn:=by
 unfold Unv
 congr 2
 apply List.filter_congr
 intro d hd
 have:¬ d.key = k:=fun q=>h (q ▸ List.mem_map.mpr ⟨d,hd,rfl⟩)
 simp [this]
theorem Gu1 {nds:List Nd} {sn:Str→Bool} {d:Nd} (hn:(nds.map (·.key)).Nodup) (hd:d ∈ nds) (hs:sn d.key = false):Unv nds sn = Unv nds (fun k'=>sn k' || decide (k' = d.key)) + (1 + d.succ.length):=by
 induction nds with
 | nil=>cases hd
 | cons e r ih =>
  rw [List.map_cons,List.nodup_cons] at hn
  rcases List.mem_cons.mp hd with rfl | hd
  ·have h1:=Dk1 (sn:=sn) hn.1
   unfold Unv at h1 ⊢
   rw [List.filter_cons_of_pos (by simp [hs]),List.filter_cons_of_neg (by simp),h1]
   simp; exact Nat.add_comm _ _
  ·have hne:e.key ≠ d.key:=fun q=>hn.1 (q ▸ List.mem_map.mpr ⟨d,hd,rfl⟩)
   have h1:=ih hn.2 hd
   simp only [Unv] at h1 ⊢
   cases q:sn e.key with
   | true =>
    rw [List.filter_cons_of_neg (by simp [q]),List.filter_cons_of_neg (by simp [q])]
    exact h1
   | false =>
    rw [List.filter_cons_of_pos (by simp [q]),List.filter_cons_of_pos (by simp [q,hne])]
    simp only [List.map_cons,List.sum_cons]
    lia
structure CI (x:Srt) (rank:Str→Nat) (F:Fc) (fr:List (Nd × FrI)):Prop where
 ks:F.ks = fr.map (·.1.key)
 us:F.us = fr.map (·.2.u)
 st:F.st = fr.map (·.2)
 dk:F.dk = fr.map (·.1.key)
 nd:∀ p ∈ fr,p.1 ∈ x.nds∧p.2.L = p.1.L
 up:(fr.map fun p=>rank p.1.key).Pairwise (· < ·)
 seen:∃ sl:List Str,sl.Nodup∧sl.length = F.n∧(∀ k,F.sn k = true ↔ k ∈ sl)∧∀ k ∈ sl,k ∈ x.nds.map (·.key)
 on:∀ p ∈ fr,F.sn p.1.key = true
theorem Hi0 {l m:List Str} (h:l.Nodup) (hs:∀ k ∈ l,k ∈ m):l.length ≤ m.length:=(List.nodup_iff_count.mp h |> fun _=>List.Nodup.length_le_of_subset h hs)
theorem CI.size {x:Srt} {rank:Str→Nat} {F:Fc} {fr:List (Nd × FrI)} (C:CI x rank F fr):F.n ≤ x.nds.length∧fr.length ≤ x.nds.length:=by
 obtain ⟨sl,h1,h2,h3,h4⟩:=C.seen
 refine ⟨?_,?_⟩
 ·rw [← h2,← List.length_map (f:=fun (d:Nd)=>d.key) (as:=x.nds)]
  exact Hi0 h1 h4
 ·have hnd:(fr.map (·.1.key)).Nodup:=by
   have:=C.up
   rw [List.pairwise_map] at this
   unfold List.Nodup
   rw [List.pairwise_map]
   exact this.imp fun {a b} h q=>absurd (q ▸ h) (Nat.lt_irrefl _)
  have:=Hi0 (m:=x.nds.map (·.key)) hnd fun k hk=>by
   obtain ⟨p,hp,hQ165⟩:=List.mem_map.mp hk; subst hQ165
   exact List.mem_map.mpr ⟨p.1,(C.nd p hp).1,rfl⟩
  simpa using this
theorem Jn1 (w:World) {h:Heap} {a:Addr} (e:h.get? a = some { cls:=.type "dict",data:=.dict #[] }):h.DictOf (sK w) a [] :=
 ⟨_,#[],0,e,⟨rfl,rfl,rfl⟩,rfl,(fun e he=>by simp at he),.nil,List.nodup_nil⟩
theorem Nd1 (w:World) {h:Heap} {a:Addr} {led:Bool} (e:h.get? a = some { cls:=.type "set",dict:=none,data:=.set #[] 0 (.fresh 0 0 led) }):h.SetOf (sK w) a (fun _=>false) 0 :=
 ⟨_,#[],0,_,e,⟨rfl,rfl,rfl⟩,rfl,(fun e he=>by simp at he),(fun k=>by simp),by decide,rfl,rfl⟩
theorem SY.lookH {x:Srt} (ok:CxOk c) (Y:SY c x ρ s):CxOk (c.pins (atY c x.addrs s.heap))∧St (c.pins (atY c x.addrs s.heap)) ρ s∧Held (c.pins (atY c x.addrs s.heap)) x:=⟨ok.pins _,Y.look,Hf0 Y.at_⟩
theorem Apart.re {c':Cx} {Y:List Addr} (h:Apart c ρ Y) (ho:As0 ρ' = []) (h1:c'.s0 = c.s0) (h2:c'.env = c.env) (h3:c'.fs = c.fs) (h4:c'.X = c.X):Apart c' ρ' Y:=h.to ho h1 h2 h3 h4
theorem Gv1 {a1 a2 a3 a4:Addr} {led:Bool} {P:Addr × Obj→Prop} (ok:CxOk c) (S:St (c.pins P) ρ s) (hP:∀ q,c.pin q→P q) (h1:P (a1,{ cls:=.type "list",data:=.seq ([]:List Value).toArray })) (h2:P (a2,{ cls:=.type "list",data:=.seq ([]:List Value).toArray }))
  (h3:P (a3,{ cls:=.type "set",dict:=none,data:=.set #[] 0 (.fresh 0 0 led) })) (h4:P (a4,{ cls:=.type "dict",data:=.dict #[] })) (ap1:Apart c ρ [a1]) (ap2:Apart c ρ [a2]) (ap3:Apart c ρ [a3]) (ap4:Apart c ρ [a4]) (nd:[a1,a2,a3,a4].Nodup) (lo:269 ≤ a4)
  (pn:∀ q,c.pin q→q.1 ∉ [a1,a2,a3,a4]) (hr:∀ y d,ρ.lookup y ≠ some (.val d)) (ho:∀ y a ds,ρ.lookup y ≠ some (.own a ds)):SF c ⟨a1,a2,a3,a4,[],[],[],fun _=>false,0,[]⟩ ρ s:=by
 have e1:=S.pin _ h1
 have e2:=S.pin _ h2
 have e3:=S.pin _ h3
 have e4:=S.pin _ h4
 have at0:(⟨a1,a2,a3,a4,[],[],[],fun _=>false,0,[]⟩:Fc).At c.w s.heap:=⟨⟨#[],0,#[],e1,.nil⟩,⟨#[],0,#[],e2,rfl⟩,Nd1 _ e3,⟨[],Jn1 _ e4,rfl⟩,(fun f hf=>by cases hf),lo⟩
 refine ⟨(St.unpin (c:=c) S hP).toMores hr ho at0.has pn,at0,((ap1.app (ap2.app (ap3.app ap4))).sub fun a ha=>by simpa [Fc.Z] using ha),by simpa [Fc.Z] using nd,fun q hq m=>pn q hq (by simpa [Fc.Z] using m)⟩
noncomputable def Fb1 (ρ:Rho):Bool:=ρ.all fun p=>match p.2 with | .raw _=>true | _=>false
theorem Dl1 (h:Fb1 ρ = true) (y:Str) (d:PyData):ρ.lookup y ≠ some (.val d):=fun q=>by
 have:=List.all_eq_true.mp h _ (Ag0 q); simp at this
theorem Dm1 (h:Fb1 ρ = true) (y:Str) (a:Addr) (ds:List PyData):ρ.lookup y ≠ some (.own a ds):=fun q=>by
 have:=List.all_eq_true.mp h _ (Ag0 q); simp at this
noncomputable abbrev ρF (F:Fc) (x:Srt):Rho:=[(oS "node2stacki",.raw (.ref F.a4)),(oS "seen",.raw (.ref F.a3)),(oS "itstack",.raw (.ref F.a2)),(oS "stack",.raw (.ref F.a1)),(oS "n2i",.raw (.ref x.N)),(oS "self",.raw (.ref x.T))]
theorem Oj0 (l:List (Nd × FrI)) (p:Nd × FrI):Rem (l ++ [p]) = Rem l + (p.1.succ.length - p.2.ix):=by unfold Rem; simp
theorem CI.push {x:Srt} {rank:Str→Nat} {F:Fc} {fr:List (Nd × FrI)} (C:CI x rank F fr) {d:Nd} {u I:Addr} (hd:d ∈ x.nds) (hs:F.sn d.key = false) (hr:∀ p ∈ fr,rank p.1.key < rank d.key) :
  CI x rank { F with ks:=F.ks ++ [d.key],us:=F.us ++ [u],st:=F.st ++ [⟨u,I,d.L,0⟩],sn:=fun k'=>F.sn k' || decide (k' = d.key),n:=F.n + 1,dk:=F.dk ++ [d.key] } (fr ++ [(d,⟨u,I,d.L,0⟩)]):=by
 obtain ⟨sl,h1,h2,h3,h4⟩:=C.seen
 refine ⟨by simp [C.ks],by simp [C.us],by simp [C.st],by simp [C.dk],fun p hp=>?_,?_,⟨d.key :: sl,?_,by simp [h2],fun k=>?_,fun k hk=>?_⟩,fun p hp=>?_⟩
 ·rcases List.mem_append.mp hp with q | q
  ·exact C.nd p q
  ·rw [List.mem_singleton.mp q]; exact ⟨hd,rfl⟩
 ·rw [List.map_append,List.pairwise_append]
  refine ⟨C.up,by simp,fun a ha b hb=>?_⟩
  obtain ⟨p,hp,hQ166⟩:=List.mem_map.mp ha; subst hQ166
  rw [show b = rank d.key by simpa using hb]
  exact hr p hp
 ·refine List.nodup_cons.mpr ⟨fun q=>?_,h1⟩
  rw [(h3 _).mpr q] at hs; cases hs
 ·simp [h3,or_comm]
 ·rcases List.mem_cons.mp hk with rfl | q
  ·exact List.mem_map.mpr ⟨d,hd,rfl⟩
  ·exact h4 k q
 ·rcases List.mem_append.mp hp with q | q
  ·simp [C.on p q]
  ·rw [List.mem_singleton.mp q]; simp
theorem CI.item {x:Srt} {rank:Str→Nat} {F:Fc} {fr:List (Nd × FrI)} {d:Nd} {f:FrI} (C:CI x rank F (fr ++ [(d,f)])) (i:Nat) :
  CI x rank { F with st:=fr.map (·.2) ++ [{ f with ix:=i }] } (fr ++ [(d,{ f with ix:=i })]):=by
 refine ⟨by simp [C.ks],by simp [C.us],by simp,by simp [C.dk],fun p hp=>?_,by have:=C.up; simp only [List.map_append,List.map_cons,List.map_nil] at this ⊢; exact this,C.seen,fun p hp=>?_⟩
 ·rcases List.mem_append.mp hp with q | q
  ·exact C.nd p (List.mem_append_left _ q)
  ·rw [List.mem_singleton.mp q]; exact C.nd (d,f) (by simp)
 ·rcases List.mem_append.mp hp with q | q
  ·exact C.on p (List.mem_append_left _ q)
  ·rw [List.mem_singleton.mp q]; exact C.on (d,f) (by simp)
theorem CI.pop {x:Srt} {rank:Str→Nat} {F:Fc} {fr:List (Nd × FrI)} {d:Nd} {f:FrI} (C:CI x rank F (fr ++ [(d,f)])) :
  CI x rank { F with ks:=fr.map (·.1.key),us:=fr.map (·.2.u),st:=fr.map (·.2),dk:=fr.map (·.1.key) } fr :=
 ⟨rfl,rfl,rfl,rfl,fun p hp=>C.nd p (List.mem_append_left _ hp),by have:=C.up; rw [List.map_append,List.pairwise_append] at this; exact this.1,C.seen,fun p hp=>C.on p (List.mem_append_left _ hp)⟩
theorem Lu1 {p:Prop} [Decidable p] {a b:Prop} (h:¬p) (x:b):if p then a else b:=by rw [if_neg h]; exact x
noncomputable def brQ (c:Cx) (body orelse:List Stmt) (Q1 Q2:Flow→Shared→Prop) (E:Value→Shared→Prop):Bool→Shared→Prop
 | true,s=>wpAny (MM c.w) c.A (execs body c.env) Q1 E s
 | false,s=>wpAny (MM c.w) c.A (execs orelse c.env) Q2 E s
noncomputable def whQ (Inv:Nat→Shared→Prop) (n:Nat) (K:Flow→Shared→Prop):Flow→Shared→Prop
 | .next,s=>∃ m,m < n∧Inv m s
 | .cont,s=>∃ m,m < n∧Inv m s
 | .brk,s=>K .next s
 | .ret v,s=>K (.ret v) s
noncomputable def Gw1 (P:Shared→Prop) (f:Flow) (s:Shared):Prop:=f = .next∧P s
section
variable {t:Expr} {orelse:List Stmt}
theorem Jo1 (h:wpAny (MM c.w) c.A (isTrue t c.env (eval t c.env)) (brQ c body orelse (Nm0 c rest Q E) (Nm0 c rest Q E) E) E s):wpAny (MM c.w) c.A (execs (.If t body orelse pos :: rest) c.env) Q E s :=
 wC (wpAny_If (wM h (fun b s' h=>by cases b <;> exact h) fun _ _ x=>x))
theorem Gx1 (P:Shared→Prop) (h1:wpAny (MM c.w) c.A (isTrue t c.env (eval t c.env)) (brQ c body orelse (Gw1 P) (Gw1 P) E) E s) (h2:∀ s',P s'→wpAny (MM c.w) c.A (execs rest c.env) Q E s') :
  wpAny (MM c.w) c.A (execs (.If t body orelse pos :: rest) c.env) Q E s:=by
 have key:∀ f s',Gw1 P f s'→Nm0 c rest Q E f s':=fun f s' h=>by rw [h.1]; exact h2 s' h.2
 refine Jo1 (wM h1 (fun b s' h=>?_) fun _ _ x=>x)
 cases b <;> exact wM h key fun _ _ x=>x
theorem Fc1 (Inv:Nat→Shared→Prop) (n:Nat) (h0:Inv n s) (turn:∀ n s,Inv n s→∀ E',wpAny (MM c.w) c.A (isTrue t c.env (eval t c.env)) (brQ c body orelse (whQ Inv n (Nm0 c rest Q E)) (Nm0 c rest Q E) E') E' s) :
  wpAny (MM c.w) c.A (execs (.While t body orelse pos :: rest) c.env) Q E s:=by
 refine wC (wpAny_While (codeAny_whileLoop Inv (fun n s hI=>wM (turn n s hI _) (fun b s2 h2=>?_) fun _ _ x=>x) n h0))
 cases b
 ·exact h2
 ·exact wM h2 (fun f s3 h3=>by cases f <;> exact h3) fun _ _ x=>x
end
theorem Held.more {x:Srt} (H:Held c x) {ps:Addr × Obj→Prop} (h:∀ q,c.pin q→ps q):Held (c.pins ps) x:=by obtain ⟨h0,a0,q0⟩:=H; exact ⟨h0,a0,fun a ha o e=>h _ (q0 a ha o e)⟩
structure CyS (c:Cx) (x:Srt) (rank:Str→Nat) (F0:Fc) (k:Str) (F:Fc) (fr:List (Nd × FrI)) (s:Shared):Prop where
 a1:F.a1 = F0.a1
 a2:F.a2 = F0.a2
 a3:F.a3 = F0.a3
 a4:F.a4 = F0.a4
 C:CI x rank F fr
 W:SF c F ((oS "node",.val (.str k)) :: ρF F0 x) s
noncomputable def CyW (c:Cx) (x:Srt) (rank:Str→Nat) (F0:Fc) (n:Nat) (s:Shared):Prop:=∃ F fr k,CyS c x rank F0 k F fr s∧k ∈ x.nds.map (·.key)∧(∀ p ∈ fr,rank p.1.key < rank k)∧n = Unv x.nds F.sn + Rem fr
noncomputable def CyJ (c:Cx) (x:Srt) (rank:Str→Nat) (F0:Fc) (k:Str) (m:Nat) (s:Shared):Prop:=∃ F fr,CyS c x rank F0 k F fr s∧Unv x.nds F.sn + Rem fr ≤ m
noncomputable def CyV (c:Cx) (x:Srt) (rank:Str→Nat) (F0:Fc) (k:Str) (m n:Nat) (s:Shared):Prop:=∃ F fr,CyS c x rank F0 k F fr s∧Unv x.nds F.sn + Rem fr ≤ m∧n = fr.length
structure CyF (x:Srt) (rank:Str→Nat) (F0 F:Fc):Prop where
 a1:F.a1 = F0.a1
 a2:F.a2 = F0.a2
 a3:F.a3 = F0.a3
 a4:F.a4 = F0.a4
 C:CI x rank F []
theorem Zv0 (w:World) (x:Srt) (rank:Str→Nat) (hrk:∀ d ∈ x.nds,∀ k ∈ d.succ,rank d.key < rank k∧k ∈ x.nds.map (·.key)) (hN:x.nds.length ≤ 900):Mth w 6 171 x [] (fun x' v _=>x' = x∧v = .none):=by
 intro A fs X s vs am at_ hX rv
 cases rv
 obtain ⟨fl,hfl,hffs⟩:=am.frames
 refine Ep0 (ps:=[oS "self"]) (vs:=[.ref x.T]) (sls:=[.raw (.ref x.T)]) (lvl:=5)
  am (at_.yok hX) (am.wd.k 171 _ (show (KF w).lookup 171 = some _ from rfl)) (codeRec_of am.wd.k (show codeIn (KF w) (.ref 170) (oS "TopologicalSorter._find_cycle") = true from rfl)) rfl (.raw .nil) (BindsTo.of_eq rfl) (by decide) (by rfl) (by decide) (by rfl) (fun L=>rfl) ?_
 intro X' fs' L s1 c Q E ok0 S ap hkeep _ hks
 have Y1:SY _ x [(oS "self",.raw (.ref x.T))] s1:=⟨S,at_.keep hkeep,ap.rho fun a _ q=>by cases q⟩
 refine Dc0 ok0 Y1 (fun q H okp=>Mo0 okp H (Ai0 okp rfl)) rfl rfl rfl fun s2 Y2=>?_
 let c1:Cx:=c.pins (atY c x.addrs s2.heap)
 obtain ⟨okP,SP,H⟩:CxOk c1∧St c1 _ s2∧Held c1 x:=Y2.lookH ok0
 refine wC (wpAny_Assign_Name (List_ (spliced_nil (wpAny_newList ?_ (by decide)))) rfl)
 show wpAny (MM c1.w) c1.A (storeName c1.env _ _) _ _ _
 refine Vc0 okP SP rfl rfl rfl fun a1 s3 ok3 ap1 pn1 lo1 S3=>?_
 let c2:Cx:=ok3.cx
 have ok3:CxOk c2:=ok3
 have S3:St c2 _ _:=S3
 refine wC (wpAny_Assign_Name (List_ (spliced_nil (wpAny_newList ?_ (by decide)))) rfl)
 show wpAny (MM c2.w) c2.A (storeName c2.env _ _) _ _ _
 refine Vc0 ok3 S3 rfl rfl rfl fun a2 s4 ok4 ap2 pn2 lo2 S4=>?_
 let c3:Cx:=ok4.cx
 have ok4:CxOk c3:=ok4
 have S4:St c3 _ _:=S4
 show wpAny (MM c3.w) c3.A (execs _ c3.env) _ _ _
 refine wC (wpAny_Assign_Name (wpAny_Call_ofName (Ad0 ok4 (Li1 ok4 rfl) S4 (.refl _ _) fun v s5 S5 _ _ hv=>?_)) rfl)
 subst hv
 refine PyProof.Rows.callWith_type rfl (evalArgs_nil3 (call_set_0 fun led=>?_))
 show wpAny (MM c3.w) c3.A (storeName c3.env _ _) _ _ _
 refine Vc0 ok4 S5 rfl rfl rfl fun a3 s6 ok6 ap3 pn3 lo3 S6=>?_
 let c4:Cx:=ok6.cx
 have ok6:CxOk c4:=ok6
 have S6:St c4 _ _:=S6
 refine wC (wpAny_Assign_Name (wpAny_Dict_empty ?_) rfl)
 show wpAny (MM c4.w) c4.A (storeName c4.env _ _) _ _ _
 refine Vc0 ok6 S6 rfl rfl rfl fun a4 s7 ok7 ap4 pn4 lo4 S7=>?_
 have W:=Gv1 (a1:=a1) (a2:=a2) (a3:=a3) (a4:=a4) (led:=led) okP S7 (fun q h=>.inl (.inl (.inl (.inl h)))) (.inl (.inl (.inl (.inr rfl)))) (.inl (.inl (.inr rfl))) (.inl (.inr rfl)) (.inr rfl) (ap1.re rfl rfl rfl rfl rfl) (ap2.re rfl rfl rfl rfl rfl) (ap3.re rfl rfl rfl rfl rfl) (ap4.re rfl rfl rfl rfl rfl)
  (by
   have n12:=pn2 (a1,_) (.inr rfl)
   have n13:=pn3 (a1,_) (.inl (.inr rfl))
   have n23:=pn3 (a2,_) (.inr rfl)
   have n14:=pn4 (a1,_) (.inl (.inl (.inr rfl)))
   have n24:=pn4 (a2,_) (.inl (.inr rfl))
   have n34:=pn4 (a3,_) (.inr rfl)
   simp only at n12 n13 n23 n14 n24 n34
   simp [n12,n13,n14,n23,n24,n34]) lo4 (fun q hq=>by
   have m1:=pn1 q hq
   have m2:=pn2 q (.inl hq)
   have m3:=pn3 q (.inl (.inl hq))
   have m4:=pn4 q (.inl (.inl (.inl hq)))
   simp [m1,m2,m3,m4]) (fun y d=>Dl1 rfl y d) (fun y a ds=>Dm1 rfl y a ds)
 have C0:CI x rank ⟨a1,a2,a3,a4,[],[],[],fun _=>false,0,[]⟩ []:=⟨rfl,rfl,rfl,rfl,(fun p hp=>by cases hp),.nil,⟨[],List.nodup_nil,rfl,(fun k=>by simp),(fun k hk=>by cases hk)⟩,(fun p hp=>by cases hp)⟩
 show wpAny (MM c1.w) c1.A (execs _ c1.env) _ _ _
 let F0:Fc:=⟨a1,a2,a3,a4,[],[],[],fun _=>false,0,[]⟩
 refine Xa0 (x:=x) (CyF x rank F0) okP W H rfl ⟨rfl,rfl,rfl,rfl,C0⟩ rfl ?_ ?_
 ·intro k pins F s8 hk hpins okq JF W8 E'
  let cq:Cx:=okq.cx
  have okq:CxOk cq:=okq
  have W8:SF cq F ((oS "node",.val (.str k)) :: ρF F0 x) s8:=W8
  have Hq:Held cq x:=H.more hpins
  refine (let Qf:=_; (?_:wpAny (MM cq.w) cq.A (execs _ cq.env) Qf E' s8))
  refine Jo1 (Zq0 okq W8 rfl (congrArg (fun a=>some (Slot.raw (.ref a))) JF.a3.symm) fun s9 W9=>?_)
  cases hsn:F.sn k with
  | true =>
   refine (?_:wpAny (MM cq.w) cq.A (execs _ cq.env) _ _ _)
   exact wC (wpAny_Continue ⟨.inr rfl,F,W9.drop (.cons rfl (.cons rfl (.cons rfl (.cons rfl (.cons rfl (.cons rfl .nil)))))),JF⟩)
  | false =>
   refine (wN ?_:wpAny (MM cq.w) cq.A (execs _ cq.env) _ _ _)
   refine Fc1 (c:=cq) (CyW cq x rank F0) _ ⟨F,[],k,⟨JF.a1,JF.a2,JF.a3,JF.a4,JF.C,W9⟩,hk,(fun p hp=>by cases hp),rfl⟩ ?_
   rintro n sA ⟨F1,fr1,k1,Y1,hk1,hr1,hn⟩ Ew
   have C1:=Y1.C
   have l1:(ρF F0 x).lookup (oS "stack") = some (.raw (.ref F1.a1)):=by rw [Y1.a1]; rfl
   have l2:(ρF F0 x).lookup (oS "itstack") = some (.raw (.ref F1.a2)):=by rw [Y1.a2]; rfl
   have l3:(ρF F0 x).lookup (oS "seen") = some (.raw (.ref F1.a3)):=by rw [Y1.a3]; rfl
   have l4:(ρF F0 x).lookup (oS "node2stacki") = some (.raw (.ref F1.a4)):=by rw [Y1.a4]; rfl
   refine wpAny_isTrue_value (wpAny_Constant_bool (wpAny_truthy_bool ?_)) rfl
   refine (let Qw:=_; (?_:wpAny (MM cq.w) cq.A (execs _ cq.env) Qw Ew _))
   refine Gx1 (CyJ cq x rank F0 k1 n) ?_ ?_
   ·refine Zq0 okq Y1.W rfl l3 fun sB WB=>?_
    cases hs1:F1.sn k1 with
    | true =>
     refine (?_:wpAny (MM cq.w) cq.A (execs _ cq.env) _ _ _)
     refine wC (wpAny_If (Zr0 okq WB rfl l4 (fun q=>?_) fun sC WC=>?_))
     ·rw [C1.dk] at q
      obtain ⟨p,hp,hpk⟩:=List.mem_map.mp q
      have:=hr1 p hp
      rw [hpk] at this
      exact Nat.lt_irrefl _ this
     ·exact Lu1 (by decide) (wN (wN ⟨rfl,F1,fr1,⟨Y1.a1,Y1.a2,Y1.a3,Y1.a4,C1,WC⟩,Nat.le_of_eq hn.symm⟩))
    | false =>
     refine (?_:wpAny (MM cq.w) cq.A (execs _ cq.env) _ _ _)
     obtain ⟨d,hd,hdk⟩:=List.mem_map.mp hk1
     have hz:=C1.size
     have hzu:F1.us.length ≤ 1000:=by rw [C1.us,List.length_map]; lia
     have hzd:F1.dk.length ≤ 1000:=by rw [C1.dk,List.length_map]; lia
     have hzk:F1.ks.length ≤ 1000:=by rw [C1.ks,List.length_map]; lia
     refine Jl1 okq WB rfl l3 (by lia) hs1 fun sC WC=>?_
     refine Zs0 okq WC Hq hd (by rw [hdk]; rfl) l2 rfl rfl hzu fun sD u I WD=>?_
     refine Gs1 okq WD rfl l1 l4 rfl hzk hzd (fun q=>?_) fun sE WE=>?_
     ·rw [show F1.dk = _ from C1.dk] at q
      obtain ⟨p,hp,hpk⟩:=List.mem_map.mp q
      have:=C1.on p hp
      rw [hpk,hs1] at this; cases this
     subst hdk
     refine Gr1 okq WE rfl l1 hzk fun sG WG=>wN ⟨rfl,({ F1 with ks:=F1.ks ++ [d.key],us:=F1.us ++ [u],st:=F1.st ++ [⟨u,I,d.L,0⟩],sn:=fun k'=>F1.sn k' || decide (k' = d.key),n:=F1.n + 1,dk:=F1.dk ++ [d.key] }:Fc),fr1 ++ [(d,⟨u,I,d.L,0⟩)],⟨Y1.a1,Y1.a2,Y1.a3,Y1.a4,C1.push hd hs1 hr1,WG⟩,?_⟩
     have hnk:(x.nds.map (·.key)).Nodup:=(Hq.atSF WB).nodupK
     have:=Gu1 hnk hd hs1
     rw [Oj0]
     simp only
     lia
   ·rintro sH ⟨F2,fr2,Y2,hm⟩
    refine Fc1 (c:=cq) (CyV cq x rank F0 k1 n) _ ⟨F2,fr2,Y2,hm,rfl⟩ ?_
    rintro n3 sI ⟨F3,fr3,Y3,hm3,hn3⟩ Ev
    have C3:=Y3.C
    have m1:(ρF F0 x).lookup (oS "stack") = some (.raw (.ref F3.a1)):=by rw [Y3.a1]; rfl
    have m2:(ρF F0 x).lookup (oS "itstack") = some (.raw (.ref F3.a2)):=by rw [Y3.a2]; rfl
    have m4:(ρF F0 x).lookup (oS "node2stacki") = some (.raw (.ref F3.a4)):=by rw [Y3.a4]; rfl
    have hz:=C3.size
    have hzu:F3.us.length ≤ 1000:=by rw [C3.us,List.length_map]; lia
    have hzd:F3.dk.length ≤ 1000:=by rw [C3.dk,List.length_map]; lia
    have hzk:F3.ks.length ≤ 1000:=by rw [C3.ks,List.length_map]; lia
    refine Gq1 okq Y3.W m1 (by exact Nat.le_trans ‹_› (by decide)) fun sJ WJ=>?_
    rcases List.eq_nil_or_concat fr3 with hnil | ⟨fr0,df,hcc⟩
    ·have:(!F3.ks.isEmpty) = false:=by rw [C3.ks,hnil]; rfl
     rw [this]
     rw [hnil] at C3
     refine (?_:wpAny (MM cq.w) cq.A (execs _ cq.env) _ _ _)
     exact wC (wpAny_Break (wN ⟨.inl rfl,F3,WJ.drop (.cons rfl (.cons rfl (.cons rfl (.cons rfl (.cons rfl (.cons rfl .nil)))))),Y3.a1,Y3.a2,Y3.a3,Y3.a4,C3⟩))
    ·obtain ⟨d,f⟩:=df
     rw [List.concat_eq_append] at hcc
     subst hcc
     have:(!F3.ks.isEmpty) = true:=by rw [C3.ks]; simp
     rw [this]
     refine (?_:wpAny (MM cq.w) cq.A (execs _ cq.env) _ _ _)
     have hdm:=C3.nd (d,f) (by simp)
     have hus:F3.us = fr0.map (·.2.u) ++ [f.u]:=by rw [C3.us]; simp
     have hst:F3.st = fr0.map (·.2) ++ [f]:=by rw [C3.st]; simp
     have hks:F3.ks = fr0.map (·.1.key) ++ [d.key]:=by rw [C3.ks]; simp
     have hdk:F3.dk = fr0.map (·.1.key) ++ [d.key]:=by rw [C3.dk]; simp
     have hup:=C3.up
     rw [List.map_append,List.pairwise_append] at hup
     rw [Oj0] at hm3
     simp only at hm3 hdm
     cases hnx:d.succ[f.ix]? with
     | some kk =>
      have hkk:=hrk d hdm.1 kk (List.mem_of_getElem? hnx)
      have hix:f.ix < d.succ.length:=(List.getElem?_eq_some_iff.mp hnx).1
      refine wC ?_
      refine Tq0 (c:=cq) okq WJ Hq hdm.1 m2 hus hst hzu hdm.2 hnx rfl fun sK WK=>?_
      refine wN ⟨_,?_,({ F3 with st:=fr0.map (·.2) ++ [{ f with ix:=f.ix + 1 }] }:Fc),fr0 ++ [(d,{ f with ix:=f.ix + 1 })],kk,⟨Y3.a1,Y3.a2,Y3.a3,Y3.a4,C3.item (f.ix + 1),WK.drop (.cons rfl (.cons rfl (.cons rfl (.cons rfl (.cons rfl (.cons rfl (.cons rfl .nil)))))))⟩,hkk.2,fun p hp=>?_,rfl⟩
      ·rw [Oj0]; simp only; grind
      ·rcases List.mem_append.mp hp with q | q
       ·exact Nat.lt_trans (hup.2.2 _ (List.mem_map.mpr ⟨p,q,rfl⟩) (rank d.key) (by simp)) hkk.1
       ·rw [List.mem_singleton.mp q]; exact hkk.1
     | none =>
      refine wC ?_
      refine Wz0 (c:=cq) (k:=d.key) okq WJ Hq hdm.1 m2 m1 m4 hus hst hks hdk (fun q=>?_) hzu hzk hzd hdm.2 hnx rfl rfl (outer:=fl) ?_ rfl fun sK WK=>wN ⟨_,?_,({ F3 with ks:=fr0.map (·.1.key),us:=fr0.map (·.2.u),st:=fr0.map (·.2),dk:=fr0.map (·.1.key) }:Fc),fr0,⟨Y3.a1,Y3.a2,Y3.a3,Y3.a4,C3.pop,WK⟩,by simp only; simp_all,rfl⟩
      ·obtain ⟨p,hp,hpk⟩:=List.mem_map.mp q
       have:=hup.2.2 _ (List.mem_map.mpr ⟨p,hp,rfl⟩) (rank d.key) (by simp)
       rw [hpk] at this
       exact Nat.lt_irrefl _ this
      ·show A.frames.map _ = _
       rw [hfl]; rfl
      ·rw [hn3]; simp
 ·intro F s8 JF W8
  have a8:=H.atSF W8
  exact wC (wpAny_Return_some (wpAny_Constant_none ⟨.none,x,rfl,W8.st.since,a8,fun _ h=>h,fun _ h=>.inl h,rfl,rfl⟩))
theorem Xb0 {x:Srt} (ok:CxOk c) (S:St c ρ s) (H:Held c x) (ho:Ev c ρ o fun _ u=>u = .ref x.N)
  (hbase:attributeBase o (oS "values") c.env (eval o c.env) = eval o c.env) (hline:(apos.endLine == pos.line) = true) (hl3:Nat.ble 3 c.lvl = true) (E:Value→Shared→Prop) (Q:Value→Shared→Prop)
  (hq:∀ s1 I o fp P ST,St c ρ s1→Kp c.fs s s1→SrcG c ρ s1 x.nds (fun d _ v=>v = .ref d.I) I o fp P ST→Q (.ref I) { s1 with heap:=s1.heap.push o }) :
  wpAny (MM c.w) c.A (eval (.Call (.Attribute o (oS "values") apos) [] [] pos) c.env) (fun x s'=>wpAny (MM c.w) c.A (pyIter x) Q E s') E s:=by
 refine Call_method0 hbase hline (Ad0 ok ho S (.refl _ _) fun v s1 S1 k1 _ hv=>?_)
 subst hv
 have a1:=H.at S1
 refine ⟨"dict", "dict.values",PySem.F.plainAttrs_dict,PySem.F.slot_dict_values,PySem.F.type_dict_values,a1.n.typeIs,a1.n.mapOf.noDict,?_⟩
 refine callWith_builtin rfl (evalArgs_nil3 ?_)
 refine call_meetsIn PySem.F.slot_dict_values a1.n.typeIs PySem.F.entry_dict_values (PySem.F.args_dict_values_1 _) (meets_dict_values (sK c.w) x.N (Ob0 (a1.lo _ (.tail _ (.tail _ (.head _)))))) ⟨⟨_,a1.n⟩,?_⟩
 show wpAny _ _ (pyIter (.ref s1.heap.objs.size)) _ _ _
 have S2:=S1.step (s':={ s1 with heap:=s1.heap.push { cls:=.type "dict_values",data:=.fields #[.ref x.N] } }) ok (.push _ _) S1.toks
 have a2:=H.at S2
 obtain ⟨ep,hat⟩:=a2.n.dictAt
 refine wpAny_pyIter_values (knd:=sK c.w) (s:={ s1 with heap:=s1.heap.push { cls:=.type "dict_values",data:=.fields #[.ref x.N] } }) ⟨_,Heap.get?_push_size _ rfl,rfl,rfl⟩ hat ?_
 have hne:x.N ≠ (s1.heap.push { cls:=.type "dict_values",data:=.fields #[.ref x.N] }).objs.size:=Nat.ne_of_lt hat.lt_size
 have hkl:x.kvs.length = x.nds.length:=by unfold Srt.kvs; simp
 have hw:=Walks.dictValues (knd:=sK c.w) (ok.hand hl3) (s1.heap.push { cls:=.type "dict_values",data:=.fields #[.ref x.N] }).objs.size x.N hne x.kvs ep
 refine hq _ _ _ _ (fun i v=>∃ k,x.kvs[i]? = some (k,v)) (fun i h=>h.IsValIter (s1.heap.push { cls:=.type "dict_values",data:=.fields #[.ref x.N] }).objs.size x.N i x.kvs.length ep∧h.DictAt (sK c.w) x.N x.kvs ep) S2 (k1.trans (.push _ _)) ⟨rfl,by rw [← hkl]; exact hw,⟨⟨_,Heap.get?_push_size _ rfl,rfl,rfl⟩,hat.push _⟩,fun b hb hbI=>?_,fun i v hi hh5=>?_,fun i h st=>?_⟩
 ·simp only [List.mem_cons,List.not_mem_nil,or_false] at hb
  rcases hb with q | q
  ·exact absurd q hbI
  ·rw [q]; exact .inr (H.pinned _ (.tail _ (.tail _ (.head _))))
 ·obtain ⟨k,hk⟩:=hh5
  unfold Srt.kvs at hk
  rw [List.getElem?_map] at hk
  obtain ⟨d,hd,e⟩:=Option.map_eq_some_iff.mp hk
  exact ⟨d,hd,(Prod.mk.inj e).2.symm⟩
 ·obtain ⟨⟨o',e1,e2,e3⟩,_⟩:=st
  exact ⟨o',_, "dict_valueiterator",e1,e3,e2,by decide,by decide⟩
noncomputable def By0 (l:Ab):List Str:=(l.filter fun p=>p.2.1 == 0).map (·.1)
theorem Zw0 (x:Srt):x.nds.filterMap (fun d=>if (d.np == 0) = true then some (PyData.str d.key) else none) = (By0 x.abs).map .str:=by
 unfold By0 Srt.abs
 induction x.nds with
 | nil=>rfl
 | cons d r ih =>
  rw [List.filterMap_cons,List.map_cons]
  by_cases h:(d.np == 0) = true
  ·rw [if_pos h,List.filter_cons_of_pos (p:=fun p:Str × Int × List Str=>p.2.1 == 0) (a:=(d.key,d.np,d.succ)) h,List.map_cons,List.map_cons]; exact congrArg _ ih
  ·rw [if_neg h,List.filter_cons_of_neg (p:=fun p:Str × Int × List Str=>p.2.1 == 0) (a:=(d.key,d.np,d.succ)) h]; exact ih
theorem Er0 (h:RdAll g vs (ys.map .str)):StrsAre vs ys:=by
 induction ys generalizing vs with
 | nil=>cases h; exact .nil
 | cons y r ih=>cases h with | cons a b=>obtain ⟨t,hQ167⟩:=a.str_inv; subst hQ167; exact .cons _ _ (ih b)
theorem Zx0 (ok:CxOk c) (hx:c.env.kindOf x = some .local) (hcd:(x == ("__classdict__" : Str)) = false):Kk1 c ρ (.Name x pos) (fun _ u=>u = v) [(x,.raw v)]:=fun s u S hu E Q h=>by
 subst hu; exact
 wpAny_assign_Name (S.storeS ok (.inl hx) hcd (.inr rfl) fun s' S' n n'=>h s' S' n n')
theorem Dn1 (ok:CxOk c) (h:Ev c ρ e fun _ u=>u = .none) (he:∀ whole,isTrue e c.env whole = (do let v ← whole; standAt e.pos; holding [v] (truthy v)):=by intro _; rfl):EvB c ρ e false:=fun s S E =>
 wpAny_isTrue_value (wM (h s S E) (fun v s' hh1=>by obtain ⟨k,r⟩:=hh1; subst r; exact wP ⟨k,rfl⟩) fun _ _ x=>x) (he _)
theorem Do1 (w:World) (x:Srt) (rank:Str→Nat) (hR:x.R = none) (hrk:∀ d ∈ x.nds,∀ k ∈ d.succ,rank d.key < rank k∧k ∈ x.nds.map (·.key)) (hN:x.nds.length ≤ 900) :
  Mth w 7 136 x [] (fun x' v _=>v = .none∧x'.T = x.T∧(∃ a,x'.R = some (a,By0 x.abs))∧x'.po = x.po∧x'.fin = x.fin∧x'.abs = x.abs):=by
 intro A fs X s vs am at_ hX rv
 cases rv
 refine Ep0 (ps:=[oS "self"]) (vs:=[.ref x.T]) (sls:=[.raw (.ref x.T)]) (lvl:=6)
  am (at_.yok hX) (am.wd.k 136 _ (show (KF w).lookup 136 = some _ from rfl)) (codeRec_of am.wd.k (show codeIn (KF w) (.ref 135) (oS "TopologicalSorter.prepare") = true from rfl)) rfl (.raw .nil) (BindsTo.of_eq rfl) (by decide) (by rfl) (by decide) (by rfl) (fun L=>rfl) ?_
 intro X' fs' L s1 c Q E ok S ap hkeep hX'' hks
 have Y1:SY _ x [(oS "self",.raw (.ref x.T))] s1:=⟨S,at_.keep hkeep,ap.rho fun a _ q=>by cases q⟩
 refine Oe0 (b:=!(In0 x.R == .none)) ok Y1 (fun p H okp=>Dv0 okp (Hg0 okp H (Ai0 okp rfl))) (fun hb=>by rw [hR] at hb; cases hb) fun _ s2 Y2=>wN ?_
 refine wC (plainObj_wpAny_Assign_Attribute ?_)
 rw [eval_ListComp]
 let c1:Cx:=c.pins (atY c x.addrs s2.heap)
 obtain ⟨okP,SP,H⟩:CxOk c1∧St c1 _ s2∧Held c1 x:=Y2.lookH ok
 refine Jh0 (c:=c1) (use:=none) (ds:=x.nds) (V:=fun d _ v=>v = .ref d.I) (g:=fun d=>if (d.np == 0) = true then some (PyData.str d.key) else none) (ρ':=[]) (cl:=[]) okP SP (fun E Q hq=>Xb0 okP SP H (Mo0 okP H (Ai0 okP rfl)) rfl rfl rfl E Q hq) (by unfold sizeLine; exact Nat.le_trans ‹_› (by decide)) rfl ?_ (by decide) rfl ?_ (fun _ _ _ _ _ h=>h) (by intro _; rfl) ?_
 ·exact .nil
 ·intro C Xc s1' okc i d hdi
  have hd:d ∈ x.nds:=List.mem_of_getElem? hdi
  have Hc:Held _ x:=let ⟨h0,a0,q0⟩:=H; ⟨h0,a0,q0⟩
  refine ⟨⟨[(oS "i",.raw (.ref d.I))],rfl,fun _ _ _=>rfl,Zx0 okc rfl rfl,?_,fun e he=>?_⟩⟩
  ·have hb:(if (d.np == 0) = true then some (PyData.str d.key) else none).isSome = (d.np == 0):=by cases d.np == 0 <;> rfl
   rw [hb]
   exact Gt0 okc (Aq0 okc (Gh1 okc Hc hd (Ai0 okc rfl)) Ar0 (Bq0 okc _) Gp0)
  ·have he':e = .str d.key:=by
    by_cases h:(d.np == 0) = true
    ·rw [if_pos h] at he; cases he; rfl
    ·rw [if_neg h] at he; cases he
   rw [he']
   exact Gg1 okc Hc hd (Ai0 okc rfl)
 ·intro C D sA sB m SA kA kB hC hCt ht hn hDC hDX hDsz r
  refine ⟨m,hn,fun h' hs'=>?_⟩
  have kC:Kp fs' s2 { sB with heap:=h' }:=kA.trans (Ul0 kB hC (fun a ob ne e=>(hs'.2 a ne).trans e) (fun ob e=>(Ns.nofields hn ob e).2) hCt)
  have rC:=r.sameC hn hs'
  rw [Zw0] at rC
  obtain ⟨aD,vsD,nD,slD,hDe,eD,rrD⟩:=rC.list_inv
  cases hDe
  have sl:StrL h' D (By0 x.abs):=⟨vsD,nD,slD,Ah0 eD,Er0 rrD⟩
  have hDA:sA.heap.get? D = none:=Mt0 hDsz
  have hbig:=SA.big okP
  have hDt:D ≠ tA:=Nat.ne_of_gt (Nat.lt_of_lt_of_le (by decide) (Nat.le_trans hbig hDsz))
  have hD2:s2.heap.get? D = none:=by
   cases q:s2.heap.get? D with
   | none=>rfl
   | some o=>obtain ⟨sl',e⟩:=kA.slot D o q hDt; rw [hDA] at e; cases e
  have Y3:SY _ x [(oS "self",.raw (.ref x.T))] { sB with heap:=h' }:=Y2.step ok kC ht
  refine Az0 ok Y3 (fun p H okp=>Ai0 okp rfl) fun u s4 Y4 k4 hu=>?_
  subst hu
  have hDfs:D ∉ fs':=fun q=>by
   obtain ⟨o,e,_⟩:=Y2.st.has D (List.mem_append_right _ (List.mem_append_right _ (ok.fsX D q)))
   rw [hD2] at e; cases e
  have hDx:D ∉ x.addrs:=fun q=>by obtain ⟨o,e,_⟩:=Y2.at_.has D q; rw [hD2] at e; cases e
  refine Jh1 (R:=some (D,By0 x.abs)) (po:=x.po) (fin:=x.fin) (Y4.st.amb (ok.mores _)).wd.k Y4.at_ (by rfl) (fun _ _ _ _ _ _=>by rfl) (fun _ _ _ _ _ _ _ _ _=>⟨_,_,by rfl,by rfl⟩) fun h5 hs5 hd5=>?_
  have hDne:D ≠ x.DT:=fun q=>hDx (q ▸ .tail _ (.head _))
  have sl5:StrL h5 D (By0 x.abs):=sl.keep fun o e=>(hs5.2 _ hDne).trans (k4.keep D o e hDfs hDt)
  have at5:=Y4.at_.setDT (R:=some (D,By0 x.abs)) hs5 (.inr ⟨hR,_,rfl,hDx,Nat.le_trans hbig hDsz,sl5⟩) hd5
  have hmem:∀ a,a ∈ ({ x with R:=some (D,By0 x.abs),po:=x.po,fin:=x.fin }:Srt).addrs ↔ a ∈ x.addrs ∨ a = D:=fun a=>by
   unfold Srt.addrs; rw [hR]; simp
   grind
  have kF:Kp fs' (hid x.addrs s2) { s4 with heap:=h5,toks:=s4.toks + 1 + 1 }:=Dj0 (kC.trans k4) (Kf0 (.tail _ (.head _)) hs5 (Cv0 ok Y4.st Y4.ap.tab)) Y4.ap.fs (Cv0 ok Y4.st Y4.ap.tab)
  have Y5:SY _ ({ x with R:=some (D,By0 x.abs),po:=x.po,fin:=x.fin }:Srt) [(oS "self",.raw (.ref x.T))] _:=Y2.after ok kF at5 (fun a h=>(hmem a).mpr (.inl h)) (fun a h=>((hmem a).mp h).elim .inl fun q=>.inr (by rw [q]; exact hD2)) (Nat.succ_pos _)
  generalize hxq:({ x with R:=some (D,By0 x.abs),po:=x.po,fin:=x.fin }:Srt) = xq at Y5 hmem
  have hTq:xq.T = x.T:=by rw [← hxq]
  have hNq:xq.nds = x.nds:=by rw [← hxq]
  refine wC (wpAny_Assign_Name (Gj0 (ds:=[]) (n:=6) ok Y5 (fun p H okp=>by rw [hTq]; exact Ai0 okp rfl) (f:=171) (by rfl) (by rfl) (by rfl) (fun _ _ _ _ _ _=>rfl) (fun s6 Q' Y6 hq=>evalArgs_nil3 (hq [] s6 Y6 (.refl _ _) .nil)) (Zv0 w xq rank (by rw [hNq]; exact hrk) (by rw [hNq]; exact hN)) (Nat.le_of_ble_eq_true rfl) fun v xr s7 Y7 k7 _ _ hp7=>?_) rfl)
  obtain ⟨hQ168,hQ169⟩:=hp7; subst hQ168; subst hQ169
  refine Y7.store ok rfl rfl (.inr rfl) fun s8 Y8=>?_
  refine Oe0 (b:=false) ok Y8 (fun p H okp=>Dn1 okp (Ai0 okp rfl)) (fun hb=>by cases hb) fun _ s9 Y9=>wN (wN ?_)
  refine ⟨.none,xr,rfl,Y9.st.since,Y9.at_,fun a h=>(hmem a).mpr (.inl h),fun a h=>((hmem a).mp h).elim .inl fun q=>.inr ?_,rfl,hTq,⟨D,by rw [← hxq]⟩,by rw [← hxq],by rw [← hxq],by rw [← hxq]; rfl⟩
  rw [q]
  cases w0:s.heap.get? D with
  | none=>rfl
  | some o =>
   by_cases hDX0:D ∈ x.addrs
   ·exact absurd hDX0 hDx
   ·have h1:(hid x.addrs s).heap.get? D = some o:=Br0 w0 hDX0
    obtain ⟨sl',e⟩:=Y2.st.since.slot D o h1 hDt
    rw [hD2] at e; cases e
theorem Lv1 (w:World):makesIn (KF w) 181 = true:=by rfl
theorem Jp1 (w:World):findIn (KF w) (.ref 181) "__init__" = some (some (.ref 117)):=by rfl
theorem Lw1 (w:World):typeIn (KF w) (.ref 117) = some (.type "function"):=by rfl
theorem Ja0 {D:Addr} {es es':List DictEntry} {n n':Nat} {Z:List Addr} {Q:Unit→Shared→Prop} (ok:CxOk c) (S:St (c.mores (I :: D :: Z)) ρ s) (ap:Apart c ρ (I :: D :: Z))
  (hI:s.heap.get? I = some (instObj 181 D)) (hD:s.heap.get? D = some (dictOf es n)) (hID:D ≠ I) (hZ:∀ a ∈ Z,∃ o,s.heap.get? a = some o∧Nf a o) (hDZ:D ∉ Z) (ht:takerIn (KF c.w) 181 name = some none)
  (hl:(getL name es).isSome = true) (e:putL name (PyData.keyHash c.w.params name) (.str name (s.toks + 1)) v es = es') (en:putN name es n = n') (hz:es'.length ≤ 1000)
  (hr:∀ s',St (c.mores (I :: D :: Z)) ρ s'→s'.heap.get? I = some (instObj 181 D)→s'.heap.get? D = some (dictOf es' n')→Heap.SameBut D s.heap s'.heap→Q () s'):wpAny (MM c.w) c.A (setAttr (.ref I) name v) Q E s:=by
 refine Uw0 (od:=dictOf es n) (od':=dictOf es' n') (S.amb (ok.mores _)).wd.k ⟨hI,rfl,rfl,hD⟩ rfl (De1 _).1 (De1 _).2 ht (Wx0 _) ((congrArg Option.isSome (lookIn_dict name es n)).trans hl) (by rw [putName_dict,e,en]) rfl hz fun h' e1 hs=>?_
 refine hr _ (S.after ok ap (Kf0 (.tail _ (.head _)) hs (Cv0 ok S ap.tab)) (fun a h=>h) (fun a h=>.inl h) (fun a h=>?_) (Nat.succ_pos _)) ((hs.2 _ (Ne.symm hID)).trans hI) e1 hs
 rcases List.mem_cons.mp h with rfl | h
 ·exact ⟨_,(hs.2 _ (Ne.symm hID)).trans hI,.inr (by intro _ q; cases q)⟩
 ·rcases List.mem_cons.mp h with rfl | h
  ·exact ⟨_,e1,.inr (by intro _ q; cases q)⟩
  ·obtain ⟨o,eo,nf⟩:=hZ a h
   exact ⟨o,(hs.2 _ fun q=>hDZ (q ▸ h)).trans eo,nf⟩
theorem Tr0 {n:Nat} (am:Amb w A fs X (n + 2) s)
  (hq:∀ (x:Srt) s',x.R = none→x.po = 0→x.fin = 0→x.nds = []→(∀ b ∈ x.addrs,s.heap.get? b = none)→x.At w s'.heap→Kp fs s s'→0 < s'.toks→R (.ok (.ret (.ref x.T))) s') :
  codeAny (MM w) A (.call (.ref 181) ⟨[],[]⟩) R s:=by
 have hbig:=am.big
 obtain ⟨h0,g,d,tk,os⟩:=s
 have X0:=am.wd.k
 refine make_core (makes_of X0 (Lv1 w)) (looks_findIn X0 (Jp1 w)) (fun self=>bind_fn X0 self (Lw1 w)) (.inl rfl) ?_
 have am1:Amb w (A.under (.builtin "type.__call__" ⟨.ref 181 :: [],[]⟩)) fs X (n + 1) ⟨(h0.push emptyDict).push (instObj 181 h0.objs.size),g,d,tk,os⟩:=((am.push emptyDict).push (instObj 181 h0.objs.size)).make
 have hI:((h0.push emptyDict).push (instObj 181 h0.objs.size)).get? (h0.objs.size + 1) = some (instObj 181 h0.objs.size):=by heap_get
 have hD:((h0.push emptyDict).push (instObj 181 h0.objs.size)).get? h0.objs.size = some emptyDict:=Heap.get?_push_of_some _ (Heap.get?_push_size _ rfl)
 have hnone:∀ b,h0.objs.size ≤ b→h0.get? b = none:=fun b hb=>Heap.get?_none_of_le hb
 have hYX:∀ a ∈ [h0.objs.size + 1,h0.objs.size],a ∉ X:=fun a ha q=>by
  obtain ⟨o,e,_⟩:=am.has a q
  have e:h0.get? a = some o:=e
  rw [hnone a (by simp at ha; lia)] at e; cases e
 have hY:YOk X [h0.objs.size + 1,h0.objs.size] ((h0.push emptyDict).push (instObj 181 h0.objs.size)):=⟨hYX,fun a ha=>by
   simp only [List.mem_cons,List.not_mem_nil,or_false] at ha
   rcases ha with rfl | rfl
   ·exact ⟨_,hI,by intro _ q; cases q⟩
   ·exact ⟨_,hD,by intro _ q; cases q⟩,fun a ha=>by
   simp only [List.mem_cons,List.not_mem_nil,or_false] at ha
   have hbig:269 ≤ h0.objs.size:=hbig
   rcases ha with rfl | rfl
   ·exact Nat.le_succ_of_le hbig
   ·exact hbig⟩
 refine Ep0 (ps:=[oS "self",oS "graph"]) (vs:=[.ref (h0.objs.size + 1),.none]) (sls:=[.raw (.ref (h0.objs.size + 1)),.raw .none]) (lvl:=n)
  am1 hY (am1.wd.k 117 _ (show (KF w).lookup 117 = some _ from rfl)) (codeRec_of am1.wd.k (show codeIn (KF w) (.ref 116) (oS "TopologicalSorter.__init__") = true from rfl)) rfl (.raw (.raw .nil)) ?_ (by decide) (by rfl) (by decide) (by rfl) (fun L=>rfl) ?_
 ·exact BindsTo.of_defaults rfl (am1.wd.k 110 _ (show (KF w).lookup 110 = some _ from rfl)) rfl rfl rfl
 intro X' fs' L s1 c Q E ok S ap hkeep _ hks
 have ap1:Apart _ [(oS "self",.raw (.ref (h0.objs.size + 1))),(oS "graph",.raw .none)] [h0.objs.size + 1,h0.objs.size]:=ap.rho fun a _ q=>by cases q
 have hI1:=hkeep _ (.head _) _ hI
 have hD1:=hkeep _ (.tail _ (.head _)) _ hD
 have hDI:h0.objs.size ≠ h0.objs.size + 1:=Nat.ne_of_lt (Nat.lt_succ_self _)
 have kpY:∀ {sa sb:Shared} (b:Addr) (o:Obj),b ∈ [h0.objs.size + 1,h0.objs.size]→Kp fs' sa sb→sa.heap.get? b = some o→sb.heap.get? b = some o:=fun b o hb kk e=>kk.keep b o e (ap.fs b hb) (ap.tab b hb)
 refine wC (plainObj_wpAny_Assign_Attribute (wpAny_Dict_empty ?_))
 have hNt:s1.heap.objs.size ≠ tA:=Nat.ne_of_gt (Nat.lt_of_lt_of_le (by decide) (S.big (ok.mores _)))
 have hNfs:s1.heap.objs.size ∉ fs':=fun q=>by
  obtain ⟨o,e,_⟩:=S.has _ (List.mem_append_right _ ((ok.mores _).fsX _ q))
  rw [Aj0] at e; cases e
 have hNI:s1.heap.objs.size ≠ h0.objs.size + 1:=fun q=>by rw [← q,Aj0] at hI1; cases hI1
 have hND:s1.heap.objs.size ≠ h0.objs.size:=fun q=>by rw [← q,Aj0] at hD1; cases hD1
 have S2:=S.step (ok.mores _) (.push _ { cls:=.type "dict",data:=.dict #[] }) S.toks
 have hN2:(s1.heap.push { cls:=.type "dict",data:=.dict #[] }).get? s1.heap.objs.size = some { cls:=.type "dict",data:=.dict #[] }:=Heap.get?_push_size _ rfl
 refine Ad0 (ok.mores _) (Ai0 (ok.mores _) rfl) S2 (.refl _ _) fun u s3 S3 k3 _ hu=>?_
 subst hu
 have hI3:=kpY _ _ (.head _) k3 (Heap.get?_push_of_some _ hI1)
 have hD3:=kpY _ _ (.tail _ (.head _)) k3 (Heap.get?_push_of_some _ hD1)
 have hN3:=k3.keep _ _ hN2 hNfs hNt
 refine Ja0 (Z:=[]) (es:=[]) (n:=0) ok S3 ap1 hI3 hD3 hDI (fun a h=>by cases h) (by simp) (by rfl) rfl rfl rfl (Nat.le_of_ble_eq_true rfl) fun s4 S4 hI4 hD4 hs4=>?_
 have hN4:=(hs4.2 _ hND).trans hN3
 refine wC (plainObj_wpAny_Assign_Attribute (wpAny_Constant_none (Ad0 (ok.mores _) (Ai0 (ok.mores _) rfl) S4 (.refl _ _) fun u s5 S5 k5 _ hu=>?_)))
 subst hu
 have hI5:=kpY _ _ (.head _) k5 hI4
 have hD5:=kpY _ _ (.tail _ (.head _)) k5 hD4
 have hN5:=k5.keep _ _ hN4 hNfs hNt
 refine Ja0 (Z:=[]) ok S5 ap1 hI5 hD5 hDI (fun a h=>by cases h) (by simp) (by rfl) rfl rfl rfl (Nat.le_of_ble_eq_true rfl) fun s6 S6 hI6 hD6 hs6=>?_
 have hN6:=(hs6.2 _ hND).trans hN5
 refine wC (plainObj_wpAny_Assign_Attribute (Ad0 (ok.mores _) (Ar0 (c:=Cx.mores _ _)) S6 (.refl _ _) fun v s7 S7 k7 _ r7=>Ad0 (ok.mores _) (Ai0 (ok.mores _) rfl) S7 (.refl _ _) fun u s8 S8 k8 _ hu=>?_))
 obtain ⟨t7,hQ170⟩:=r7.int_inv; subst hQ170
 subst hu
 have hI8:=kpY _ _ (.head _) k8 (kpY _ _ (.head _) k7 hI6)
 have hD8:=kpY _ _ (.tail _ (.head _)) k8 (kpY _ _ (.tail _ (.head _)) k7 hD6)
 have hN8:=k8.keep _ _ (k7.keep _ _ hN6 hNfs hNt) hNfs hNt
 refine Ja0 (Z:=[]) ok S8 ap1 hI8 hD8 hDI (fun a h=>by cases h) (by simp) (by rfl) rfl rfl rfl (Nat.le_of_ble_eq_true rfl) fun s9 S9 hI9 hD9 hs9=>?_
 have hN9:=(hs9.2 _ hND).trans hN8
 refine wC (plainObj_wpAny_Assign_Attribute (Ad0 (ok.mores _) (Ar0 (c:=Cx.mores _ _)) S9 (.refl _ _) fun v s10 S10 k10 _ r10=>Ad0 (ok.mores _) (Ai0 (ok.mores _) rfl) S10 (.refl _ _) fun u s11 S11 k11 _ hu=>?_))
 obtain ⟨t10,hQ171⟩:=r10.int_inv; subst hQ171
 subst hu
 have hI11:=kpY _ _ (.head _) k11 (kpY _ _ (.head _) k10 hI9)
 have hD11:=kpY _ _ (.tail _ (.head _)) k11 (kpY _ _ (.tail _ (.head _)) k10 hD9)
 have hN11:=k11.keep _ _ (k10.keep _ _ hN9 hNfs hNt) hNfs hNt
 refine Ja0 (Z:=[]) ok S11 ap1 hI11 hD11 hDI (fun a h=>by cases h) (by simp) (by rfl) rfl rfl rfl (Nat.le_of_ble_eq_true rfl) fun s12 S12 hI12 hD12 hs12=>?_
 have hN12:=(hs12.2 _ hND).trans hN11
 refine wC (wpAny_If (Cw0 (ok.mores _) (Dv0 (v:=.none) (ok.mores _) (Ai0 (ok.mores _) rfl)) S12 (.refl _ _) fun s13 S13 k13 _=>?_))
 rw [if_neg (by intro q; cases q)]
 refine wN (wN ?_)
 have hI13:=kpY _ _ (.head _) k13 hI12
 have hD13:=kpY _ _ (.tail _ (.head _)) k13 hD12
 have hN13:=k13.keep _ _ hN12 hNfs hNt
 have hold:∀ b o,h0.get? b = some o→b ∉ [h0.objs.size + 1,h0.objs.size]:=fun b o e q=>by
  simp only [List.mem_cons,List.not_mem_nil,or_false] at q
  rcases q with rfl | rfl
  ·rw [hnone _ (Nat.le_succ _)] at e; cases e
  ·rw [hnone _ (Nat.le_refl _)] at e; cases e
 have hin:∀ b o,h0.get? b = some o→(hid [h0.objs.size + 1,h0.objs.size] ⟨(h0.push emptyDict).push (instObj 181 h0.objs.size),g,d,tk,os⟩).heap.get? b = some o:=fun b o e =>
  Br0 (Heap.get?_push_of_some _ (Heap.get?_push_of_some _ e)) (hold b o e)
 have sc:=S13.since
 have hNn:h0.get? s1.heap.objs.size = none:=by
  cases q:h0.get? s1.heap.objs.size with
  | none=>rfl
  | some o =>
   obtain ⟨sl,e⟩:=S.since.slot _ _ (hin _ _ q) hNt
   rw [Aj0] at e; cases e
 have hbig':269 ≤ h0.objs.size:=hbig
 refine ⟨rfl,hq ⟨h0.objs.size + 1,h0.objs.size,s1.heap.objs.size,none,0,0,[]⟩ s13 rfl rfl rfl rfl ?_ ⟨hI13,⟨_,_,_,_,_,_,_,hD13⟩,Jn1 _ hN13,(fun p hp=>by cases hp),(fun d hd=>by cases hd),?_,?_⟩ ⟨sc.gens,sc.os,fun b o e h1 h2=>sc.keep b o (hin b o e) h1 h2,fun b o e h2=>sc.slot b o (hin b o e) h2,fun _=>S13.tab (ok.mores _)⟩ S13.toks⟩
 ·intro b hb
  simp only [Srt.addrs,Option.map_none,Option.toList_none,List.flatMap_nil,List.append_nil,List.mem_cons,List.not_mem_nil,or_false] at hb
  rcases hb with rfl | rfl | rfl
  ·exact hnone _ (Nat.le_succ _)
  ·exact hnone _ (Nat.le_refl _)
  ·exact hNn
 ·simp [Srt.addrs,Ne.symm hNI,Ne.symm hND]
 ·intro b hb
  simp only [Srt.addrs,Option.map_none,Option.toList_none,List.flatMap_nil,List.append_nil,List.mem_cons,List.not_mem_nil,or_false] at hb
  rcases hb with rfl | rfl | rfl
  ·exact Nat.le_succ_of_le hbig'
  ·exact hbig'
  ·exact S.big (ok.mores _)
theorem Vd0 {o:Obj} {T:String} {its:Array Value} {n:Nat} {Q:List Value→Shared→Prop} (D:s.heap.get? a = some o) (hc:o.cls = .type T) (hd:o.data = .seq its n) (hT:T = "list" ∨ T = "tuple")
  (hz:its.size ≤ sizeLine) (h:∀ h',(∀ b o',s.heap.get? b = some o'→h'.get? b = some o')→Q its.toList { s with heap:=h' }):StarOf (MM w) A E (.ref a) Q s:=by
 have hT':s.TypeIs (.ref a) T:=⟨o,D,hc⟩
 have z:wpAny (MM w) A (collect (.ref a)) Q E s:=wpAny_collect_seq a hT D hc hd h hz
 unfold StarOf notIterableAtAll
 rcases hT with rfl | rfl
 ·exact wB (wpAny_specialOf hT' PySem.F.slot_list_iter.lookup (wP ⟨rfl,z⟩))
 ·exact wB (wpAny_specialOf hT' PySem.F.slot_tuple_iter.lookup (wP ⟨rfl,z⟩))
section
variable {x:Srt} {p1:Pos} {e0 e1:Expr} {bs:List Str} {Q:Args→Shared→Prop}
theorem Rf0 (ok:CxOk c) (Y:SY c x ρ s) (h0:∀ p,Held (c.pins p) x→CxOk (c.pins p)→EvD (c.pins p) ρ e0 (.str y)) (h1:∀ p,Held (c.pins p) x→CxOk (c.pins p)→EvD (c.pins p) ρ e1 (.list (bs.map .str))) (hz:bs.length ≤ 1000)
  (hq:∀ vs s2,SY c x ρ s2→Kp c.fs s s2→RdAll (fz ((c.mores x.addrs).XX ρ) s2.heap) vs (.str y :: bs.map .str)→Q ⟨vs,[]⟩ s2)
  (he:starEach [e0,.Starred e1 p1] c.env = [(false,eval e0 c.env),(true,eval e1 c.env)]:=by rfl):wpAny (MM c.w) c.A (evalArgs (.ref f) true (backTo pos (starEach [e0,.Starred e1 p1] c.env)) []) Q E s:=by
 rw [he]
 refine evalArgs_plain (spliced_cons (Bu0 ok Y h0 fun v s1 Y1 k1 r=>?_))
 obtain ⟨t,hQ172⟩:=r.str_inv; subst hQ172
 refine ks_spliced (Bu0 ok Y1 h1 fun u s2 Y2 k2 r2=>?_)
 obtain ⟨a,vs,n,sl,hQ173,e00,rr⟩:=r2.list_inv; subst hQ173
 have hlen:=rr.length
 simp only [Array.length_toList,List.length_map] at hlen
 refine Vd0 (Ah0 e00) rfl rfl (.inl rfl) (by unfold sizeLine; lia) fun h' hk=>spliced_nil ?_
 have k3:Kp c.fs s2 { s2 with heap:=h' }:=.of_all rfl rfl hk
 have r5:RdAll (fz ((c.mores x.addrs).XX ρ) h') (.str y t :: vs.toList) (.str y :: bs.map .str):=.cons (.str _ _) (Ib0 (Er0 rr))
 have:=hq _ _ (Y2.step ok k3 Y2.st.toks) ((k1.trans k2).trans k3) r5
 simpa using this
theorem Rg0 (ok:CxOk c) (Y:SY c x ρ s) (h1:∀ p,Held (c.pins p) x→CxOk (c.pins p)→EvD (c.pins p) ρ e1 (.tuple (bs.map .str))) (hz:bs.length ≤ 1000)
  (hq:∀ vs s2,SY c x ρ s2→Kp c.fs s s2→RdAll (fz ((c.mores x.addrs).XX ρ) s2.heap) vs (bs.map .str)→Q ⟨vs,[]⟩ s2)
  (he:starEach [.Starred e1 p1] c.env = [(true,eval e1 c.env)]:=by rfl):wpAny (MM c.w) c.A (evalArgs (.ref f) true (backTo pos (starEach [.Starred e1 p1] c.env)) []) Q E s:=by
 rw [he]
 refine ks_lone (Bu0 ok Y h1 fun u s2 Y2 k2 r2=>?_)
 obtain ⟨a,vs,n,sl,hQ174,e00,rr⟩:=r2.tuple_inv; subst hQ174
 have hlen:=rr.length
 simp only [Array.length_toList,List.length_map] at hlen
 refine Vd0 (Ah0 e00) rfl rfl (.inr rfl) (by unfold sizeLine; lia) fun h' hk=>?_
 have k3:Kp c.fs s2 { s2 with heap:=h' }:=.of_all rfl rfl hk
 exact hq _ _ (Y2.step ok k3 Y2.st.toks) (k2.trans k3) (Ib0 (Er0 rr))
end
theorem Zy0 {args:List Expr} {Q:Value→Shared→Prop} (hbase:attributeBase o name env (eval o env) = eval o env) (hst:((backTo pos (starEach args env)).all fun x=>!x.1) = false)
  (h:wpAny (MM w) A (eval o env) (fun ov s₁=>wpAny (MM w) A (getAttr ov name true) (fun f s₂=>wpAny (MM w) A (callWith pos f [] (backTo pos (starEach args env)) []) Q E s₂) E s₁) E s):wpAny (MM w) A (eval (.Call (.Attribute o name apos) args [] pos) env) Q E s:=by
 rw [arm_eval_Call,hbase]
 refine wB (wM h (fun ov s₁ h₁=>?_) fun _ _ e=>e)
 refine wB (wpAny_standAt ?_)
 have hform:methodCallForm (args.length + ([]:List Keyword).length) (backTo pos (starEach args env)) (backToKw pos (keywordEach [] env)) = false:=by
  delta methodCallForm
  rw [hst]; rfl
 delta methodCall
 rw [hform]
 delta calleeOf methodCallPos
 refine wB (wpAny_holding (wB (wM h₁ (fun f s₂ h₂=>wP ?_) fun _ _ e=>e)))
 exact wB (wP h₂)
theorem Zz0 {x:Srt} {Q:Value→Shared→Prop} (X:(KF w).In s.heap) (a:x.At w s.heap) (hf:findIn (KF w) (.ref 181) name = some (some (.ref f))) (ht:typeIn (KF w) (.ref f) = some (.type "function")) (hgf:specialIn (KF w) (.ref f) "__get__" = some (some (.builtin "function.__get__"))) (htk:takesIn (KF w) (.ref f) = some false) (hc:copiedNames.contains name = false)
  (hsh:∀ t1 t2 t3 t4 u3 u4,getL name (Sg0 w t1 t2 t3 t4 (.ref x.N) (In0 x.R) (.int x.po u3) (.int x.fin u4)) = some none) (h:Q (.ref s.heap.objs.size) { s with heap:=s.heap.push (methodObj (.ref f) (.ref x.T)),toks:=s.toks + 1 }):wpAny (MM w) A (getAttr (.ref x.T) name true) Q E s:=by
 obtain ⟨t1,t2,t3,t4,ep,u3,u4,e⟩:=a.dt
 refine get_bind X ⟨a.t,rfl,rfl,e⟩ (plainGet_of (Th0 w name)).1 (findObj_fn (Wx0 w) hf hgf htk hc ((lookIn_dict name _ ep).trans (hsh t1 t2 t3 t4 u3 u4))) (plainGet_of (Th0 w name)).2 ?_
 exact wpAny_call (fn_get (s:={ s with toks:=s.toks + 1 }) X ht (handed_on rfl h))
theorem Xc0 {q T:Addr} {Q:Value→Shared→Prop} (ho:s.heap.get? q = some (methodObj (.ref f) (.ref T))) (h:codeAny (MM w) A (.call (.ref f) ⟨.ref T :: vs,[]⟩) (fun r s'=>match r with | .ok (.ret v)=>Q v s' | .ok _=>False | .error e=>E e s') s):wpAny (MM w) A (call (.ref q) vs) Q E s:=by
 refine wpAny_call (codeAny_of_tree ?_)
 show wpAny _ A.in1 (callAny (.ref q) ⟨vs,[]⟩) _ _ s
 simp -iota only [callAny]
 refine wB (wpAny_load ho ?_)
 simp -iota only [methodObj,show (Value.type "method" == Value.type "method" || Value.type "method" == Value.type "builtin_function_or_method" || Value.type "method" == Value.type "method-wrapper") = true by decide,if_true]
 show wpAny _ A.in1 (again (.call (.ref f) ⟨.ref T :: vs,[]⟩)) _ _ s
 refine wP ⟨rfl,?_⟩
 exact h
theorem Rh0 {q T:Addr} {oc:Value} {od:Option Addr} {fd:FuncData} {osl:Array (Option Value)} (e1:h.get? q = some (methodObj (.ref f) (.ref T))) (e2:h.get? f = some ⟨oc,od,.func fd,osl⟩):Looks (MM w) h (keeperOf (.ref q)) .boundFrame:=by
 unfold keeperOf
 refine (Looks.ld e1).andThen ?_
 exact (Looks.ld e2).andThen .now
theorem Ve0 {x:Srt} {args:List Expr} {n:Nat} {Post:Srt→Value→(Addr→Option Obj)→Prop} {Q:Value→Shared→Prop} (ok:CxOk c) (Y:SY c x ρ s)
  (ho:∀ p,Held (c.pins p) x→CxOk (c.pins p)→Ev (c.pins p) ρ o fun _ u=>u = .ref x.T) (hf:findIn (KF c.w) (.ref 181) name = some (some (.ref f))) (ht:typeIn (KF c.w) (.ref f) = some (.type "function")) (hfn:Pw0 c.w f = true)
  (hgf:specialIn (KF c.w) (.ref f) "__get__" = some (some (.builtin "function.__get__"))) (htk:takesIn (KF c.w) (.ref f) = some false) (hc:copiedNames.contains name = false)
  (hsh:∀ t1 t2 t3 t4 u3 u4,getL name (Sg0 c.w t1 t2 t3 t4 (.ref x.N) (In0 x.R) (.int x.po u3) (.int x.fin u4)) = some none)
  (hargs:∀ q s1 (Q':Args→Shared→Prop),SY c x ρ s1→(∀ vs s2,SY c x ρ s2→Kp c.fs s1 s2→RdAll (fz ((c.mores x.addrs).XX ρ) s2.heap) vs ds→Q' ⟨vs,[]⟩ s2)→wpAny (MM c.w) c.A (evalArgs (.ref q) true (backTo pos (starEach args c.env)) []) Q' E s1)
  (hm:Mth c.w n f x ds Post) (hn:n ≤ c.lvl) (hq:∀ v x' s',SY c x' ρ s'→Kp c.fs (hid x.addrs s) s'→(∀ a ∈ x.addrs,a ∈ x'.addrs)→(∀ a ∈ x'.addrs,a ∈ x.addrs ∨ s.heap.get? a = none)→Post x' v (fz ((c.mores x'.addrs).XX ρ) s'.heap)→Q v s')
  (hbase:attributeBase o name c.env (eval o c.env) = eval o c.env:=by rfl) (hst:((backTo pos (starEach args c.env)).all fun x=>!x.1) = false:=by rfl) (hst2:((backTo pos (starEach args c.env)).any (·.1)) = true:=by rfl) :
  wpAny (MM c.w) c.A (eval (.Call (.Attribute o name apos) args [] pos) c.env) Q E s:=by
 obtain ⟨oc,od,fd,osl,hK⟩:=Jo0 hfn
 refine Zy0 hbase hst (Az0 ok Y ho fun u s1 Y1 k1 hu=>?_)
 subst hu
 refine Zz0 (Y1.st.amb (ok.mores _)).wd.k Y1.at_ hf ht hgf htk hc hsh ?_
 have kq:Kp c.fs s1 { s1 with heap:=s1.heap.push (methodObj (.ref f) (.ref x.T)),toks:=s1.toks + 1 }:=(Kp.push s1 _).trans (.toks _ _)
 have Yq:=Y1.step ok kq (Nat.succ_pos _)
 have hqt:s1.heap.objs.size ≠ tA:=Nat.ne_of_gt (Nat.lt_of_lt_of_le (by decide) (Y1.st.big (ok.mores _)))
 have hqfs:s1.heap.objs.size ∉ c.fs:=fun q=>by
  obtain ⟨o,e,_⟩:=Y1.st.has _ (List.mem_append_right _ ((ok.mores _).fsX _ q))
  rw [Aj0] at e; cases e
 have eq:(s1.heap.push (methodObj (.ref f) (.ref x.T))).get? s1.heap.objs.size = some (methodObj (.ref f) (.ref x.T)):=Heap.get?_push_size _ rfl
 refine ks_call (P:=fun h=>h.get? s1.heap.objs.size = some (methodObj (.ref f) (.ref x.T))∧h.get? f = some ⟨oc,od,.func fd,osl⟩) hst2 (fun h hp=>⟨.boundFrame,.inr (.inr rfl),Rh0 hp.1 hp.2⟩) (hargs _ _ _ Yq fun vs s2 Y2 k2 r2=>?_)
 have e2:=k2.keep _ _ eq hqfs hqt
 refine ⟨⟨e2,Y2.st.kf (ok.mores _) hK (Gr0 _ _ _ hK).1 (Gr0 _ _ _ hK).2⟩,?_⟩
 have hX:∀ a ∈ x.addrs,a ∉ c.XX ρ:=fun a ha q=>by
  rcases List.mem_append.mp q with q | q
  ·exact Y2.ap.own a ha q
  ·exact Y2.ap.x a ha q
 rw [Iy0] at r2
 refine wpAny_with_toks (n:=1) Y2.st.toks (Xc0 e2 (codeAny_mono (hm c.A c.fs (c.XX ρ) s2 vs ((Y2.st.ambY ok).down hn) Y2.at_ hX r2) fun r s3 hr=>?_))
 obtain ⟨v,x',hQ175,k3,a3,hsub,hnew,hp⟩:=hr; subst hQ175
 intro htk
 rw [← Iy0] at hp
 have kk:Kp c.fs s s2:=(k1.trans kq).trans k2
 refine hq v x' s3 (Y2.after ok k3 a3 hsub hnew htk) (Dj0 kk k3 (fun b hb=>Y.ap.fs b hb) (Cv0 ok Y2.st Y2.ap.tab)) hsub (fun a ha=>?_) hp
 rcases hnew a ha with q | q
 ·exact .inl q
 ·refine .inr ?_
  cases w:s.heap.get? a with
  | none=>rfl
  | some o =>
   have hat:a ≠ tA:=(Y2.ap.extend ok Y2.st hnew).tab a ha
   obtain ⟨sl,e'⟩:=kk.slot a o w hat
   rw [q] at e'; cases e'
theorem Jq1 {y:Srt} {lp:Pos} (ok:CxOk c) (Y:SY c y ρ s) (h:Fb0 (c.mores y.addrs) ρ es ds) (hsz:ds.length ≤ sizeLine)
  (hx:c.env.kindOf x = some .local) (hcd:(x == ("__classdict__" : Str)) = false)
  (hr:∀ a s',c.s0.heap.get? a = none→a ∉ (c.mores y.addrs).XX ρ→SY c y ((x,.own a ds) :: ρ) s'→wpAny (MM c.w) c.A (execs rest c.env) Q E s') :
  wpAny (MM c.w) c.A (execs (.Assign [.Name x pos'] (.List es lp) pos :: rest) c.env) Q E s :=
 Yf0 (c:=c.mores y.addrs) (ok.mores _) Y.st h hsz (.inl hx) hcd fun a s' h1 h2 h3 hk S'=>hr a s' h1 h2 ⟨S',Y.at_.keep fun b hb o e=>hk b o e (Y.ap.loc b hb) (Y.ap.cell b hb) (Y.ap.fs b hb) (Y.ap.tab b hb),
  ⟨Y.ap.new,Y.ap.loc,Y.ap.cell,Y.ap.fs,Y.ap.tab,fun b hb q=>by
   rcases List.mem_cons.mp (show b ∈ a :: As0 ρ from q) with q | q
   ·exact h2 (q ▸ List.mem_append_right _ (List.mem_append_left _ hb))
   ·exact Y.ap.own b hb q,Y.ap.x⟩⟩
theorem Ok0 {y:Srt} (ok:CxOk c) (Y:SY c y ρ s)
  (hx:ρ.lookup x = some (.own a ds)) (h:∀ s1 (Q':Value→Shared→Prop),SY c y ρ s1→(∀ v s2,SY c y ρ s2→Rd (fz ((c.mores y.addrs).XX ρ) s2.heap) v d→Q' v s2)→wpAny (MM c.w) c.A (eval e c.env) Q' E s1)
  (hn:c.s0.heap.get? a = none) (hal:∀ y b es,y ≠ x→ρ.lookup y = some (.own b es)→b ≠ a) (hsz:ds.length ≤ sizeLine)
  (hr:∀ s',SY c y ((x,.own a (ds ++ [d])) :: ρ) s'→wpAny (MM c.w) c.A (execs rest c.env) Q E s') (hd:(x == ("__debug__" : Str)) = false:=by rfl)
  (he:starEach [e] c.env = [(false,eval e c.env)]:=by rfl) (hline:(apos.endLine == cpos.line) = true:=by rfl) (hi:interactive c.env = false:=by rfl) :
  wpAny (MM c.w) c.A (execs (.Expr (.Call (.Attribute (.Name x np) (oS "append") apos) [e] [] cpos) pos :: rest) c.env) Q E s:=by
 refine wC (wpAny_Expr ?_ hi rfl)
 refine wpAny_Call_method_lateS rfl (by rw [he]; rfl) hline (Az0 (P:=fun _ v=>v = .ref a) ok Y (fun p H okp=>Dd0 okp (fun s S=>⟨_,(S.own x a ds hx).1,rfl⟩) hd) fun v s1 Y1 k1 p=>?_)
 subst p
 obtain ⟨hsee,⟨vs0,n0,sl0,e0,r0⟩,hat⟩:=Y1.st.own x a ds hx
 refine ⟨"list", "list.append",F.plainAttrs_list,slot_list_append,F.type_list_append,⟨_,e0,rfl⟩,(fun b q=>by cases q; exact ⟨_,e0,rfl⟩),?_⟩
 have hp:∀ Q,wpAny (MM c.w) c.A (eval e c.env) (fun v s'=>Q ⟨[v],[]⟩ s') E s1→wpAny (MM c.w) c.A (evalArgs (.builtin "list.append") true (backTo cpos (starEach [e] c.env)) []) Q E s1:=by
  intro Q hq; rw [he]; exact evalArgs_plain (spliced_cons (wM hq (fun _ _ h=>spliced_nil h) fun _ _ x=>x))
 refine callWith_builtin (by rw [he]; rfl) (hp (fun a' s₁=>wpAny (MM c.w) c.A (call (.builtin "list.append") ([.ref a] ++ a'.pos) a'.kw) _ E s₁) (h s1 _ Y1 fun u s2 Y2 p2=>?_))
 obtain ⟨_,⟨vs,n,sl,e2,r2⟩,_⟩:=Y2.st.own x a ds hx
 have hlen:=r2.length
 simp only [Array.length_toList] at hlen
 refine Ch0 e2 (fun h' n' e' hs'=>?_) (by simp_all)
 have haX:a ∈ As0 ρ:=List.mem_filterMap.mpr ⟨_,Ag0 hx,rfl⟩
 refine hr _ ⟨Y2.st.grown (c:=c.mores y.addrs) (ok.mores _) hx hn hal hs' e' (es:=ds ++ [d]) ?_ Y2.st.toks,Y2.at_.keep fun b hb o eo=>(hs'.2 b fun q=>Y2.ap.own b hb (q ▸ haX)).trans eo,Y2.ap.rho fun b hb q=>?_⟩
 ·rw [Array.toList_push]
  exact r2.append (.cons p2 .nil)
 ·rcases List.mem_cons.mp (show b ∈ a :: As0 ρ from q) with q | q
  ·exact Y2.ap.own b hb (q ▸ haX)
  ·exact Y2.ap.own b hb q
theorem Es0 (ok:CxOk c) (S:St c ρ s) (h:ρ.lookup x = some (.own a ds)) (hn:c.s0.heap.get? a = none) (hd:(x == ("__debug__" : Str)) = false:=by rfl) :
  wpAny (MM c.w) c.A (execs (.Return (some (.Name x np)) pos :: rest) c.env) (Hz1 c (.list ds)) E s :=
 wC (wpAny_Return_some (Ad0 ok (Dd0 (P:=fun _ v=>v = .ref a) ok (fun s S=>⟨_,(S.own x a ds h).1,rfl⟩) hd) S (.refl _ _) fun v s' S' _ _ r=>by
  subst r
  obtain ⟨_,⟨vs,n,sl,e,r⟩,_⟩:=S'.own x a ds h
  exact ⟨S'.since,.list (Bf0 e fun q=>by obtain ⟨o,e'⟩:=ok.x0has a q; rw [hn] at e'; cases e') (r.mono (Ao0 (Dp0 ok)))⟩))
noncomputable def w0:List Str:=[oS "",oS "a",oS "' '",oS " #"]
noncomputable def Lt0:List Str:=[oS "a",oS "b",oS " ",oS "'",oS "#",oS "\n",oS "' '",oS "''"]
noncomputable def wX (n:Int):Int:=n.fmod ((10:Int) ^ (6:Int).toNat)
noncomputable def Lu0 (ws:List Str) (n:Int):Str :=
 let base:=ws.getD ((wX n).fmod (ws.length:Int)).toNat (oS "")
 let part:=Lt0.getD (((wX n).fdiv 16).fmod 8).toNat (oS "")
 if ((wX n).fdiv 128).fmod 2 == 0 then base ++ part else part ++ base
noncomputable def Et0 (ws:List Str) (n:Int):List Str:=if ws.any (· == Lu0 ws n) then ws else ws ++ [Lu0 ws n]
noncomputable def Gl0 (script:List Int):List Str:=(script.take 4).foldl Et0 w0
structure WOk (i:Nat) (ws:List Str):Prop where
 len:ws.length ≤ 4 + i
 pos:0 < ws.length
 each:∀ y ∈ ws,y.length ≤ 3 + 3 * i
theorem Ri0:∀ y ∈ Lt0,y.length ≤ 3:=by decide
theorem Kk0 (ws:List Str) (n:Int) (hp:0 < ws.length):∃ y ∈ ws,ws[((wX n).fmod (ws.length:Int)).toNat]? = some y∧ws.getD ((wX n).fmod (ws.length:Int)).toNat (oS "") = y:=by
 have h1:0 ≤ (wX n).fmod (ws.length:Int):=Int.fmod_nonneg_of_pos _ (by exact Int.ofNat_lt.mpr ‹_›)
 have h2:(wX n).fmod (ws.length:Int) < ws.length:=Int.fmod_lt_of_pos _ (by exact Int.ofNat_lt.mpr ‹_›)
 have h3:((wX n).fmod (ws.length:Int)).toNat < ws.length:=by exact Ic1 ‹_› ‹_›
 exact ⟨ws[((wX n).fmod (ws.length:Int)).toNat],List.getElem_mem h3,List.getElem?_eq_getElem h3,by rw [List.getD_eq_getElem?_getD,List.getElem?_eq_getElem h3]; rfl⟩
theorem Kl0 (n:Int):∃ y ∈ Lt0,Lt0[(((wX n).fdiv 16).fmod 8).toNat]? = some y∧Lt0.getD (((wX n).fdiv 16).fmod 8).toNat (oS "") = y:=by
 have h1:0 ≤ ((wX n).fdiv 16).fmod 8:=Int.fmod_nonneg_of_pos _ (by exact Int.natCast_nonneg _)
 have h2:((wX n).fdiv 16).fmod 8 < 8:=Int.fmod_lt_of_pos _ (by exact Int.natCast_nonneg _)
 have h3:(((wX n).fdiv 16).fmod 8).toNat < Lt0.length:=by show _ < 8; exact Ic1 ‹_› ‹_›
 exact ⟨Lt0[(((wX n).fdiv 16).fmod 8).toNat],List.getElem_mem h3,List.getElem?_eq_getElem h3,by rw [List.getD_eq_getElem?_getD,List.getElem?_eq_getElem h3]; rfl⟩
theorem Lv0 (x y:Str):(x ++ y).length = x.length + y.length:=by
 show (x.cps ++ y.cps).size = _
 rw [Array.size_append]; rfl
theorem Aa1 {i:Nat} {ws:List Str} (h:WOk i ws) (n:Int):(Lu0 ws n).length ≤ 3 + 3 * (i + 1):=by
 obtain ⟨b,hb,_,eb⟩:=Kk0 ws n h.pos
 obtain ⟨p,hp,_,ep⟩:=Kl0 n
 have h1:=h.each b hb
 have h2:=Ri0 p hp
 unfold Lu0
 rw [eb,ep]
 dsimp only
 split <;> (rw [Lv0]; lia)
theorem WOk.step {i:Nat} {ws:List Str} (h:WOk i ws) (n:Int):WOk (i + 1) (Et0 ws n):=by
 unfold Et0
 split
 ·exact ⟨by have:=h.len; exact Nat.le_succ_of_le ‹_›,h.pos,fun y hy=>by have:=h.each y hy; lia⟩
 ·refine ⟨by have:=h.len; simp; exact Nat.lt_succ_of_le ‹_›,by simp,fun y hy=>?_⟩
  rcases List.mem_append.mp hy with q | q
  ·have:=h.each y q; lia
  ·rw [List.mem_singleton.mp q]; exact Aa1 h n
theorem WOk.zero:WOk 0 w0:=⟨by decide,by decide,by decide⟩
theorem WOk.fold:∀ (l:List Int) (i:Nat) (ws:List Str),WOk i ws→WOk (i + l.length) (l.foldl Et0 ws)
 | [],_,_,h=>h
 | n :: r,i,ws,h=>by
  have:=WOk.fold r (i + 1) _ (h.step n)
  rw [List.foldl_cons,List.length_cons,show i + (r.length + 1) = i + 1 + r.length by simp +arith]
  exact this
theorem Dp1 (w:World) (script:List Int) (hn:script.length ≤ 1000):FnD w 4 205 [.list (script.map .int)] (.list ((Gl0 script).map .str)):=by
 refine Cp0 (ps:=[oS "script"]) (by rfl) (by rfl) rfl (fun s vs hv=>?_) (by decide) (by rfl) (by decide) (by rfl) ?_
 ·obtain ⟨v,hQ176⟩:=Cg1 hv; subst hQ176
  exact BindsTo.of_eq rfl
 ·intro A X X0 fs fs0 s0 L s1 c ok S E
  refine Mg0 (ds:=w0.map .str) ok S (Ab0 ok Am0 (Ab0 ok Am0 (Ab0 ok Am0 (Ab0 ok Am0 Ac0)))) (by decide) (.inl rfl) rfl fun a s2 ha1 ha2 _ S2=>?_
  have hpick:Nj0 (script.map PyData.int) none (some 4) = (script.take 4).map PyData.int:=by
   unfold Nj0 clipAt
   simp only [Option.elim,List.drop_zero,List.length_map,Nat.sub_zero]
   rw [List.map_take]
   by_cases q:script.length ≤ 4
   ·rw [List.take_of_length_le (by simp; omega),List.take_of_length_le (by simp; omega)]
   ·congr 1; grind
  let ρs:Nat→Rho:=fun i=>[(oS "words",.own a ((((script.take 4).take i).foldl Et0 w0).map .str)),(oS "script",.val (.list (script.map .int)))]
  refine Wu0 (f:=PyData.int) (ys:=script.take 4) (ρs:=ρs) (ρb:=[]) (fun _=>True) False ok S2 (Fc0 ok ?_) trivial (.inl rfl) ?_ ?_ (fun _ h=>h.elim)
  ·rw [← hpick]
   exact Cb0 (l:=none) (u:=some 4) ok (EvD.toL (Aa0 ok rfl)) trivial Ar0 (by simp; unfold sizeLine; exact Nat.le_trans ‹_› (by decide))
  ·intro i n pins s' hn' ok' _ S' E'
   have hlt:i < (script.take 4).length:=(List.getElem?_eq_some_iff.mp hn').1
   have hi4:i < 4:=by have:=List.length_take_le 4 script; exact Nat.lt_of_lt_of_le ‹_› ‹_›
   have hfold:(((script.take 4).take (i + 1)).foldl Et0 w0) = Et0 (((script.take 4).take i).foldl Et0 w0) n:=by
    rw [List.take_add_one,hn',List.foldl_append]; rfl
   have hW:WOk i (((script.take 4).take i).foldl Et0 w0):=by
    have:=WOk.fold ((script.take 4).take i) 0 w0 .zero
    rwa [Nat.zero_add,List.length_take,Nat.min_eq_left (by exact Nat.le_of_lt ‹_›)] at this
   generalize hws:((script.take 4).take i).foldl Et0 w0 = ws at hW hfold
   have S':St (c.pins pins) ((oS "number",.val (.int n)) :: [(oS "words",.own a (ws.map .str)),(oS "script",.val (.list (script.map .int)))]) s':=by rw [← hws]; exact S'
   obtain ⟨b,hbm,hb1,hb2⟩:=Kk0 ws n hW.pos
   obtain ⟨p,hpm,hp1,hp2⟩:=Kl0 n
   have hlen:=hW.len
   have hbl:=hW.each b hbm
   have hpl:=Ri0 p hpm
   have hx0:0 ≤ (wX n).fmod (ws.length:Int):=Int.fmod_nonneg_of_pos _ (by have:=hW.pos; exact Int.ofNat_lt.mpr ‹_›)
   have hx1:(wX n).fmod (ws.length:Int) < ws.length:=Int.fmod_lt_of_pos _ (by have:=hW.pos; exact Int.ofNat_lt.mpr ‹_›)
   have hy0:0 ≤ ((wX n).fdiv 16).fmod 8:=Int.fmod_nonneg_of_pos _ (by decide)
   have hy1:((wX n).fdiv 16).fmod 8 < 8:=Int.fmod_lt_of_pos _ (by decide)
   refine Ap0 (d:=.int (wX n)) ok' S' (Fp0 ok' (Aa0 ok' rfl) (Wd0 ok' Ar0 Ar0 (by decide) (by decide)) (by decide)) (.inl rfl) rfl rfl fun s3 S3=>?_
   refine Ap0 (d:=.str b) ok' S3 (Bk0 ok' (Dz0 ok' rfl) (Fp0 ok' (Aa0 ok' rfl) (Ea0 ok' (Cy0 ok' rfl) (Dz0 ok' rfl) ?_) ?_) ?_ ?_ ?_) (.inl rfl) rfl rfl fun s4 S4=>?_
   ·simp; lia
   ·simp; have:=hW.pos; intro q; simp [q] at this
   ·simpa using hx0
   ·simp [hb1]
   ·simp; omega
   refine Ap0 (d:=.str p) ok' S4 (Bk0 (ds:=Lt0.map .str) ok' (EvD.toL (Ek0 ok' (Ab0 ok' Am0 (Ab0 ok' Am0 (Ab0 ok' Am0 (Ab0 ok' Am0 (Ab0 ok' Am0 (Ab0 ok' Am0 (Ab0 ok' Am0 (Ab0 ok' Am0 Ac0)))))))) (by decide)))
    (Fp0 ok' (Ly0 ok' (Aa0 ok' rfl) Ar0 (by decide) (PyProof.noPylong_small (by decide))) Ar0 (by decide)) hy0 ?_ ?_) (.inl rfl) rfl rfl fun s5 S5=>?_
   ·rw [List.getElem?_map,hp1]; rfl
   ·omega
   have hword:Lu0 ws n = if ((wX n).fdiv 128).fmod 2 == 0 then b ++ p else p ++ b:=by unfold Lu0; rw [hb2,hp2]
   refine Ap0 (d:=.str (Lu0 ws n)) ok' S5 (Ug0 ok' (Aq0 ok' (Fp0 ok' (Ly0 ok' (Aa0 ok' rfl) Ar0 (by decide) (PyProof.noPylong_small (by decide))) Ar0 (by decide)) Ar0 (Bq0 ok' _) Gp0) ?_ ?_) (.inl rfl) rfl rfl fun s6 S6=>?_
   ·intro q
    rw [hword,if_pos q]
    exact Be0 ok' (Aa0 ok' rfl) (Aa0 ok' rfl) (by unfold sizeLine; lia)
   ·intro q
    rw [hword,if_neg (by rw [q]; decide)]
    exact Be0 ok' (Aa0 ok' rfl) (Aa0 ok' rfl) (by unfold sizeLine; lia)
   refine Em0 (b:=!(ws.any (· == Lu0 ws n))) ok' S6 (Aq0 ok' (Aa0 ok' rfl) (Dz0 ok' rfl) (Bq0 ok' _) Cx0) ?_ ?_
   ·intro q s7 S7
    refine Ff0 ok' S7 rfl (Aa0 ok' rfl) ha1 ?_ (by simp; unfold sizeLine; lia) fun s8 S8=>wN (wN ?_)
    ·intro y bb es hy hl
     have:=Ag0 hl
     simp at this
     exact absurd this.1 hy
    ·refine ⟨S8.drop (.cons ?_ (.cons rfl .nil)),trivial⟩
     rw [hfold,show Et0 ws n = ws ++ [Lu0 ws n] by unfold Et0; rw [if_neg (by rw [Bool.not_eq_true']at q; rw [q]; decide)],List.map_append]
     rfl
   ·intro q s7 S7
    refine wN (wN ⟨S7.drop (.cons ?_ (.cons rfl .nil)),trivial⟩)
    rw [hfold,show Et0 ws n = ws by unfold Et0; rw [if_pos (by simpa using q)]]
    rfl
  ·intro s3 _ S3
   have e:(((script.take 4).take (script.take 4).length).foldl Et0 w0) = Gl0 script:=by rw [List.take_length]; rfl
   rw [← e]
   exact Es0 ok S3 rfl ha1
theorem SY.fresh {x:Srt} (ok:CxOk c) (S:St c ρ s) (k:Kp c.fs s s') (a:x.At c.w s'.heap) (hnew:∀ b ∈ x.addrs,s.heap.get? b = none) (ht:0 < s'.toks):SY c x ρ s' :=
 ⟨St.after (Y:=[]) ok S Apart.nil (Je1 k (S.tab ok)) (fun a q=>by cases q) (fun b hb=>.inr (hnew b hb)) a.has ht,a,Apart.extend (Y:=[]) ok S Apart.nil fun b hb=>.inr (hnew b hb)⟩
noncomputable abbrev Bz0:=List (Str × List Str)
noncomputable def Li0 (r:Str × List Str):PyData:=.list (.str r.1 :: r.2.map .str)
noncomputable def gOf (rows:Bz0):Ab:=rows.foldl (fun l r=>Ia1 l r.1 r.2) []
noncomputable def nxt (S:Ab × List Str):Ab × List Str:=S.2.foldl Dw0 (Uy0 S.1 S.2,[])
noncomputable def stN (S:Ab × List Str):Nat→Ab × List Str
 | 0=>S
 | n + 1=>nxt (stN S n)
noncomputable def Ts0:Nat→Ab × List Str→List (List Str)
 | 0,_=>[]
 | n + 1,S=>S.2 :: if S.2 = [] then [] else Ts0 n (nxt S)
structure Good (S:Ab × List Str):Prop where
 mem:∀ k ∈ S.2,k ∈ S.1.map (·.1)
 len:S.2.length ≤ 100
 out:∀ i k,S.2[i]? = some k→∃ e ∈ ((S.2.take i).foldl Dw0 (Uy0 S.1 S.2,[])).1,e.1 = k∧e.2.1 = -1
 asc:∀ k ∈ S.2,Asc k
 suc:∀ e ∈ Uy0 S.1 S.2,e.2.2.length ≤ 100∧∀ s ∈ e.2.2,s ∈ (Uy0 S.1 S.2).map (·.1)
theorem Fl0 (S:Ab × List Str):∀ n,stN (nxt S) n = stN S (n + 1)
 | 0=>rfl
 | n + 1=>by show nxt (stN (nxt S) n) = nxt (stN S (n + 1)); rw [Fl0 S n]
theorem Cr0 {α:Type} (f:Nat→α) (n:Nat):(List.range (n + 1)).map f = f 0 :: (List.range n).map fun j=>f (j + 1):=by
 rw [List.range_succ_eq_map,List.map_cons,List.map_map]; rfl
theorem Rj0:∀ n S,(∀ j < n,(stN S j).2 ≠ [])→Ts0 n S = (List.range n).map fun j=>(stN S j).2
 | 0,_,_=>rfl
 | n + 1,S,h=>by
  rw [Cr0]
  show S.2 :: (if S.2 = [] then [] else Ts0 n (nxt S)) = S.2 :: _
  rw [if_neg (show S.2 ≠ [] from h 0 (Nat.succ_pos _)),Rj0 n (nxt S) (fun j hj=>by rw [Fl0]; exact h (j + 1) (by exact Nat.succ_lt_succ ‹_›))]
  simp only [Fl0]
theorem Rk0:∀ i n S,i < n→(∀ j < i,(stN S j).2 ≠ [])→(stN S i).2 = []→Ts0 n S = (List.range (i + 1)).map fun j=>(stN S j).2
 | _,0,_,h,_,_=>by exact absurd ‹_› (Nat.not_lt_zero _)
 | 0,n + 1,S,_,_,h0=>by
  show S.2 :: (if S.2 = [] then [] else Ts0 n (nxt S)) = [S.2]
  rw [if_pos (show S.2 = [] from h0)]
 | i + 1,n + 1,S,hi,h,h0=>by
  rw [Cr0]
  show S.2 :: (if S.2 = [] then [] else Ts0 n (nxt S)) = S.2 :: _
  rw [if_neg (show S.2 ≠ [] from h 0 (Nat.succ_pos _)),Rk0 i n (nxt S) (by exact Nat.lt_of_succ_lt_succ ‹_›) (fun j hj=>by rw [Fl0]; exact h (j + 1) (by exact Nat.lt_succ_of_le ‹_›)) (by rw [Fl0]; exact h0)]
  simp only [Fl0]
theorem Jr1 {x:Srt} (ok:CxOk c) (k:Kp c.fs (hid x.addrs s) s') (r:Rd (fz ((c.mores x.addrs).XX ρ) s.heap) v d):Rd (fz ((c.mores x.addrs).XX ρ) s'.heap) v d :=
 r.mono fun a o e=>Bf0 (k.keep a o (Br0 (Ah0 e) fun q=>Ae0 e (List.mem_append_right _ (List.mem_append_left _ q))) (fun q=>Ae0 e (Dy0 (ok.mores _) _ q)) fun q=>Ae0 e (q ▸ Ii0 (ok.mores _))) (Ae0 e)
noncomputable def Cg0 (rs:List Str):PyData:=.tuple [.bool (!rs.isEmpty),.tuple (rs.map .str),.bool (!rs.isEmpty)]
noncomputable def Xd0 (l:Ab) (node:Str) (Bd0:List Str) (i:Nat):Ab:=(Bd0.take i).foldl (Wy0 node) (Iu0 (Xp0 l node) node fun q=>(q.1 + Bd0.length,q.2))
theorem Rl0 (r:Str × List Str):Nj0 (PyData.str r.1 :: r.2.map PyData.str) (some 1) none = r.2.map .str:=by
 unfold Nj0
 have h1:(max 0 (min 1 ((r.2.length:Int) + 1))).toNat = 1:=by lia
 simp [clipAt,h1]
 exact List.take_of_length_le (by simp)
theorem Id0 (h:∀ y ∈ ys,Asc y):PyData.canLay0 (.tuple (ys.map .str)) = true:=Ci0 h
theorem Ol0:PyData.eqv (.tuple (ys.map .str)) (.tuple []) = ys.isEmpty:=by cases ys <;> rfl
theorem Iq0 {Y:List Addr} (ok:CxOk c) (S:St (c.mores Y) ρ s) (h:ρ.lookup x = some (.own a ds)) (hn:c.s0.heap.get? a = none) (hd:(x == ("__debug__" : Str)) = false:=by rfl) :
  wpAny (MM c.w) c.A (execs (.Return (some (.Name x np)) pos :: rest) c.env) (Hz1 c (.list ds)) E s:=Es0 (c:=c.mores Y) (ok.mores Y) S h hn hd
noncomputable abbrev Nh1 (_:CxOk c) (Y:List Addr):Rho→Shared→Prop:=St (c.mores Y)
theorem Ab1 (w:World) (rows:Bz0) (most:Nat) (hm:most ≤ 1000) (hr:rows.length ≤ 1000) (I:Ab × List Str→Prop) (hI0:I (gOf rows,By0 (gOf rows))) (hIs:∀ S,I S→Good S∧I (nxt S))
  (rank:Str→Nat) (hG:∀ e ∈ gOf rows,(∀ k ∈ e.2.2,rank e.1 < rank k∧k ∈ (gOf rows).map (·.1))∧e.2.2.length ≤ 100) (hGl:(gOf rows).length ≤ 100)
  (hA:∀ i row,rows[i]? = some row→row.2.length ≤ 900∧(gOf (rows.take i)).length ≤ 900∧∀ j,(Xd0 (gOf (rows.take i)) row.1 row.2 j).length ≤ 1000∧∀ p ∈ Xd0 (gOf (rows.take i)) row.1 row.2 j,p.2.2.length ≤ 1000):FnD w 9 258 [.list (rows.map Li0),.int most] (.list (.bool false :: (Ts0 (most + 1) (gOf rows,By0 (gOf rows))).map Cg0)):=by
 refine Cp0 (ps:=[oS "rows",oS "most"]) (by rfl) (by rfl) rfl (fun s vs hv=>?_) (by decide) (by rfl) (by decide) (by rfl) ?_
 ·obtain ⟨v,u,hQ177⟩:=Hy1 hv; subst hQ177
  exact BindsTo.of_eq rfl
 intro A X X0 fs fs0 s0 L s1 c ok S E
 refine wC (wpAny_Assign_Name (wpAny_Call_ofName (Ad0 ok (Bp0 ok (Gf0 _) rfl) S (.refl _ _) fun v s2 S2 k2 _ hv=>?_)) rfl)
 subst hv
 have am2:=S2.amb ok
 refine callWith_K0 (K:=KF w) am2.wd.k (by rfl) (wpAny_call (Tr0 (n:=6) am2 fun x s3 hxR hxp hxf hxn hnew atx k3 ht3=>?_))
 have Y3:SY _ x _ s3:=SY.fresh ok S2 k3 atx hnew ht3
 refine Y3.store ok rfl rfl (.inr rfl) fun s4 Y4=>?_
 let ρ0:Rho:=[(oS "sorter",.raw (.ref x.T)),(oS "rows",.val (.list (rows.map Li0))),(oS "most",.val (.int most))]
 have Y4':SY _ x ρ0 s4:=Y4
 let J:Nat→Srt→Prop:=fun i xi=>xi.abs = gOf (rows.take i)∧x.Same xi
 refine Rb0 (f:=Li0) (ρs:=fun _=>ρ0) (ρb:=[]) J (fun _=>False) ok Y4' (Fc0 (ok.mores _) (Aa0 (ok.mores _) rfl)) ⟨by unfold Srt.abs; rw [hxn]; rfl,.refl _⟩ rfl ?_ ?_ (fun _ _ h=>h.elim)
 ·intro i row pins xi sa hrow okq hi6 Ya E'
  obtain ⟨habi,hsmi⟩:=hi6
  obtain ⟨hA1,hA2,hA3⟩:=hA i row hrow
  rw [← habi] at hA2 hA3
  refine wC (wpAny_Expr (Ve0 (ds:=.str row.1 :: row.2.map .str) (n:=7) okq Ya (fun p H okp=>by rw [hsmi.T]; exact Ai0 okp rfl) (f:=131) (by rfl) (by rfl) (by rfl) (by rfl) (by rfl) (by decide +kernel) (fun _ _ _ _ _ _=>rfl)
   (fun q s5 Q' Y5 hq=>Rf0 okq Y5 (fun p H okp=>Bk0 (ds:=.str row.1 :: row.2.map .str) okp (EvD.toL (Aa0 okp rfl)) Ar0 (by decide) rfl (by decide)) (fun p H okp=>?_) (by exact Nat.le_trans ‹_› (by decide)) hq)
   (Gk1 w xi row.1 row.2 (hsmi.R.trans hxR) hA3 (by exact Nat.le_trans ‹_› (by decide)) (by rw [← Tl0]; exact Nat.le_trans ‹_› (by decide))) (Nat.le_of_ble_eq_true rfl) fun v x2 s6 Y6 _ _ _ hp2=>?_) rfl rfl)
  ·rw [← Rl0 row]
   exact Cb0 (l:=some 1) (u:=none) okp (EvD.toL (Aa0 okp rfl)) Ar0 trivial (by show (PyData.str row.1 :: row.2.map PyData.str).length ≤ sizeLine; simp; unfold sizeLine; exact Nat.lt_of_le_of_lt ‹_› (by decide))
  ·obtain ⟨hQ178,hab2,hsm2⟩:=hp2; subst hQ178
   have Ye:SY _ x2 ρ0 s6:=Y6.drop (.cons rfl (.cons rfl (.cons rfl .nil)))
   refine wN ⟨x2,Ye,?_,hsmi.trans hsm2⟩
   rw [hab2,habi]
   unfold gOf
   rw [List.take_add_one,hrow,List.foldl_append]
   rfl
 ·intro xz sz hi7 Yz
  obtain ⟨habz,hsmz⟩:=hi7
  rw [List.take_length] at habz
  refine Kg0 (d:=.bool false) ok Yz (fun q H okp=>Si0) rfl rfl rfl rfl fun s5 Y5=>?_
  have hrk':∀ d ∈ xz.nds,∀ k ∈ d.succ,rank d.key < rank k∧k ∈ xz.nds.map (·.key):=fun d hd k hk=>by
   rw [← Dk0,habz]
   have:=hG (d.key,d.np,d.succ) (habz ▸ Oh0 hd)
   exact this.1 k hk
  have hN:xz.nds.length ≤ 900:=by rw [← Tl0,habz]; exact Nat.le_trans ‹_› (by decide)
  refine wC (wpAny_Try_except (wC (wpAny_Expr (Gj0 (ds:=[]) (n:=7) ok Y5 (fun p H okp=>by rw [hsmz.T]; exact Ai0 okp rfl) (f:=136) (by rfl) (by rfl) (by rfl) (fun _ _ _ _ _ _=>rfl) (fun s6 Q' Y6 hq=>evalArgs_nil3 (hq [] s6 Y6 (.refl _ _) .nil)) (Do1 w xz rank (hsmz.R.trans hxR) hrk' hN) (Nat.le_of_ble_eq_true rfl) fun v xp s7 Y7 _ _ _ hp7=>?_) rfl rfl)))
  obtain ⟨hQ179,hTp,⟨aR,hRp⟩,hpop,hfinp,habp⟩:=hp7; subst hQ179
  refine wN (wN ?_)
  refine Jq1 ok Y7 (ds:=[.bool false]) (Ab0 (ok.mores _) (Aa0 (ok.mores _) rfl) Ac0) (by decide) rfl rfl fun a s8 ha0 haX Y8=>?_
  let S0:Ab × List Str:=(gOf rows,By0 (gOf rows))
  let toldN:Nat→List PyData:=fun i=>.bool false :: (List.range i).map fun j=>Cg0 (stN S0 j).2
  let ρi:Nat→Rho:=fun i=>[(oS "told",.own a (toldN i)),(oS "sorter",.raw (.ref x.T)),(oS "most",.val (.int most))]
  have Y8':SY _ xp (ρi 0) s8:=Y8.drop (.cons rfl (.cons rfl (.cons rfl .nil)))
  have haxp:a ∉ xp.addrs:=fun q=>haX (List.mem_append_right _ (List.mem_append_left _ q))
  let fin:List PyData:=.bool false :: (Ts0 (most + 1) S0).map Cg0
  let J2:Nat→Srt→Prop:=fun i xi=>xi.abs = (stN S0 i).1∧(∃ b,xi.R = some (b,(stN S0 i).2))∧xi.po = xi.fin∧xi.T = x.T∧I (stN S0 i)∧∀ j < i,(stN S0 j).2 ≠ []
  let ρb:Rho:=[(oS "told",.own a fin)]
  refine Rb0 (f:=fun (i:Nat)=>PyData.int (i:Int)) (ys:=List.range (most + 1)) (ρs:=ρi) (ρb:=ρb) J2 (fun _=>True) ok Y8'
   (Bw0 (ok.mores _) (Dq0 (ok.mores _) rfl) (Ev.castD (Bi0 (ok.mores _) (Aa0 (ok.mores _) rfl) Ar0) rfl) (by lia)) ⟨habp.trans habz,⟨aR,by rw [hRp,habz]; rfl⟩,?_,hTp.trans hsmz.T,hI0,fun j hj=>absurd hj (Nat.not_lt_zero _)⟩ rfl ?_ ?_ ?_
  ·rw [hpop,hfinp,hsmz.po,hsmz.fin,hxp,hxf]
  ·intro i i' pins xi sa hdd okq hi8 Ya E'
   obtain ⟨habi,⟨b,hRi⟩,hpf,hTi,hIi,hne⟩:=hi8
   have hi0:i < most + 1:=by have:=(List.getElem?_eq_some_iff.mp hdd).1; simpa using this
   obtain ⟨gd,hIn⟩:=hIs _ hIi
   have hlen:=gd.len
   have hmem:∀ k ∈ (stN S0 i).2,k ∈ xi.nds.map (·.key):=fun k hk=>by rw [← Dk0,habi]; exact gd.mem k hk
   refine wC (wpAny_Assign_Name (Gj0 (ds:=[]) (n:=5) okq Ya (fun p H okp=>by rw [hTi]; exact Ai0 okp rfl) (f:=150) (by rfl) (by rfl) (by rfl) (fun _ _ _ _ _ _=>rfl) (fun s6 Q' Y6 hq=>evalArgs_nil3 (hq [] s6 Y6 (.refl _ _) .nil)) (Mr0 w xi _ hRi (by show (stN S0 i).2.length ≤ 1000; exact Nat.le_trans ‹_› (by decide))) (Nat.le_of_ble_eq_true rfl) fun v x2 s6 Y6 _ _ _ hp2=>?_) rfl)
   obtain ⟨hQ180,hQ181⟩:=hp2; subst hQ180; subst hQ181
   have hact:(decide (x2.fin < x2.po) || !(stN S0 i).2.isEmpty) = !(stN S0 i).2.isEmpty:=by rw [hpf]; simp
   rw [hact]
   refine Y6.store okq rfl rfl (.inl ⟨.bool _,rfl,rfl,.bool _⟩) fun s7 Y7=>?_
   refine wC (wpAny_Assign_Name (Gj0 (ds:=[]) (n:=6) okq Y7 (fun p H okp=>by rw [hTi]; exact Ai0 okp rfl) (f:=143) (by rfl) (by rfl) (by rfl) (fun _ _ _ _ _ _=>rfl) (fun s6 Q' Y6 hq=>evalArgs_nil3 (hq [] s6 Y6 (.refl _ _) .nil)) (Zi0 w x2 _ hRi (by show (stN S0 i).2.length ≤ 1000; exact Nat.le_trans ‹_› (by decide)) hmem) (Nat.le_of_ble_eq_true rfl) fun v x3 s8 Y8 _ _ hnew3 hp3=>?_) rfl)
   obtain ⟨hT3,hR3,hpo3,hfin3,hab3,rv3⟩:=hp3
   refine Y8.store okq rfl rfl (.inl ⟨.tuple ((stN S0 i).2.map .str),rfl,Dl0 _,rv3.mono (Ao0 fun b hb=>?_)⟩) fun s9 Y9=>?_
   ·rcases List.mem_append.mp hb with q | q
    ·exact List.mem_append_left _ q
    ·exact List.mem_append_right _ (List.mem_append_right _ q)
   refine Ok0 (x:=oS "told") (a:=a) (ds:=toldN i) (d:=Cg0 (stN S0 i).2) okq Y9 rfl (fun s1 Q' Y1 hq=>?_) ha0 ?_ ?_ fun s10 Y10=>?_
   ·refine Tuple_ (spliced_cons (Bu0 okq Y1 (fun p H okp=>Aa0 okp rfl) fun v1 s2 Y2 k2 r1=>spliced_cons (Bu0 okq Y2 (fun p H okp=>Aa0 okp rfl) fun v2 s3 Y3 k3 r2=>spliced_cons ?_)))
    refine Gj0 (ds:=[]) (n:=5) okq Y3 (fun p H okp=>by rw [hT3,hTi]; exact Ai0 okp rfl) (f:=150) (by rfl) (by rfl) (by rfl) (fun _ _ _ _ _ _=>rfl) (fun s6 Q' Y6 hq=>evalArgs_nil3 (hq [] s6 Y6 (.refl _ _) .nil)) (Mr0 w x3 _ hR3 (Nat.zero_le _)) (Nat.le_of_ble_eq_true rfl) fun v3 x4 s4 Y4 k4 _ _ hp4=>spliced_nil ?_
    obtain ⟨hQ182,hQ183⟩:=hp4; subst hQ182; subst hQ183
    have hact3:(decide (x4.fin < x4.po) || !([]:List Str).isEmpty) = !(stN S0 i).2.isEmpty:=by
     rw [hpo3,hfin3,hpf]
     cases (stN S0 i).2 with
     | nil=>simp
     | cons _ _=>simp; simp +arith
    rw [hact3]
    cases r1.bool_inv
    have r3:=Jr1 okq k4 (Yy0 (d:=.tuple ((stN S0 i).2.map .str)) Y3.at_.noTup (Dl0 _) r2)
    refine wpAny_newTuple (hq _ _ (Y4.step okq (.push _ _) Y4.st.toks) (Rd.newTuple Y4.st.fresh (.cons (.bool _) (.cons r3 (.cons (.bool _) .nil))))) (by show 3 ≤ _; unfold sizeLine; exact Nat.le_add_left _ _)
   ·intro y bb es hy hlk
    have:=Ag0 hlk
    simp [ρi] at this
    exact absurd this.1 hy
   ·show (List.length _) ≤ _
    simp [toldN]; unfold sizeLine; lia
   refine wC (wpAny_Expr (Ve0 (ds:=(stN S0 i).2.map .str) (n:=5) okq Y10 (fun p H okp=>by rw [hT3,hTi]; exact Ai0 okp rfl) (f:=164) (by rfl) (by rfl) (by rfl) (by rfl) (by rfl) (by decide +kernel) (fun _ _ _ _ _ _=>rfl)
    (fun q s5 Q' Y5 hq=>Rg0 okq Y5 (fun p H okp=>Aa0 okp rfl) (by exact Nat.le_trans ‹_› (by decide)) hq)
    (Dg1 w x3 _ (stN S0 i).2 hR3 (by rw [hab3,habi]; exact gd.out) (by rw [hab3,habi]; exact gd.suc) hlen (Nat.zero_le _)) (Nat.le_of_ble_eq_true rfl) fun v x5 s11 Y11 _ _ _ hp5=>?_) rfl rfl)
   obtain ⟨hQ184,D⟩:=hp5; subst hQ184
   have htold:toldN i ++ [Cg0 (stN S0 i).2] = toldN (i + 1):=by
    show (PyData.bool false :: _) ++ _ = _ :: _
    rw [List.range_succ,List.map_append]; rfl
   rw [htold] at Y11
   have hN:stN S0 (i + 1) = (stN S0 i).2.foldl Dw0 (x3.abs,[]):=by rw [hab3,habi]; rfl
   refine Oe0 (b:=(stN S0 i).2.isEmpty) okq Y11 (fun p H okp=>?_) (fun hb s12 Y12=>?_) fun hb s12 Y12=>wN (wN ?_)
   ·rw [← Ol0]
    exact Nn0 okp (Aa0 okp rfl) (Cn0 okp Ac0 (by decide)) (Id0 gd.asc) rfl (by rw [show PyData.depth (.tuple ((stN S0 i).2.map .str)) = 1 from Cj0 _]; decide)
   ·refine wC (wpAny_Break ?_)
    have hnil:(stN S0 i).2 = []:=List.isEmpty_iff.mp hb
    have e:toldN (i + 1) = fin:=by
     show PyData.bool false :: _ = PyData.bool false :: _
     rw [Rk0 i (most + 1) S0 hi0 hne hnil,List.map_map]; rfl
    rw [e] at Y12
    exact ⟨_,Y12.drop (.cons rfl .nil),trivial⟩
   ·have hne':(stN S0 i).2 ≠ []:=fun q=>by rw [q] at hb; cases hb
    have Ye:SY _ x5 (ρi (i + 1)) s12:=Y12.drop (.cons rfl (.cons rfl (.cons rfl .nil)))
    refine ⟨x5,Ye,by rw [hN]; exact D.abs,⟨b,by rw [hN]; exact D.R⟩,by rw [D.po,D.fin,hpo3,hfin3,hpf],by rw [D.T,hT3,hTi],hIn,fun j hj=>?_⟩
    by_cases q:j = i
    ·rw [q]; exact hne'
    ·exact hne j (by exact Fo1 ‹_› ‹_›)
  ·intro xi sz hi9 Yz
   obtain ⟨_,_,_,_,_,hne⟩:=hi9
   rw [List.length_range] at hne Yz
   have e:toldN (most + 1) = fin:=by
    show PyData.bool false :: _ = PyData.bool false :: _
    rw [Rj0 (most + 1) S0 hne,List.map_map]; rfl
   have Sz':=Yz.st.drop (ρ':=[(oS "told",.own a (toldN (most + 1)))]) (.cons rfl .nil)
   rw [e] at Sz'
   exact Iq0 ok Sz' rfl ha0
  ·intro xi s' _ Y'
   exact Iq0 ok Y'.st rfl ha0
noncomputable def Dq1 (c:Cx) (ρ:Rho) (D:Addr) (m:Sem Unit) (es:List PyData):Prop :=
 ∀ s vs n sl ds0,St c ρ s→s.heap.get? D = some ⟨.type "list",none,.seq vs n,sl⟩→RdAll (fz (c.XX ρ) s.heap) vs.toList ds0→ds0.length + es.length ≤ sizeLine→∀ (E:Value→Shared→Prop) (Q:Unit→Shared→Prop),
  (∀ s' vs' n',St c ρ s'→s'.heap.get? D = some ⟨.type "list",none,.seq vs' n',sl⟩→RdAll (fz (c.XX ρ) s'.heap) vs'.toList (ds0 ++ es)→Q () s')→wpAny (MM c.w) c.A m Q E s
noncomputable def Dr1 (c:Cx) (ρ:Rho) (D:Addr) (target:Expr) (ifs:List Expr) (m:Sem Unit) (d:PyData) (r:Option (List PyData)):Prop :=
 ∃ bs,As0 bs = []∧(∀ x sl,bs.lookup x = some sl→ρ.lookup x = none)∧Asg c ρ target d bs∧EvBs c (bs ++ ρ) ifs r.isSome∧∀ es,r = some es→Dq1 c (bs ++ ρ) D m es
structure DOk (c:Cx) (ρ:Rho) (D:Addr):Prop where
 x:D ∈ c.X
 new:c.s0.heap.get? D = none
 own:D ∉ As0 ρ
 tab:D ≠ tA
theorem NDK.rdAll {ws:List Value} {es:List PyData} (nd:NDK s s') (ht:tA ∈ X) (r:RdAll (fz X s.heap) ws es):RdAll (fz X s'.heap) ws es :=
 r.mono' fun a o vs n hd ea=>Bf0 (nd a o (Ah0 ea) (by rw [hd]; intro _ _ h; cases h) (by rw [hd]; intro _ h; cases h) fun q=>Ae0 ea (q ▸ ht)) (Ae0 ea)
theorem Js1 {bs:Rho} (h:As0 bs = []):c.XX (bs ++ ρ) = c.XX ρ:=by
 unfold Cx.XX As0 at *; rw [List.filterMap_append,h]; rfl
theorem St.unbind {bs:Rho} (S:St c (bs ++ ρ) s) (hn:∀ x sl,bs.lookup x = some sl→ρ.lookup x = none):St c ρ s:=by
 refine S.weaken (fun x sl hx=>?_) fun a ha=>?_
 ·rw [List.lookup_append]
  cases hb:bs.lookup x with
  | none=>simpa using hx
  | some y=>have:=hn x y hb; rw [this] at hx; cases hx
 ·unfold As0 at ha ⊢; rw [List.filterMap_append]; exact List.mem_append_right _ ha
theorem Ac1 {D:Addr} (ok:CxOk c) (dk:DOk c ρ D) (h:EvD c ρ elt d):Dq1 c ρ D (do let _ ← call (.builtin "list.append") [.ref D,← eval elt c.env]) [d]:=by
 intro s vs n sl ds0 S e r hz E Q hq
 have hD:D ∈ c.XX ρ:=List.mem_append_right _ dk.x
 refine wB (Ad0 ok h S (.refl _ _) fun u s1 S1 k1 _ ru=>?_)
 have nd:=k1.ndk ok S
 have e1:=nd D _ e (by intro _ _ h; cases h) (by intro _ h; cases h) dk.tab
 have r1:=nd.rdAll (Ii0 ok) r
 have hl:=r1.length
 simp only [Array.length_toList] at hl
 refine wB (Ch0 e1 (fun h5 n5 e5 hs5=>wP (hq _ (vs.push u) n5 ?_ e5 ?_)) (by lia))
 ·refine S1.updD ok (b:=D) dk.new (fun a o ne ee=>(hs5.2 a ne).trans ee) dk.tab dk.x dk.own (fun o ee=>?_) ⟨_,e5,.inr fun ws q=>by cases q⟩ rfl rfl S1.toks
  rw [e1] at ee; cases ee; exact ⟨_,_,rfl⟩
 ·rw [Array.toList_push]
  exact RdAll.mono (fun a o ee=>Bf0 ((hs5.2 a fun q=>Ae0 ee (q ▸ hD)).trans (Ah0 ee)) (Ae0 ee)) (r1.append (.cons ru .nil))
noncomputable abbrev Om0 (e:Expr) (dep:Nat) (target iter:Expr) (ifs:List Expr) (m:Sem Unit) (it acc:Value) (env:Env):Prop:=compTurn e dep it acc env = (do
   standAt iter.pos
   match ← pyNext it with
   | none=>pure (.done .next)
   | some v =>
    letOwnedTupleGo target it v
    assign target env v
    let mut ok:=true
    for c in ifs do
     if ok then ok ← isTrue c env (eval c env)
    if ok then m
    again (.compLoop e dep it acc env))
theorem Mu0 {gens:List Comprehension} {dep:Nat} {m:Sem Unit} {D:Addr} {ds0:List PyData} {fp:List Addr} {P:Nat→Value→Prop} {ST:Nat→Heap→Prop} {vs0:Array Value} {n0:Nat} {sl:Array (Option Value)} {g:PyData→Option (List PyData)}
  (ok:CxOk c) (S:St c ρ s) (dk:DOk c ρ D) (walk:Walks PG c.w c.A I fp [I] ds.length P ST) (st:ST 0 s.heap) (hI0:c.s0.heap.get? I = none) (hIt:I ≠ tA) (hIX:I ∉ c.XX ρ) (hpI:∀ p,c.pin p→p.1 ≠ I)
  (seqs:∀ b ∈ fp,b ≠ I→∃ o' vs n,fz (c.XX ρ) s.heap b = some o'∧o'.data = .seq vs n) (item:∀ i v,i < ds.length→P i v→∃ d,ds[i]? = some d∧Rd (fz (c.XX ρ) s.heap) v d)
  (obj:∀ i h,ST i h→∃ o' vs n,h.get? I = some o'∧o'.data = .fields vs∧o'.cls = .type n∧n ≠ "code" ∧ ["enumerate", "zip", "dict_itemiterator", "dict_reverseitemiterator", "odict_iterator", "itertools.zip_longest", "itertools.pairwise"].contains n = false)
  (hD:s.heap.get? D = some ⟨.type "list",none,.seq vs0 n0,sl⟩) (rD:RdAll (fz (c.XX ρ) s.heap) vs0.toList ds0) (hz:ds0.length + (ds.flatMap fun d=>(g d).getD []).length ≤ sizeLine)
  (turn:∀ pins (i:Nat) d,ds[i]? = some d→CxOk (c.pins pins)→Dr1 (c.pins pins) ρ D target ifs m d (g d)) (he:Om0 (.ListComp elt gens scope pos) dep target iter ifs m (.ref I) (.ref D) c.env)
  (hR:∀ s' vs n,St c ρ s'→s'.heap.get? D = some ⟨.type "list",none,.seq vs n,sl⟩→RdAll (fz (c.XX ρ) s'.heap) vs.toList (ds0 ++ ds.flatMap fun d=>(g d).getD [])→R (.ok .next) s') :
  codeAny (MM c.w) c.A (.compLoop (.ListComp elt gens scope pos) dep (.ref I) (.ref D) c.env) R s:=by
 let P0:Addr × Obj→Prop:=fun p=>c.pin p ∨ (fz (c.XX ρ) s.heap p.1 = some p.2∧∃ vs n,p.2.data = .seq vs n)
 have hP0I:∀ p,P0 p→p.1 ≠ I:=fun p hp q=>by
  rcases hp with hp | ⟨hp,vs,n,hd⟩
  ·exact hpI p hp q
  ·obtain ⟨o',ws,nn,e1,e2,_⟩:=obj 0 _ st
   rw [q] at hp; have:=Ah0 hp; rw [e1] at this; cases this; rw [e2] at hd; cases hd
 have S0:St (c.pins P0) ρ s:=S.pins P0 (fun p hp=>hp.elim (S.pin p) fun q=>Ah0 q.1) fun p hp=>hp.elim (S.pinx p) fun q=>Ae0 q.1
 have hquiet:(Code.compLoop (.ListComp elt gens scope pos) dep (.ref I) (.ref D) c.env).quiet = true:=rfl
 have hIup:∀ (i:Nat) (s:Shared) (h':Heap) (tk:Nat),St (c.pins P0) ρ s→ST i s.heap→(∀ b o,b ∉ [I]→s.heap.get? b = some o→h'.get? b = some o)→1 ≤ tk→St (c.pins P0) ρ { s with heap:=h',toks:=tk }:=by
  intro i s h' tk S st hk' ht
  obtain ⟨oI,fI,nI,e1,e2,e3,e4,e5⟩:=obj i s.heap st
  refine S.upd (ok.pins P0) (b:=I) hI0 (fun a o ne e=>hk' a o (by simpa using ne) e) hIt hIX (fun o e=>?_) hP0I rfl rfl ht
  rw [e1] at e; cases e; exact ⟨(by rw [e2]; intro _ _ h; cases h),.inl (by rw [e3]; intro q; cases q; exact e4 rfl)⟩
 have hDI:D ≠ I:=fun q=>hIX (q ▸ List.mem_append_right _ dk.x)
 suffices key:∀ (k i:Nat) (s:Shared) (vs:Array Value) (n:Nat),k = ds.length - i→i ≤ ds.length→St (c.pins P0) ρ s→ST i s.heap→s.heap.get? D = some ⟨.type "list",none,.seq vs n,sl⟩ →
   RdAll (fz (c.XX ρ) s.heap) vs.toList (ds0 ++ (ds.take i).flatMap fun d=>(g d).getD [])→codeAny (MM c.w) c.A (.compLoop (.ListComp elt gens scope pos) dep (.ref I) (.ref D) c.env) R s from
  key ds.length 0 s vs0 n0 (by rfl) (Nat.zero_le _) S0 st hD (by simpa using rD)
 intro k
 induction k with
 | zero =>
  intro i s vs n hk hi S st e r
  have hin:i = ds.length:=by grind
  subst hin
  refine codeAny_of_tree ?_
  show wpAny _ c.A (Sem.onRaise (compTurn (.ListComp elt gens scope pos) dep (.ref I) (.ref D) c.env) (fun x=>do noteFrame x c.env; theTreesLotGoes x)) _ _ s
  refine wpAny_noted ?_
  rw [he]
  refine wB (wpAny_standAt (wB (wpAny_with_toks (n:=1) S.toks (walk.done s _ _ st fun h' tk hk' ht=>?_))))
  refine wP (hR _ vs n (St.unpin (c:=c) (hIup _ s h' tk S st hk' ht) fun p hp=>.inl hp) (hk' D _ (by simpa using hDI) e) ?_)
  rw [List.take_length] at r
  refine r.mono' fun a o vs n hd ea=>Bf0 (hk' a o (fun q=>?_) (Ah0 ea)) (Ae0 ea)
  obtain ⟨oI,fI,nI,e1,e2,_⟩:=obj _ s.heap st
  rw [List.mem_singleton.mp q] at ea; have:=Ah0 ea; rw [e1] at this; cases this; rw [e2] at hd; cases hd
 | succ k ih =>
  intro i s vs n hk hi S st e r
  have hlt:i < ds.length:=by grind
  have hdi:ds[i]? = some ds[i]:=List.getElem?_eq_getElem hlt
  refine codeAny_of_tree ?_
  show wpAny _ c.A (Sem.onRaise (compTurn (.ListComp elt gens scope pos) dep (.ref I) (.ref D) c.env) (fun x=>do noteFrame x c.env; theTreesLotGoes x)) _ _ s
  refine wpAny_noted ?_
  rw [he]
  refine wB (wpAny_standAt (wB (wpAny_with_toks (n:=1) S.toks (walk.item i s _ _ hlt st fun v h' tk hP st' hk' ht=>?_))))
  have S':=hIup i s h' tk S st hk' ht
  have e':=hk' D _ (by simpa using hDI) e
  have r':RdAll (fz (c.XX ρ) h') vs.toList _:=r.mono' fun a o vs n hd ea=>Bf0 (hk' a o (fun q=>by
   obtain ⟨oI,fI,nI,e1,e2,_⟩:=obj _ s.heap st
   rw [List.mem_singleton.mp q] at ea; have:=Ah0 ea; rw [e1] at this; cases this; rw [e2] at hd; cases hd) (Ah0 ea)) (Ae0 ea)
  obtain ⟨d,hd,rv⟩:=item i v hlt hP
  rw [hdi] at hd; cases hd
  obtain ⟨oI,fI,nI,i1,i2,i3,i4,i5⟩:=obj (i + 1) h' st'
  refine wB (Gu0 (c:=c) ⟨oI,fI,nI,i1,i2,i3,i4,i5⟩ ?_)
  let P1:Addr × Obj→Prop:=fun p=>P0 p ∨ (p.1 = I∧h'.get? p.1 = some p.2)
  have okp:=ok.pins P1
  have S4:St (c.pins P1) ρ { s with heap:=h',toks:=tk }:=S'.pins P1 (fun p hp=>hp.elim (S'.pin p) fun q=>q.2) fun p hp=>hp.elim (S'.pinx p) fun q=>by rw [q.1]; exact hIX
  have rv':Rd (fz (c.XX ρ) h') v ds[i]:=rv.mono' fun a o vs n hda ea=>Bf0 (S'.pin (a,o) (.inr ⟨ea,vs,n,hda⟩)) (S'.pinx (a,o) (.inr ⟨ea,vs,n,hda⟩))
  obtain ⟨bs,hbs0,hbsn,hasg,htest,hem⟩:=turn P1 i _ hdi okp
  refine wB (hasg _ v S4 rv' _ _ fun s2 S2 nd2 _=>?_)
  refine wB (htest s2 S2 _ _ fun s3 S3 k3=>?_)
  have nd3:NDK _ s3:=nd2.trans (k3.ndk okp S2)
  have e3:=nd3 D _ e' (by intro _ _ h; cases h) (by intro _ h; cases h) dk.tab
  have r3:=nd3.rdAll (Ii0 ok) r'
  have hnext:∀ s5,St (c.pins P1) (bs ++ ρ) s5→St (c.pins P0) ρ s5∧ST (i + 1) s5.heap:=fun s5 S5=>by
   have S6:=S5.unbind hbsn
   refine ⟨St.unpin (c:=c.pins P0) S6 fun p hp=>.inl hp,walk.frame _ _ _ st' fun b hb o eo=>?_⟩
   by_cases hbI:b = I
   ·exact S6.pin (b,o) (.inr ⟨hbI,eo⟩)
   ·obtain ⟨ob,ws,m,f1,f2⟩:=seqs b hb hbI
    have hp:P0 (b,ob):=.inr ⟨f1,ws,m,f2⟩
    have f3:h'.get? b = some ob:=S'.pin (b,ob) hp
    rw [f3] at eo; cases eo
    exact S6.pin (b,_) (.inl hp)
  have hstep:(ds.take (i + 1)).flatMap (fun d=>(g d).getD []) = (ds.take i).flatMap (fun d=>(g d).getD []) ++ (g ds[i]).getD []:=by
   rw [List.take_succ_eq_append_getElem hlt,List.flatMap_append]; simp
  have hle:((ds.take (i + 1)).flatMap fun d=>(g d).getD []).length ≤ (ds.flatMap fun d=>(g d).getD []).length:=by
   conv=>rhs; rw [← List.take_append_drop (i + 1) ds,List.flatMap_append,List.length_append]
   exact Nat.le_add_right _ _
  cases hg:g ds[i] with
  | none =>
   rw [hg] at hstep
   simp only [Option.isSome_none,Bool.false_eq_true,if_false]
   obtain ⟨S5,st5⟩:=hnext s3 S3
   refine wP ⟨hquiet,ih (i + 1) s3 vs n (by grind) hlt S5 st5 e3 ?_⟩
   rw [hstep]; simpa using r3
  | some es =>
   rw [hg] at hstep
   simp only [Option.isSome_some,if_true]
   have hl3:(ds0 ++ (ds.take i).flatMap fun d=>(g d).getD []).length + es.length ≤ sizeLine:=by
    rw [hstep] at hle; simp only [List.length_append,Option.getD_some] at hle ⊢; lia
   refine wB (hem es hg s3 vs n sl _ S3 e3 (by rw [Js1 hbs0]; exact r3) hl3 _ _ fun s5 vs5 n5 S5 e5 r5=>?_)
   obtain ⟨S6,st6⟩:=hnext s5 S5
   refine wP ⟨hquiet,ih (i + 1) s5 vs5 n5 (by lia) hlt S6 st6 e5 ?_⟩
   rw [Js1 hbs0,List.append_assoc] at r5
   rw [hstep]; exact r5
theorem Hj0 {g0:Comprehension} {it acc:Value}
  (h0:codeAny (MM w) A (.compLoop (.ListComp elt [g0,⟨target,iter,ifs,0⟩] scope pos) 1 it acc env) R s)
  (h:wpAny (MM w) A (pyIter it) (fun it' s'=>codeAny (MM w) A (.compLoop (.ListComp elt [g0,⟨target,iter,ifs,0⟩] scope pos) 1 it' acc env) R s') (notedBy (MM w) A env fun x s'=>R (.error x) s') s) :
  codeAny (MM w) A (.compStart (.ListComp elt [g0,⟨target,iter,ifs,0⟩] scope pos) 1 it acc env) R s:=by
 refine codeAny_of_tree ?_
 show wpAny _ _ ((compStart (.ListComp elt [g0,⟨target,iter,ifs,0⟩] scope pos) 1 it acc env).onRaise (fun x=>do noteFrame x env; standAt theWindowsPlace)) _ _ s
 refine wpAny_notedAt ?_
 unfold compStart
 show wpAny _ _ (ask >>= _) _ _ s
 refine wB (wpAny_askSetting (wpAny_ite ?_))
 split
 ·first
   | exact wB (wP (wP (And.intro rfl h0)))
   | exact wP (And.intro rfl h0)
 ·first
   | exact wB (wpAny_rule (wB (wpAny_standAt (wB (wM h (fun it' s' h'=>wP (And.intro rfl h')) fun _ _ x=>x)))))
   | (refine wB (wpAny_rule ?_); show wpAny _ _ (standAt iter.pos >>= _) _ _ s; exact wB (wpAny_standAt (wB (wM h (fun it' s' h'=>wP (And.intro rfl h')) fun _ _ x=>x))))
noncomputable abbrev On0 (elt:Expr) (g0:Comprehension) (target iter:Expr) (ifs:List Expr) (scope:Scope) (pos:Pos) (acc:Value) (env:Env):Sem Unit:=do
 let x ← eval iter env
 standAt iter.pos
 let x ← foldedSetIterable iter env x
 let _ ← runOwn (.compStart (.ListComp elt [g0,⟨target,iter,ifs,0⟩] scope pos) 1 (← holding [x] (pyIter x)) acc env) env
theorem Tt0 {D:Addr} {g0:Comprehension} {g:PyData→Option (List PyData)} (ok:CxOk c) (dk:DOk c ρ D) (hi:Cc1 c ρ true iter ds)
  (turn:∀ pins (i:Nat) d,ds[i]? = some d→CxOk (c.pins pins)→Dr1 (c.pins pins) ρ D target ifs (do let _ ← call (.builtin "list.append") [.ref D,← eval elt c.env]) d (g d))
  (hs:∀ x,foldedSetIterable iter c.env x = pure x:=by intro _; rfl):Dq1 c ρ D (On0 elt g0 target iter ifs scope pos (.ref D) c.env) (ds.flatMap fun d=>(g d).getD []):=by
 intro s vs n sl ds0 S e r hz E Q hq
 refine wB (wM (hi s S E (fun v s'=>wpAny (MM c.w) c.A (do let _ ← runOwn (.compStart (.ListComp elt [g0,⟨target,iter,ifs,0⟩] scope pos) 1 v (.ref D) c.env) c.env) Q E s') fun s1 I o fp P ST S1 k1 src=>?_) (fun x s' hx=>wB (wpAny_standAt (wB ?_))) fun _ _ x=>x)
 ·have nd:=k1.ndk ok S
  have hDX:D ∈ c.XX ρ:=List.mem_append_right _ dk.x
  have e1:=nd D _ e (by intro _ _ h; cases h) (by intro _ h; cases h) dk.tab
  have r1:=nd.rdAll (Ii0 ok) r
  have hI:=src.hI
  subst hI
  have hfr:=Aj0 s1.heap
  have hat:s1.heap.objs.size ≠ tA:=Nat.ne_of_gt (Nat.lt_of_lt_of_le (by decide) (S1.big ok))
  have hfz:∀ a q,fz (c.XX ρ) s1.heap a = some q→fz (c.XX ρ) (s1.heap.push o) a = some q:=fun a q e=>Bf0 (Heap.get?_push_of_some _ (Ah0 e)) (Ae0 e)
  have loop:∀ R:Result→Shared→Prop,(∀ s' vs n,St c ρ s'→s'.heap.get? D = some ⟨.type "list",none,.seq vs n,sl⟩→RdAll (fz (c.XX ρ) s'.heap) vs.toList (ds0 ++ ds.flatMap fun d=>(g d).getD [])→R (.ok .next) s') →
    codeAny (MM c.w) c.A (.compLoop (.ListComp elt [g0,⟨target,iter,ifs,0⟩] scope pos) 1 (.ref s1.heap.objs.size) (.ref D) c.env) R { s1 with heap:=s1.heap.push o }:=fun R hR =>
   Mu0 (iter:=iter) ok (S1.step ok (.push _ _) S1.toks) dk src.walk src.start (S1.new0 ok hfr hat) hat S1.fresh (fun p hp q=>by have:=S1.pin p hp; rw [q,hfr] at this; cases this)
    (fun b hb hbI=>by obtain ⟨o',ws,m,f1,f2⟩:=src.seqs b hb hbI; exact ⟨o',ws,m,hfz _ _ (Bf0 f1 (src.apart rfl b hb hbI)),f2⟩) (fun i v hi hP=>by obtain ⟨d,h1,h2⟩:=src.item i v hi hP; exact ⟨d,h1,h2.mono hfz⟩) src.obj (Heap.get?_push_of_some _ e1) (r1.mono hfz) hz turn rfl hR
  have fin:∀ s' vs n,St c ρ s'→s'.heap.get? D = some ⟨.type "list",none,.seq vs n,sl⟩→RdAll (fz (c.XX ρ) s'.heap) vs.toList (ds0 ++ ds.flatMap fun d=>(g d).getD [])→wpAny (MM c.w) c.A (pure ()) Q E s':=fun s' vs n S' e' r'=>wP (hq s' vs n S' e' r')
  refine wB (wpAny_runOwn ?_)
  exact Hj0 (loop _ fin) (src.walk.self 0 _ _ _ src.start (loop _ fin))
 ·rw [hs x]
  exact wP (wB (wpAny_holding hx))
theorem Ad1 (elt t0 it0 t1 it1:Expr) (ifs0 ifs1:List Expr) (scope:Scope) (pos:Pos) (it acc:Value) (env:Env):Om0 (.ListComp elt [⟨t0,it0,ifs0,0⟩,⟨t1,it1,ifs1,0⟩] scope pos) 0 t0 it0 ifs0 (On0 elt ⟨t0,it0,ifs0,0⟩ t1 it1 ifs1 scope pos acc env) it acc env:=by
 unfold Om0 compTurn
 simp [On0,bind_assoc]
 rfl
theorem Ds1 {t0 it0 t1 it1:Expr} {ifs0 ifs1:List Expr} {g:PyData→Option (List PyData)} (ok:CxOk c)
  (hi:Cc1 c ρ true it0 ds) (hsz:(ds.flatMap fun d=>(g d).getD []).length ≤ sizeLine) (hclos:Cf0 c.env.cells scope.names [] = some cl) (hvis:Vis c.env scope cl ρ ρ')
  (hnd:(scope.names.map (·.1)).Nodup) (hkind:scope.kind = .function)
  (turn:∀ C X s1 D pins,CxOk ((c.comp ρ scope cl C X s1).pins pins)→DOk ((c.comp ρ scope cl C X s1).pins pins) ρ' D→∀ (i:Nat) d,ds[i]? = some d→Dr1 ((c.comp ρ scope cl C X s1).pins pins) ρ' D t0 ifs0 (On0 elt ⟨t0,it0,ifs0,0⟩ t1 it1 ifs1 scope pos (.ref D) (c.comp ρ scope cl C X s1).env) d (g d))
  (hs:∀ x,foldedSetIterable it0 c.env x = pure x:=by intro _; rfl):EvD c ρ (.ListComp elt [⟨t0,it0,ifs0,0⟩,⟨t1,it1,ifs1,0⟩] scope pos) (.list (ds.flatMap fun d=>(g d).getD [])):=fun s S E=>by
 rw [eval_ListComp]
 have hnames:∀ x ∈ scope.names,x.2 = .local→scope.names.lookup x.1 = some .local:=fun x hx hl=>by rw [← hl]; exact Av0 hnd hx
 refine wpAny_comprehension_free (use:=none) rfl hs (Gv0 hclos) hkind hnames ?_
 refine hi s S E _ fun s1 I o fp P ST S1 k1 src0=>?_
 have hI:=src0.hI
 subst hI
 have src:Src c ρ s1 false ds s1.heap.objs.size o fp P ST:={ src0 with apart:=fun h=>by cases h }
 refine wpAny_newList ?_ (by show 0 ≤ sizeLine; exact Nat.zero_le _)
 refine Uk0 ?_
 have hs2:(s1.heap.push o).objs.size = s1.heap.objs.size + 1:=Heap.size_push ..
 have hs3:((s1.heap.push o).push { cls:=.type "list",data:=.seq ([]:List Value).toArray }).objs.size = s1.heap.objs.size + 2:=by rw [Heap.size_push,hs2]
 obtain ⟨ok',S',hDo,hkI,hCn,hXn,hIX,hD0,hI0,hC0,hIt,hDt,hCt,hDo',hIo',hDX⟩:=Mb0 (ρ':=ρ') (o:=o) ok S1 rfl hclos hvis hnd hkind (C:=s1.heap.objs.size + 2) (D:=s1.heap.objs.size + 1) rfl rfl rfl rfl
 have hST:=src.walk.frame 0 _ _ src.start fun b hb q e=>hkI b q e
 have hXX:∀ a ∈ c.XX ρ,a ∈ ((s1.heap.objs.size + 2) :: (s1.heap.objs.size + 1) :: ((cellsFrom (s1.heap.objs.size + 2 + 1) scope.names cl).map (·.2) ++ c.XX ρ)):=fun a ha=>.tail _ (.tail _ (List.mem_append_right _ ha))
 have hfz:∀ a q,fz (c.XX ρ) s1.heap a = some q→fz (Cx.XX (c.comp ρ scope cl (s1.heap.objs.size + 2) _ s1) ρ') _ a = some q:=fun a q e=>Bf0 (S'.since.keep a q (Ah0 e) (fun w=>Ae0 e (Dy0 ok _ w)) fun w=>Ae0 e (w ▸ Ii0 ok)) fun w=>Ae0 e (by
  rcases List.mem_append.mp w with w | w
  ·exact List.mem_append_left _ (hvis.owned a w)
  ·exact hXn a q (Ah0 e) w)
 let Xc:List Addr:=(s1.heap.objs.size + 2) :: (s1.heap.objs.size + 1) :: ((cellsFrom (s1.heap.objs.size + 2 + 1) scope.names cl).map (·.2) ++ c.XX ρ)
 have dk:∀ pins,DOk ((c.comp ρ scope cl (s1.heap.objs.size + 2) Xc s1).pins pins) ρ' (s1.heap.objs.size + 1):=fun pins=>⟨.tail _ (.head _),hD0,hDo',hDt⟩
 have loop:=Mu0 (c:=c.comp ρ scope cl (s1.heap.objs.size + 2) Xc s1) (R:=compPost (MM c.w) c.A E none (fun v s'=>Kp c.fs s s'∧Rd (fz (c.XX ρ) s'.heap) v (.list (ds.flatMap fun d=>(g d).getD []))) (.ref (s1.heap.objs.size + 1)) (s1.heap.objs.size + 2)) (iter:=it0) (elt:=elt) (gens:=[⟨t0,it0,ifs0,0⟩,⟨t1,it1,ifs1,0⟩]) (scope:=scope) (pos:=pos) (dep:=0) ok' S' (dk c.pin) src.walk hST hI0 hIt (fun q=>(List.mem_append.mp q).elim hIo' hIX) (fun p hp q=>by have:=S1.pin p hp; rw [q,hI0] at this; cases this)
  (fun b hb hbI=>by obtain ⟨o',ws,m,f1,f2⟩:=src0.seqs b hb hbI; exact ⟨o',ws,m,hfz _ _ (Bf0 f1 (src0.apart rfl b hb hbI)),f2⟩) (fun i v hi hP=>by obtain ⟨d,h1,h2⟩:=src.item i v hi hP; exact ⟨d,h1,h2.mono hfz⟩) src.obj hDo .nil (by simpa using hsz) (fun pins i d hd okp=>turn _ _ _ _ pins okp (dk pins) i d hd) (Ad1 ..)
  (fun s' vs n S'' e r=>by
   obtain ⟨m,hm⟩:=S''.ns
   have r':Rd (fz (c.XX ρ) s'.heap) (.ref (s1.heap.objs.size + 1)) (.list (ds.flatMap fun d=>(g d).getD [])):=.list (Bf0 e hDX) (r.mono (Ao0 fun a ha=>List.mem_append_right _ (hXX a ha)))
   exact ⟨m,hm,fun h' hs'=>⟨k1.trans (Ul0 S''.since hC0 (fun a ob ne e=>(hs'.2 a ne).trans e) (fun ob e=>(Ns.nofields hm ob e).2) hCt),r'.sameC hm hs'⟩⟩)
 rw [hs2,hs3]
 exact codeAny_compStart_list loop (src.walk.self 0 _ _ _ hST loop)
noncomputable def PairAt (h:Heap) (a:Addr) (x y:Int):Prop:=∃ t u n sl,h.get? a = some ⟨.type "tuple",none,.seq #[.int x t,.int y u] n,sl⟩
noncomputable def enc (x y:Int):Int:=1000 * x + y
theorem Gy1 {x y:Int} (k:∀ a o,g a = some o→h.get? a = some o) (r:Rd g v (.tuple [.int x,.int y])):∃ a,v = .ref a∧PairAt h a x y:=by
 obtain ⟨a,vs,n,sl,hQ185,e,rr⟩:=r.tuple_inv; subst hQ185
 obtain ⟨vl⟩:=vs
 obtain ⟨_,_,q,p1,r1⟩:=RdAll.cons_inv (l:=vl) rr
 obtain ⟨_,_,hQ186,p2,r2⟩:=r1.cons_inv; subst hQ186
 obtain rfl:=r2.nil_inv
 obtain ⟨t,hQ187⟩:=p1.int_inv; subst hQ187
 obtain ⟨u,hQ188⟩:=p2.int_inv; subst hQ188
 subst q
 exact ⟨a,rfl,t,u,n,sl,k _ _ e⟩
section
variable {x1 y1 x2 y2:Int} {Q:Value→Shared→Prop}
theorem Mv0 {x y:Int} {t u:Tok} (h:Q (.bool (decide (x > y))) s):wpAny (MM w) A (richCompare .Gt (.int x t) (.int y u)) Q E s :=
 richCompare_gives (op:=.Gt) (typeIs_int s _ t) (typeIs_int s _ u) F.slot_int_gt F.entry_int_gt (F.args_int_gt_2 _ _) (gives_int_gt _ _ t u) (fun x=>nomatch x) h
theorem Mw0 {x y:Int} {t u:Tok} (h:Q (.bool (decide (x < y))) s):wpAny (MM w) A (richCompare .Lt (.int x t) (.int y u)) Q E s :=
 richCompare_gives (op:=.Lt) (typeIs_int s _ t) (typeIs_int s _ u) F.slot_int_lt F.entry_int_lt (F.args_int_lt_2 _ _) (gives_int_lt _ _ t u) (fun x=>nomatch x) h
theorem Gz1 (hu:A.units < cLine) (ha:PairAt s.heap a x1 y1) (hb:PairAt s.heap b x2 y2) (b1:0 ≤ y1∧y1 < 1000) (b2:0 ≤ y2∧y2 < 1000) (h:Q (.bool (decide (enc x1 y1 > enc x2 y2))) s):wpAny (MM w) A (richCompare .Gt (.ref a) (.ref b)) Q E s:=by
 obtain ⟨t1,u1,n1,sl1,e1⟩:=ha
 obtain ⟨t2,u2,n2,sl2,e2⟩:=hb
 refine wpAny_richCompare_same_room (op:=.Gt) (T := "tuple") ⟨_,e1,rfl⟩ ⟨_,e2,rfl⟩ F.slot_tuple_gt (wpAny_call_entry F.slot_tuple_gt ⟨_,e1,rfl⟩ F.entry_tuple_gt ?_ (F.args_tuple_gt_2 _ _)) hu
 show wpAny _ _ (isInstance (.ref b) (.type "tuple") >>= _) _ _ s
 refine wB (wpAny_isInstance ⟨_,e2,rfl⟩ isSubtype_tuple_tuple ?_)
 simp only [Bool.not_true,Bool.false_eq_true,if_false]
 refine wB (wpAny_tupleItemsOf e1 rfl ?_)
 refine wB (wpAny_tupleItemsOf e2 rfl ?_)
 refine wB ?_
 show wpAny _ _ (forIn [(Value.int x1 t1,Value.int x2 t2),(Value.int y1 u1,Value.int y2 u2)] _ _) _ _ s
 rw [List.forIn_cons]
 refine wB (wB (wpAny_eqBool_int ?_))
 cases hx:x1 == x2 with
 | false =>
  simp only [Bool.not_false,if_true]
  have hne:x1 ≠ x2:=by simpa using hx
  have hr:decide (x1 > x2) = decide (enc x1 y1 > enc x2 y2):=by unfold enc; rw [decide_eq_decide]; lia
  refine wB (wpAny_rule (wB (Mv0 ?_)))
  rw [hr]
  exact wB (wP (wP (wP (wP ⟨_,rfl,(fun q=>by cases q),h⟩))))
 | true =>
  simp only [Bool.not_true,Bool.false_eq_true,if_false]
  have he:x1 = x2:=by simpa using hx
  refine wP ?_
  dsimp only
  rw [List.forIn_cons]
  refine wB (wB (wpAny_eqBool_int ?_))
  cases hy:y1 == y2 with
  | false =>
   simp only [Bool.not_false,if_true]
   have hne:y1 ≠ y2:=by simpa using hy
   have hr:decide (y1 > y2) = decide (enc x1 y1 > enc x2 y2):=by unfold enc; rw [decide_eq_decide]; simp_all
   refine wB (wpAny_rule (wB (Mv0 ?_)))
   rw [hr]
   exact wB (wP (wP (wP (wP ⟨_,rfl,(fun q=>by cases q),h⟩))))
  | true =>
   simp only [Bool.not_true,Bool.false_eq_true,if_false]
   have he2:y1 = y2:=by simpa using hy
   have hr:false = decide (enc x1 y1 > enc x2 y2):=by unfold enc; rw [he,he2]; simp
   refine wP ?_
   dsimp only
   rw [List.forIn_nil]
   rw [← hr] at h
   exact wP (wP ⟨_,rfl,(fun q=>by cases q),h⟩)
theorem Ha1 (hu:A.units < cLine) (ha:PairAt s.heap a x1 y1) (hb:PairAt s.heap b x2 y2) (b1:0 ≤ y1∧y1 < 1000) (b2:0 ≤ y2∧y2 < 1000) (h:Q (.bool (decide (enc x1 y1 < enc x2 y2))) s):wpAny (MM w) A (richCompare .Lt (.ref a) (.ref b)) Q E s:=by
 obtain ⟨t1,u1,n1,sl1,e1⟩:=ha
 obtain ⟨t2,u2,n2,sl2,e2⟩:=hb
 refine wpAny_richCompare_same_room (op:=.Lt) (T := "tuple") ⟨_,e1,rfl⟩ ⟨_,e2,rfl⟩ F.slot_tuple_lt (wpAny_call_entry F.slot_tuple_lt ⟨_,e1,rfl⟩ F.entry_tuple_lt ?_ (F.args_tuple_lt_2 _ _)) hu
 show wpAny _ _ (isInstance (.ref b) (.type "tuple") >>= _) _ _ s
 refine wB (wpAny_isInstance ⟨_,e2,rfl⟩ isSubtype_tuple_tuple ?_)
 simp only [Bool.not_true,Bool.false_eq_true,if_false]
 refine wB (wpAny_tupleItemsOf e1 rfl ?_)
 refine wB (wpAny_tupleItemsOf e2 rfl ?_)
 refine wB ?_
 show wpAny _ _ (forIn [(Value.int x1 t1,Value.int x2 t2),(Value.int y1 u1,Value.int y2 u2)] _ _) _ _ s
 rw [List.forIn_cons]
 refine wB (wB (wpAny_eqBool_int ?_))
 cases hx:x1 == x2 with
 | false =>
  simp only [Bool.not_false,if_true]
  have hne:x1 ≠ x2:=by simpa using hx
  have hr:decide (x1 < x2) = decide (enc x1 y1 < enc x2 y2):=by unfold enc; rw [decide_eq_decide]; lia
  refine wB (wpAny_rule (wB (Mw0 ?_)))
  rw [hr]
  exact wB (wP (wP (wP (wP ⟨_,rfl,(fun q=>by cases q),h⟩))))
 | true =>
  simp only [Bool.not_true,Bool.false_eq_true,if_false]
  have he:x1 = x2:=by simpa using hx
  refine wP ?_
  dsimp only
  rw [List.forIn_cons]
  refine wB (wB (wpAny_eqBool_int ?_))
  cases hy:y1 == y2 with
  | false =>
   simp only [Bool.not_false,if_true]
   have hne:y1 ≠ y2:=by simpa using hy
   have hr:decide (y1 < y2) = decide (enc x1 y1 < enc x2 y2):=by unfold enc; rw [decide_eq_decide]; simp_all
   refine wB (wpAny_rule (wB (Mw0 ?_)))
   rw [hr]
   exact wB (wP (wP (wP (wP ⟨_,rfl,(fun q=>by cases q),h⟩))))
  | true =>
   simp only [Bool.not_true,Bool.false_eq_true,if_false]
   have he2:y1 = y2:=by simpa using hy
   have hr:false = decide (enc x1 y1 < enc x2 y2):=by unfold enc; rw [he,he2]; simp
   refine wP ?_
   dsimp only
   rw [List.forIn_nil]
   rw [← hr] at h
   exact wP (wP ⟨_,rfl,(fun q=>by cases q),h⟩)
end
section
variable {S:Addr} {fp:List Addr} {n:Nat} {P:Nat→Value→Prop} {ST:Nat→Heap→Prop} {K:Heap→Prop} {bt:Nat→Nat→Bool}
theorem Ae1 (W:Walks PG w A.in1 I fp [I] n P ST) (hK:∀ h h',K h→(∀ b o,b ∉ [I]→b ≠ S→h.get? b = some o→h'.get? b = some o)→K h')
  (hcmp:∀ i j vi vj (s:Shared) (Q:Value→Shared→Prop) (E:Value→Shared→Prop),K s.heap→P i vi→P j vj→Q (.bool (bt i j)) s→wpAny (MM w) A.in1 (richCompare .Gt vi vj) Q E s) (hSf:S ∉ fp) :
  ∀ (k j:Nat) (s:Shared) (vb:Value) (c:Nat),n - (j + 1) = k→j + 1 ≤ n→ST (j + 1) s.heap→K s.heap→P (argBest bt j) vb →
  s.heap.get? S = some { cls:=.type "list",dict:=none,data:=.seq #[vb,vb] c,slots:=#[] } →
  (∀ v h' tk,P (argBest bt (n - 1)) v→(∀ b o,b ∉ [I]→b ≠ S→s.heap.get? b = some o→h'.get? b = some o)→R (.ok (.ret v)) { s with heap:=h',toks:=tk }) →
  codeAny (MM w) A (.builtin "max.loop" ⟨[.ref I,.none,.ref S],[]⟩) R s:=by
 have hSw:S ∉ [I]:=fun h=>hSf (W.sub _ h)
 have hname:(toString "max" ++ toString ".loop" : String) = "max.loop" := by decide
 intro k
 induction k with
 | zero =>
  intro j s vb c hk hj hst hks hPb hS hR
  have hin:j + 1 = n:=by grind
  refine codeAny_builtin F.entry_max_loop ?_
  rw [Around.under_plainId F.plain_max_loop _]
  show wpAny _ A.in1 (seqItems? (.ref S) >>= _) _ _ s
  refine wB (wpAny_seqItems hS rfl ?_)
  show wpAny _ A.in1 (tryCatch (pyNext (.ref I)) _ >>= _) _ _ s
  refine wB (wpAny_tryCatch (W.done s _ _ (hin ▸ hst) fun h' tk hk'=>?_))
  have hS':=hk' S _ hSw hS
  show wpAny _ A.in1 (updateSeq S (fun _=>#[]) >>= _) _ _ _
  refine wB ?_
  refine wpAny_updateSeq hS' rfl (wB (wpAny_letGo (wP ?_)))
  exact hR vb _ tk (by rw [← hin]; exact hPb) fun b o hbw hbS e=>(Heap.get?_update_other _ _ (Ne.symm hbS)).trans (hk' b o hbw e)
 | succ k ih =>
  intro j s vb c hk hj hst hks hPb hS hR
  have hlt:j + 1 < n:=by grind
  refine codeAny_builtin F.entry_max_loop ?_
  rw [Around.under_plainId F.plain_max_loop _]
  show wpAny _ A.in1 (seqItems? (.ref S) >>= _) _ _ s
  refine wB (wpAny_seqItems hS rfl ?_)
  show wpAny _ A.in1 (tryCatch (pyNext (.ref I)) _ >>= _) _ _ s
  refine wB (wpAny_tryCatch (W.item (j + 1) s _ _ hlt hst fun v h' tk hP hst' hk'=>?_))
  have hS':=hk' S _ hSw hS
  have hks':K h':=hK _ _ hks fun b o h1 _ e=>hk' b o h1 e
  show wpAny _ A.in1 (tryCatch (holding [v,v] (richCompare .Gt v vb >>= _)) _ >>= _) _ _ _
  refine wB (wpAny_tryCatch (wpAny_holding (wB (hcmp (j + 1) (argBest bt j) v vb _ _ _ hks' hP hPb ?_))))
  refine wB (wpAny_holding (wpAny_truthy_bool ?_))
  refine wB (wpAny_letGo (wP ?_))
  cases hb:bt (j + 1) (argBest bt j) with
  | true =>
   simp only [if_true]
   refine wB ?_
   refine wpAny_updateSeq hS' rfl (wB (wpAny_letGo ?_))
   rw [hname]
   refine wP ⟨plainId_quiet F.plain_max_loop _,ih (j + 1) _ v _ (by grind) hlt (W.frame _ _ _ hst' fun b hbf o e=>?_) (hK _ _ hks' fun b o _ hbS e=>(Heap.get?_update_other _ _ (Ne.symm hbS)).trans e) (by simp only [argBest,hb,if_true]; exact hP) (Heap.get?_update_self _ hS' rfl)
    fun v' h'' tk'' hP' hk''=>?_⟩
   ·exact (Heap.get?_update_other _ _ (fun h:S = b=>hSf (by rw [h]; exact hbf))).trans e
   ·exact hR v' h'' tk'' hP' fun b o hbw hbS e=>hk'' b o hbw hbS ((Heap.get?_update_other _ _ (Ne.symm hbS)).trans (hk' b o hbw e))
  | false =>
   simp only [Bool.false_eq_true,if_false]
   refine wB (wpAny_letGo ?_)
   rw [hname]
   refine wP ⟨plainId_quiet F.plain_max_loop _,ih (j + 1) _ vb c (by exact Ku1 ‹_›) hlt hst' hks' (by simp only [argBest,hb,Bool.false_eq_true,if_false]; exact hPb) hS' fun v' h'' tk'' hP' hk''=>?_⟩
   exact hR v' h'' tk'' hP' fun b o hbw hbS e=>hk'' b o hbw hbS (hk' b o hbw e)
end
theorem Af1 {l:Addr} {vs:Array Value} {ps:Nat→Int × Int} {Q:Value→Shared→Prop} (hh:A.handled = none) (hu:A.in1.units < cLine) (hl:s.heap.IsList l vs) (hne:0 < vs.size)
  (hp:∀ i v,vs[i]? = some v→∃ a,v = .ref a∧PairAt s.heap a (ps i).1 (ps i).2∧0 ≤ (ps i).2∧(ps i).2 < 1000)
  (h:∀ v h' tk i,vs[i]? = some v→(∀ j,j < vs.size→enc (ps j).1 (ps j).2 ≤ enc (ps i).1 (ps i).2)→(∀ b o,s.heap.get? b = some o→h'.get? b = some o)→Q v { s with heap:=h',toks:=tk }) :
  wpAny (MM w) A (call (.builtin "max") [.ref l]) Q E s:=by
 have hname:(toString "max" ++ toString ".loop" : String) = "max.loop" := by decide
 refine call_function_tree F.kind_max F.plain_max F.entry_max (F.args_max1 _) ?_
 show wpAny _ A.in1 (Builtin.Builtins.bindParams "max" ["key", "default"] 0 ⟨[],[]⟩ >>= _) _ _ s
 refine wB (wpAny_of_eq (show Builtin.Builtins.bindParams "max" ["key", "default"] 0 ⟨[],[]⟩ = pure [none,none] from rfl) ?_)
 refine wB (wP ?_)
 have hlt:l < s.heap.objs.size:=by obtain ⟨_,e,_⟩:=hl; exact Heap.lt_size e
 refine wB (wpAny_pyIter_list hl ?_)
 refine wB (wpAny_newObj_type ?_)
 rw [hname]
 have hsz:(s.heap.push { cls:=.type "list_iterator",data:=.fields #[.ref l,.int 0 0] }).objs.size = s.heap.objs.size + 1:=Heap.size_push ..
 let I:=s.heap.objs.size
 let H:Heap:=(s.heap.push { cls:=.type "list_iterator",data:=.fields #[.ref l,.int 0 0] }).push { cls:=.type "list",data:=.seq ([]:List Value).toArray }
 have hext:∀ b o,s.heap.get? b = some o→H.get? b = some o:=fun b o e=>Heap.get?_push_of_some _ (Heap.get?_push_of_some _ e)
 have hlI:l ≠ I:=Nat.ne_of_lt hlt
 have W:Walks PG w A.in1 I [I,l] [I] vs.size (fun i v=>vs[i]? = some v) (fun i h=>h.IsListIter I l i∧h.IsList l vs):=Walks.list (A:=A.in1) hh _ l hlI vs
 have hSf:I + 1 ∉ [I,l]:=fun q=>by
  rcases List.mem_cons.mp q with q | q
  ·exact absurd q (Nat.ne_of_gt (Nat.lt_succ_self _))
  ·exact absurd (List.mem_singleton.mp q).symm (Nat.ne_of_lt (Nat.lt_succ_of_lt hlt))
 have hS:H.get? (I + 1) = some { cls:=.type "list",dict:=none,data:=.seq #[] 0,slots:=#[] }:=by
  show H.get? (s.heap.objs.size + 1) = _
  rw [← hsz]; exact Heap.get?_push_size _ rfl
 have hst:H.IsListIter I l 0∧H.IsList l vs:=⟨⟨_,Heap.get?_push_of_some _ (Heap.get?_push_size _ rfl),rfl,rfl⟩,(hl.push _).push _⟩
 let K:Heap→Prop:=fun h=>∀ b o,s.heap.get? b = some o→h.get? b = some o
 have hK:∀ h h',K h→(∀ b o,b ∉ [I]→b ≠ I + 1→h.get? b = some o→h'.get? b = some o)→K h':=fun h h' k k' b o e=>by
  have hb:b < s.heap.objs.size:=Heap.lt_size e
  exact k' b o (fun q=>absurd (List.mem_singleton.mp q) (Nat.ne_of_lt hb)) (Nat.ne_of_lt (Nat.lt_succ_of_lt hb)) (k b o e)
 let val:Nat→Int:=fun i=>enc (ps i).1 (ps i).2
 have hcmp:∀ i j vi vj (s':Shared) (Q:Value→Shared→Prop) (E:Value→Shared→Prop),K s'.heap→vs[i]? = some vi→vs[j]? = some vj→Q (.bool (decide (val i > val j))) s'→wpAny (MM w) A.in1 (richCompare .Gt vi vj) Q E s':=by
  intro i j vi vj s' Q E k hi hj hq
  obtain ⟨a,hQ189,⟨t1,u1,n1,sl1,e1⟩,b1⟩:=hp i vi hi; subst hQ189
  obtain ⟨b,hQ190,⟨t2,u2,n2,sl2,e2⟩,b2⟩:=hp j vj hj; subst hQ190
  exact Gz1 hu ⟨t1,u1,n1,sl1,k _ _ e1⟩ ⟨t2,u2,n2,sl2,k _ _ e2⟩ b1 b2 hq
 have hend:∀ v h' tk,vs[argBest (fun i j=>decide (val i > val j)) (vs.size - 1)]? = some v→K h'→Q v { s with heap:=h',toks:=tk }:=fun v h' tk hv k=>by
  obtain ⟨_,h2⟩:=argBest_gt val (vs.size - 1)
  exact h v h' tk _ hv (fun j hj=>h2 j (by exact Nat.le_sub_one_of_lt ‹_›)) k
 show wpAny _ _ _ _ _ { s with heap:=H }
 rw [show (s.heap.push { cls:=.type "list_iterator",data:=.fields #[.ref l,.int 0 0] }).objs.size = I + 1 from hsz]
 refine wP ⟨plainId_quiet F.plain_max_loop _,codeAny_builtin F.entry_max_loop ?_⟩
 rw [Around.under_plainId F.plain_max_loop _]
 show wpAny _ A.in1 (seqItems? (.ref (I + 1)) >>= _) _ _ { s with heap:=H }
 refine wB (wpAny_seqItems hS rfl ?_)
 show wpAny _ A.in1 (tryCatch (pyNext (.ref I)) _ >>= _) _ _ { s with heap:=H }
 refine wB (wpAny_tryCatch (W.item 0 _ _ _ hne hst fun v h' tk hP hst' hk'=>?_))
 have hS':=hk' (I + 1) _ (fun q=>absurd (List.mem_singleton.mp q) (Nat.ne_of_gt (Nat.lt_succ_self _))) hS
 have k1:K h':=hK H h' hext fun b o h1 _ e=>hk' b o h1 e
 show wpAny _ A.in1 (updateSeq (I + 1) (fun _=>#[v,v]) >>= _) _ _ _
 refine wB ?_
 refine wpAny_updateSeq hS' rfl ?_
 rw [hname]
 have k2:K (h'.update (I + 1) (Obj.mapSeq fun _=>#[v,v])):=hK h' _ k1 fun b o _ hbS e=>(Heap.get?_update_other _ _ (Ne.symm hbS)).trans e
 refine wP ⟨plainId_quiet F.plain_max_loop _,Ae1 (K:=K) W hK hcmp hSf _ 0 _ v _ rfl hne (W.frame _ _ _ hst' fun b hbf o e=>?_) k2 hP (Heap.get?_update_self _ hS' rfl) fun v' h'' tk'' hP' hk''=>?_⟩
 ·exact (Heap.get?_update_other _ _ (fun h:I + 1 = b=>hSf (by rw [h]; exact hbf))).trans e
 ·exact hend v' h'' tk'' hP' (hK _ _ k2 hk'')
noncomputable def Jb0 {α:Type} (ans:Nat→Nat→Bool):KasT α→α
 | .ret a=>a
 | .ask i j k=>Jb0 ans (k (ans i j))
theorem Fm0 {α β:Type} (ans:Nat→Nat→Bool) (f:α→KasT β):∀ t:KasT α,Jb0 ans (t.bind f) = Jb0 ans (f (Jb0 ans t)):=fun t=>by
 induction t with
 | ret _=>rfl
 | ask i j k ih=>exact ih (ans i j)
section
variable {r:Nat→Int} {n:Nat}
noncomputable abbrev lt (r:Nat→Int) (i j:Nat):Bool:=decide (r i < r j)
noncomputable abbrev ky (r:Nat→Int) (p:Array Nat) (i:Nat):Int:=r (p.getD i 0)
noncomputable def PP (p:Array Nat) (n:Nat):Prop:=p.Perm (List.range n).toArray
noncomputable def Hk0 (r:Nat→Int) (p:Array Nat) (m:Nat):Prop:=∀ i j,i < j→j < m→ky r p i < ky r p j
theorem PP.size {p:Array Nat} (h:PP p n):p.size = n:=by have:=h.size_eq; simpa using this
theorem PP.lt {p:Array Nat} (h:PP p n) {i:Nat} (hi:i < n):p.getD i 0 < n:=by
 have hs:=h.size
 have:p.getD i 0 ∈ p.toList:=by
  rw [Array.getD_eq_getD_getElem?,Array.getElem?_eq_getElem (by simp_all)]; simp
 have:=(Array.perm_iff_toList_perm.mp h).mem_iff.mp this
 simpa using this
theorem PP.inj {p:Array Nat} (h:PP p n) {i j:Nat} (hi:i < n) (hj:j < n) (e:p.getD i 0 = p.getD j 0):i = j:=by
 have hs:=h.size
 have nd:p.toList.Nodup:=(Array.perm_iff_toList_perm.mp h).nodup_iff.mpr (by simpa using List.nodup_range)
 rw [Array.getD_eq_getD_getElem?,Array.getElem?_eq_getElem (by simp_all),Array.getD_eq_getD_getElem?,Array.getElem?_eq_getElem (by simp_all)] at e
 simp only [Option.getD_some] at e
 have:=(List.getElem_inj (h₀:=by simpa using (by simp_all:i < p.size)) (h₁:=by simpa using (by simp_all:j < p.size)) nd).mp (by simpa using e)
 exact this
noncomputable def Xq0 (r:Nat→Int) (n:Nat):Prop:=∀ i j,i < n→j < n→r i = r j→i = j
theorem Tu0 {p:Array Nat} (hr:Xq0 r n) (h:PP p n) {i j:Nat} (hi:i < n) (hj:j < n) (hne:i ≠ j):ky r p i ≠ ky r p j:=fun e=>hne (h.inj hi hj (hr _ _ (h.lt hi) (h.lt hj) e))
theorem Tv0 (p:Array Nat):∀ (f m0:Nat),1 ≤ m0→Hk0 r p m0→(∀ i j,i < m0 + f→j < m0 + f→i ≠ j→ky r p i ≠ ky r p j)→∃ m,Jb0 (lt r) (kas_asc p f m0) = m∧m0 ≤ m∧m ≤ m0 + f∧Hk0 r p m∧(m < m0 + f→ky r p m < ky r p (m - 1)):=by
 intro f
 induction f with
 | zero=>exact fun m0 h1 ha _=>⟨m0,rfl,Nat.le_refl _,Nat.le_refl _,ha,fun h=>absurd h (Nat.lt_irrefl _)⟩
 | succ f ih =>
  intro m0 h1 ha hne
  show ∃ m,Jb0 _ (if lt r (p.getD m0 0) (p.getD (m0 - 1) 0) = true then .ret m0 else kas_asc p f (m0 + 1)) = m∧_
  cases hc:lt r (p.getD m0 0) (p.getD (m0 - 1) 0) with
  | true =>
   refine ⟨m0,rfl,Nat.le_refl _,by exact Nat.le_add_right _ _,ha,fun _=>?_⟩
   exact of_decide_eq_true hc
  | false =>
   have hc':¬ ky r p m0 < ky r p (m0 - 1):=of_decide_eq_false hc
   have hn:=hne m0 (m0 - 1) (by simp +arith) (by simp +arith) (by exact Kt1 ‹_›)
   obtain ⟨m,e,h2,h3,h4,h5⟩:=ih (m0 + 1) (by exact Nat.lt_succ_of_lt ‹_›) (fun i j hij hj=>by
    by_cases q:j = m0
    ·subst q
     by_cases q2:i = j - 1
     ·subst q2; exact Kj1 ‹_› ‹_›
     ·have:=ha i (j - 1) (by exact Fo1 ‹_› ‹_›) (by exact Nat.sub_lt ‹_› Nat.one_pos); omega
    ·exact ha i j hij (by exact Fo1 ‹_› ‹_›)) (fun i j hi hj=>hne i j (by lia) (by lia))
   exact ⟨m,e,by exact Nat.le_of_lt ‹_›,by lia,h4,fun h=>h5 (by lia)⟩
noncomputable def Ag1 (r:Nat→Int) (p:Array Nat) (m:Nat):Prop:=∀ i j,i < j→j < m→ky r p j < ky r p i
theorem Vf0 (p:Array Nat):∀ (f m0:Nat),1 ≤ m0→Ag1 r p m0→(∀ i j,i < m0 + f→j < m0 + f→i ≠ j→ky r p i ≠ ky r p j)→∃ m,Jb0 (lt r) (kas_desc f p m0 0) = (p,m,0)∧m0 ≤ m∧m ≤ m0 + f∧Ag1 r p m:=by
 intro f
 induction f with
 | zero=>exact fun m0 h1 ha _=>⟨m0,rfl,Nat.le_refl _,Nat.le_refl _,ha⟩
 | succ f ih =>
  intro m0 h1 ha hne
  have hn:=hne m0 (m0 - 1) (by simp +arith) (by simp +arith) (by exact Kt1 ‹_›)
  show ∃ m,Jb0 _ (if lt r (p.getD m0 0) (p.getD (m0 - 1) 0) = true then (if 0 > 0 then _ else kas_desc f p (m0 + 1) 0) else .ask (p.getD (m0 - 1) 0) (p.getD m0 0) fun d=>if d = true then .ret (p,m0,0) else _) = _∧_
  cases hc:lt r (p.getD m0 0) (p.getD (m0 - 1) 0) with
  | true =>
   have hc':ky r p m0 < ky r p (m0 - 1):=of_decide_eq_true hc
   rw [if_pos rfl,if_neg (Nat.lt_irrefl 0)]
   obtain ⟨m,e,h2,h3,h4⟩:=ih (m0 + 1) (by exact Nat.lt_succ_of_lt ‹_›) (fun i j hij hj=>by
    by_cases q:j = m0
    ·subst q
     by_cases q2:i = j - 1
     ·subst q2; exact hc'
     ·have:=ha i (j - 1) (by exact Fo1 ‹_› ‹_›) (by exact Nat.sub_lt ‹_› Nat.one_pos); exact Int.lt_trans ‹_› ‹_›
    ·exact ha i j hij (by exact Fo1 ‹_› ‹_›)) (fun i j hi hj=>hne i j (by lia) (by lia))
   exact ⟨m,e,by exact Nat.le_of_lt ‹_›,by lia,h4⟩
  | false =>
   have hc':¬ ky r p m0 < ky r p (m0 - 1):=of_decide_eq_false hc
   have hd:lt r (p.getD (m0 - 1) 0) (p.getD m0 0) = true:=decide_eq_true (by show ky r p (m0 - 1) < ky r p m0; exact Kj1 ‹_› ‹_›)
   rw [if_neg Bool.false_ne_true]
   show ∃ m,Jb0 _ (if lt r (p.getD (m0 - 1) 0) (p.getD m0 0) = true then .ret (p,m0,0) else _) = _∧_
   rw [hd,if_pos rfl]
   exact ⟨m0,rfl,Nat.le_refl _,by exact Nat.le_add_right _ _,ha⟩
theorem Hl0 {p q:Array Nat} {i j:Nat} (h:p[i]? = q[j]?):ky r p i = ky r q j:=by unfold ky; rw [Array.getD_eq_getD_getElem?,Array.getD_eq_getD_getElem?,h]
theorem Fd1 {p:Array Nat} {m:Nat} (hm:m ≤ p.size) (k:Nat):ky r (kas_rev p 0 m) k = if k < m then ky r p (m - 1 - k) else ky r p k:=by
 have e:=getElem?_mirror_all (i:=0) hm k
 delta kas_rev
 by_cases h1:k < m
 ·rw [if_pos ⟨Nat.zero_le _,h1⟩] at e; rw [if_pos h1,Hl0 e,Nat.zero_add]
 ·rw [if_neg (by simp_all)] at e; rw [if_neg h1,Hl0 e]
theorem Fe1 {p:Array Nat} {k l:Nat} (hk:k < p.size) (hl:l ≤ k) (i:Nat):ky r (bubble p k (k - l)) i = if i = l then ky r p k else if l < i∧i ≤ k then ky r p (i - 1) else ky r p i:=by
 have e:=getElem?_bubble hk (k - l) (by exact Nat.sub_le _ _) i
 rw [show k - (k - l) = l by lia] at e
 by_cases h1:i = l
 ·rw [if_pos h1] at e ⊢; exact Hl0 e
 ·rw [if_neg h1] at e ⊢
  by_cases h2:l < i∧i ≤ k
  ·rw [if_pos h2] at e ⊢; exact Hl0 e
  ·rw [if_neg h2] at e ⊢; exact Hl0 e
theorem Ah1 (p:Array Nat) (k:Nat) (ha:Hk0 r p k) (hne:∀ i,i < k→ky r p i ≠ ky r p k):∀ (f l u:Nat),l ≤ u→u ≤ k→u - l ≤ f→(∀ i,i < l→ky r p i < ky r p k)→(∀ i,u ≤ i→i < k→ky r p k < ky r p i) →
  ∃ m,Jb0 (lt r) (kas_place p k f l u) = m∧m ≤ k∧(∀ i,i < m→ky r p i < ky r p k)∧(∀ i,m ≤ i→i < k→ky r p k < ky r p i):=by
 intro f
 induction f with
 | zero=>exact fun l u h1 h2 h3 h4 h5=>⟨l,rfl,by exact Nat.le_trans ‹_› ‹_›,h4,fun i hi hk=>h5 i (by lia) hk⟩
 | succ f ih =>
  intro l u h1 h2 h3 h4 h5
  show ∃ m,Jb0 _ (if l ≥ u then .ret l else .ask (p.getD k 0) (p.getD ((l + u) / 2) 0) fun c=>if c = true then kas_place p k f l ((l + u) / 2) else kas_place p k f ((l + u) / 2 + 1) u) = m∧_
  by_cases hge:l ≥ u
  ·rw [if_pos hge]
   exact ⟨l,rfl,by exact Nat.le_trans ‹_› ‹_›,h4,fun i hi hk=>h5 i (by exact Nat.le_trans ‹_› ‹_›) hk⟩
  ·rw [if_neg hge]
   show ∃ m,Jb0 _ (if lt r (p.getD k 0) (p.getD ((l + u) / 2) 0) = true then kas_place p k f l ((l + u) / 2) else kas_place p k f ((l + u) / 2 + 1) u) = m∧_
   cases hc:lt r (p.getD k 0) (p.getD ((l + u) / 2) 0) with
   | true =>
    have hc':ky r p k < ky r p ((l + u) / 2):=of_decide_eq_true hc
    rw [if_pos rfl]
    refine ih l ((l + u) / 2) (by exact Mp1 ‹_›) (by lia) (by exact Mq1 ‹_› ‹_›) h4 fun i hi hk=>?_
    by_cases q:i = (l + u) / 2
    ·rw [q]; exact hc'
    ·have:=ha ((l + u) / 2) i (by lia) hk; exact Int.lt_trans ‹_› ‹_›
   | false =>
    have hc':¬ ky r p k < ky r p ((l + u) / 2):=of_decide_eq_false hc
    have hn:=hne ((l + u) / 2) (by exact Mg1 ‹_› ‹_›)
    rw [if_neg Bool.false_ne_true]
    refine ih ((l + u) / 2 + 1) u (by exact Mf1 ‹_›) (by omega) (by grind) (fun i hi=>?_) h5
    by_cases q:i = (l + u) / 2
    ·rw [q]; exact Mr1 ‹_› ‹_›
    ·have:=ha i ((l + u) / 2) (by exact Fo1 ‹_› ‹_›) (by exact Mg1 ‹_› ‹_›); omega
theorem Hb1 (hr:Xq0 r n):∀ (f:Nat) (p:Array Nat) (k:Nat),PP p n→Hk0 r p k→k + f ≤ n→PP (Jb0 (lt r) (kas_bin f p k)) n∧Hk0 r (Jb0 (lt r) (kas_bin f p k)) (k + f):=by
 intro f
 induction f with
 | zero=>exact fun p k h ha _=>⟨h,ha⟩
 | succ f ih =>
  intro p k h ha hk
  have hne:∀ i,i < k→ky r p i ≠ ky r p k:=fun i hi=>Tu0 hr h (by lia) (by lia) (by exact Nat.ne_of_lt ‹_›)
  obtain ⟨m,e,h1,h2,h3⟩:=Ah1 p k ha hne k 0 k (by exact Nat.zero_le _) (by exact Nat.le_refl _) (by exact Nat.le_refl _) (fun i hi=>by exact absurd ‹_› (Nat.not_lt_zero _)) (fun i hi hk=>by grind)
  rw [show kas_bin (f + 1) p k = (kas_place p k k 0 k).bind fun l=>kas_bin f (bubble p k (k - l)) (k + 1) from rfl,Fm0,e]
  have hs:=h.size
  have:=ih (bubble p k (k - m)) (k + 1) ((bubble_perm _ _ _).trans h) (fun i j hij hj=>by
   rw [Fe1 (by lia) h1,Fe1 (by lia) h1]
   repeat' split
   all_goals first
    | (exfalso; (first | (simp_all; done) | lia))
    | exact h2 _ (by simp_all)
    | exact h3 _ (by (first | exact Mv1 ‹_› ‹_› ‹_› | omega)) (by exact Me1 ‹_› ‹_›)
    | exact ha _ _ (by (first | (first | assumption | exact Mt1 ‹_› ‹_› | exact Kw1 ‹_› ‹_› ‹_› ‹_› ‹_› | lia) | omega)) (by (first | (first | exact Me1 ‹_› ‹_› | exact Kx1 ‹_› ‹_› ‹_› ‹_› | lia) | omega))) (by lia)
  rw [show k + (f + 1) = k + 1 + f by simp +arith]
  exact this
theorem Ai1 (hr:Xq0 r n) {p:Array Nat} {m:Nat} (h:PP p n) (h1:1 ≤ m) (h2:m ≤ n) (hd:Ag1 r p m):∃ q k,Jb0 (lt r) (kas_tail3 m n p) = (k,q)∧PP q n∧Hk0 r q k∧1 ≤ k∧k ≤ n:=by
 have hs:=h.size
 have hP:PP (kas_rev p 0 m) n:=(mirror_perm _ _ _ _).trans h
 delta kas_tail3
 rw [Fm0]
 obtain ⟨k,e,g1,g2,g3,_⟩:=Tv0 (r:=r) (kas_rev p 0 m) (n - m) m h1 (fun i j hij hj=>by
  rw [Fd1 (by simp_all),Fd1 (by simp_all),if_pos (by exact Nat.lt_trans ‹_› ‹_›),if_pos hj]
  exact hd _ _ (by grind) (by exact Kv1 ‹_› ‹_›)) (fun i j hi hj hne=>Tu0 hr hP (by grind) (by lia) hne)
 rw [e]
 exact ⟨_,k,rfl,hP,g3,by exact Nat.le_trans ‹_› ‹_›,by grind⟩
theorem Rm0 (hr:Xq0 r n) {p:Array Nat} (h:PP p n) (h2:2 ≤ n) (hd:ky r p 1 < ky r p 0):∃ q k,Jb0 (lt r) (kas_descPart 1 n p) = (k,q)∧PP q n∧Hk0 r q k∧1 ≤ k∧k ≤ n:=by
 delta kas_descPart
 rw [Fm0]
 obtain ⟨m,e,g1,g2,g3⟩:=Vf0 (r:=r) p (n - 2) 2 (by decide) (fun i j hij hj=>by
  have:i = 0:=by lia
  have:j = 1:=by lia
  subst i j; exact hd) (fun i j hi hj hne=>Tu0 hr h (by exact Ki1 ‹_› ‹_›) (by exact Ki1 ‹_› ‹_›) hne)
 show ∃ q k,Jb0 (lt r) ((fun r':Array Nat × Nat × Nat=>if r'.2.2 > 0 then kas_tail3 r'.2.1 n (kas_rev r'.1 (r'.2.1 - (r'.2.2 + 1)) r'.2.1) else kas_tail3 r'.2.1 n r'.1) (Jb0 (lt r) (kas_desc (n - (1 + 1)) p (1 + 1) 0))) = (k,q)∧_
 rw [show n - (1 + 1) = n - 2 by rfl,e]
 exact Ai1 (m:=m) hr h (by exact Nat.le_of_lt ‹_›) (by exact Mo1 ‹_› ‹_›) g3
theorem Rn0 (hr:Xq0 r n) {p:Array Nat} (h:PP p n) (h2:2 ≤ n):∃ q k,Jb0 (lt r) (kas_count n p) = (k,q)∧PP q n∧Hk0 r q k∧1 ≤ k∧k ≤ n:=by
 delta kas_count
 rw [Fm0]
 obtain ⟨m,e,g1,g2,g3,g4⟩:=Tv0 (r:=r) p (n - 1) 1 (by decide) (fun i j hij hj=>by simp_all) (fun i j hi hj hne=>Tu0 hr h (by lia) (by lia) hne)
 rw [e]
 by_cases q:m = n
 ·rw [if_pos (by simp [q])]
  exact ⟨p,m,rfl,h,g3,by omega,by exact Nat.le_of_eq ‹_›⟩
 ·rw [if_neg (by simpa using q)]
  by_cases q1:m > 1
  ·rw [if_pos q1]
   have hc:lt r (p.getD 0 0) (p.getD (m - 1) 0) = true:=decide_eq_true (g3 0 (m - 1) (by grind) (by grind))
   show ∃ q k,Jb0 _ (if lt r (p.getD 0 0) (p.getD (m - 1) 0) = true then _ else _) = (k,q)∧_
   rw [hc]
   exact ⟨p,m,rfl,h,g3,by omega,by lia⟩
  ·rw [if_neg q1]
   have:m = 1:=by lia
   subst this
   exact Rm0 hr h h2 (g4 (by grind))
theorem Vg0 (hr:Xq0 r n) (h2:2 ≤ n):PP (Jb0 (lt r) (kas_sort n)) n∧Hk0 r (Jb0 (lt r) (kas_sort n)) n:=by
 delta kas_sort
 rw [Fm0]
 obtain ⟨q,k,e,g1,g2,g3,g4⟩:=Rn0 hr (Array.Perm.refl (List.range n).toArray:PP _ n) h2
 rw [e]
 dsimp only
 by_cases hk:k < n
 ·rw [if_pos hk,Nat.max_eq_left g3]
  have:=Hb1 hr (n - k) q k g1 g2 (by grind)
  rwa [show k + (n - k) = n by grind] at this
 ·rw [if_neg hk]
  have:k = n:=by lia
  subst this
  exact ⟨g1,g2⟩
end
noncomputable def kIn {α:Type} (ans:Nat→Nat→Bool) (n:Nat):KasT α→Prop
 | .ret _=>True
 | .ask i j k=>i < n∧j < n∧kIn ans n (k (ans i j))
theorem Fv0 {α β:Type} {ans:Nat→Nat→Bool} {n:Nat} {f:α→KasT β}:∀ (t:KasT α),kIn ans n t→kIn ans n (f (Jb0 ans t))→kIn ans n (t.bind f)
 | .ret _,_,h=>h
 | .ask i j k,⟨h1,h2,h3⟩,h=>⟨h1,h2,Fv0 (k (ans i j)) h3 h⟩
theorem Ff1 {α:Type} {cmp:Nat→Nat→(Bool→Shared→Prop)→Shared→Prop} {ans:Nat→Nat→Bool} {n:Nat} (hc:∀ i j C,i < n→j < n→C (ans i j) s→cmp i j C s) {Q:α→Shared→Prop}:∀ t:KasT α,kIn ans n t→Q (Jb0 ans t) s→t.kasWp cmp Q s
 | .ret _,_,h=>h
 | .ask i j k,⟨h1,h2,h3⟩,h=>hc i j _ h1 h2 (Ff1 hc (k (ans i j)) h3 h)
section
variable {ans:Nat→Nat→Bool} {n:Nat}
noncomputable def Low (p:Array Nat) (n:Nat):Prop:=∀ i,p.getD i 0 < n
theorem PP.low {p:Array Nat} (h:PP p n) (hn:0 < n):Low p n:=fun i=>by
 by_cases q:i < n
 ·exact h.lt q
 ·have hs:=h.size
  rw [Array.getD_eq_getD_getElem?,Array.getElem?_eq_none (by simp_all)]; exact hn
theorem Aj1 {p:Array Nat} (h:Low p n):∀ f m,kIn ans n (kas_asc p f m)
 | 0,_=>trivial
 | f + 1,m=>by
  unfold kas_asc
  refine ⟨h _,h _,?_⟩
  dsimp only
  split
  ·trivial
  ·exact Aj1 h f _
theorem Ak1 {r:Nat→Int} {p:Array Nat} (h:Low p n) (hr:Xq0 r n) (hp:PP p n):∀ f m,1 ≤ m→m + f ≤ n→kIn (lt r) n (kas_desc f p m 0)
 | 0,_,_,_=>trivial
 | f + 1,m,h1,h2=>by
  unfold kas_desc
  refine ⟨h _,h _,?_⟩
  have hn:=Tu0 hr hp (i:=m) (j:=m - 1) (by lia) (by lia) (by exact Kt1 ‹_›)
  cases hc:lt r (p.getD m 0) (p.getD (m - 1) 0) with
  | true =>
   simp only [if_true,Nat.lt_irrefl,gt_iff_lt,if_false]
   exact Ak1 h hr hp f (m + 1) (by exact Nat.lt_succ_of_lt ‹_›) (by lia)
  | false =>
   have hc':¬ ky r p m < ky r p (m - 1):=of_decide_eq_false hc
   have hd:lt r (p.getD (m - 1) 0) (p.getD m 0) = true:=decide_eq_true (by show ky r p (m - 1) < ky r p m; exact Kj1 ‹_› ‹_›)
   simp only [Bool.false_eq_true,if_false]
   refine ⟨h _,h _,?_⟩
   rw [hd]
   simp only [if_true]
   trivial
theorem Oo0 {p:Array Nat} (h:Low p n) (k:Nat):∀ f l u,kIn ans n (kas_place p k f l u)
 | 0,_,_=>trivial
 | f + 1,l,u=>by
  unfold kas_place
  split
  ·trivial
  ·refine ⟨h _,h _,?_⟩
   dsimp only
   split
   ·exact Oo0 h k f _ _
   ·exact Oo0 h k f _ _
end
section
variable {r:Nat→Int} {n:Nat}
theorem Fg1 (hn:0 < n):∀ (f:Nat) (p:Array Nat) (k:Nat),PP p n→kIn (lt r) n (kas_bin f p k)
 | 0,_,_,_=>trivial
 | f + 1,p,k,h=>by
  unfold kas_bin
  exact Fv0 _ (Oo0 (PP.low h hn) k _ _ _) (Fg1 hn f _ _ ((bubble_perm _ _ _).trans h))
theorem Dt1 (hn:0 < n) {p:Array Nat} {m:Nat} (h:PP p n):kIn (lt r) n (kas_tail3 m n p):=by
 unfold kas_tail3
 have hP:PP (kas_rev p 0 m) n:=(mirror_perm _ _ _ _).trans h
 exact Fv0 _ (Aj1 (PP.low hP hn) _ _) trivial
theorem Tw0 (hr:Xq0 r n) {p:Array Nat} (h:PP p n) (h2:2 ≤ n) (hd:ky r p 1 < ky r p 0):kIn (lt r) n (kas_descPart 1 n p):=by
 unfold kas_descPart
 refine Fv0 _ (Ak1 (h.low (by exact Nat.le_of_lt ‹_›)) hr h _ _ (by exact Nat.succ_pos _) (by exact Ks1 ‹_›)) ?_
 obtain ⟨m,e,g1,g2,g3⟩:=Vf0 (r:=r) p (n - 2) 2 (by decide) (fun i j hij hj=>by
  have:i = 0:=by lia
  have:j = 1:=by lia
  subst i j; exact hd) (fun i j hi hj hne=>Tu0 hr h (by exact Ki1 ‹_› ‹_›) (by exact Ki1 ‹_› ‹_›) hne)
 rw [show n - (1 + 1) = n - 2 by rfl,e]
 exact Dt1 (by exact Nat.le_of_lt ‹_›) h
theorem Du1 (hr:Xq0 r n) {p:Array Nat} (h:PP p n) (h2:2 ≤ n):kIn (lt r) n (kas_count n p):=by
 unfold kas_count
 have hl:=h.low (by exact Nat.le_of_lt ‹_›)
 refine Fv0 _ (Aj1 hl _ _) ?_
 obtain ⟨m,e,g1,g2,g3,g4⟩:=Tv0 (r:=r) p (n - 1) 1 (by decide) (fun i j hij hj=>by simp_all) (fun i j hi hj hne=>Tu0 hr h (by lia) (by lia) hne)
 rw [e]
 by_cases q:m = n
 ·rw [if_pos (by simp [q])]; trivial
 ·rw [if_neg (by simpa using q)]
  by_cases q1:m > 1
  ·rw [if_pos q1]
   have hc:lt r (p.getD 0 0) (p.getD (m - 1) 0) = true:=decide_eq_true (g3 0 (m - 1) (by exact Nat.lt_sub_of_add_lt ‹_›) (by exact Nat.sub_lt ‹_› Nat.one_pos))
   refine ⟨hl _,hl _,?_⟩
   rw [hc]
   trivial
  ·rw [if_neg q1]
   have:m = 1:=by lia
   subst this
   exact Tw0 hr h h2 (g4 (by lia))
theorem Hc1 (hr:Xq0 r n) (h2:2 ≤ n):kIn (lt r) n (kas_sort n):=by
 unfold kas_sort
 have h0:PP (List.range n).toArray n:=Array.Perm.refl _
 refine Fv0 _ (Du1 hr h0 h2) ?_
 obtain ⟨q,k,e,g1,g2,g3,g4⟩:=Rn0 hr h0 h2
 rw [e]
 dsimp only
 split
 ·exact Fg1 (by exact Nat.le_of_lt ‹_›) _ _ _ g1
 ·trivial
end
noncomputable def RankAt (h:Heap) (v:Value) (rk:Int × Int) (nm:Str):Prop:=∃ a pa t n sl,v = .ref a∧h.get? a = some ⟨.type "tuple",none,.seq #[.ref pa,.str nm t] n,sl⟩∧PairAt h pa rk.1 rk.2
theorem PairAt.mono {x y:Int} (p:PairAt h a x y) (k:∀ b o,h.get? b = some o→h'.get? b = some o):PairAt h' a x y:=by obtain ⟨t,u,n,sl,e⟩:=p; exact ⟨t,u,n,sl,k _ _ e⟩
theorem RankAt.mono {rk:Int × Int} {nm:Str} (p:RankAt h v rk nm) (k:∀ b o,h.get? b = some o→h'.get? b = some o):RankAt h' v rk nm:=by obtain ⟨a,pa,t,n,sl,e1,e2,e3⟩:=p; exact ⟨a,pa,t,n,sl,e1,k _ _ e2,e3.mono k⟩
theorem PairAt.reads {x y:Int} (p:PairAt h a x y):∃ as,Reads h (.ref a) (.tuple [.int x,.int y]) as:=by
 obtain ⟨t,u,n,sl,e⟩:=p
 exact ⟨_,.tuple e rfl rfl (.cons (.int _ _) (.cons (.int _ _) .nil))⟩
theorem Hd1 {x1 y1 x2 y2:Int} (b1:0 ≤ y1∧y1 < 1000) (b2:0 ≤ y2∧y2 < 1000) (h:enc x1 y1 = enc x2 y2):x1 = x2∧y1 = y2:=by unfold enc at h; lia
section
theorem He1 {x y:Value} {r1 r2:Int × Int} {n1 n2:Str} {C:Bool→Shared→Prop} (hu:A.units + 8 < cLine) (hx:RankAt s.heap x r1 n1) (hy:RankAt s.heap y r2 n2) (b1:0 ≤ r1.2∧r1.2 < 1000) (b2:0 ≤ r2.2∧r2.2 < 1000)
  (hn:enc r1.1 r1.2 = enc r2.1 r2.2→n1 = n2) (h:C (decide (enc r1.1 r1.2 < enc r2.1 r2.2)) s):wpAny (MM w) A (keyLt' (tuples' false) x y) C E s:=by
 obtain ⟨a,pa,t,n,sl,hQ191,e1,p1⟩:=hx; subst hQ191
 obtain ⟨b,pb,u,m,sm,hQ192,e2,p2⟩:=hy; subst hQ192
 obtain ⟨as,q1⟩:=p1.reads
 obtain ⟨bs,q2⟩:=p2.reads
 refine kat_lt e1 rfl e2 rfl ?_
 show KatLex PG w A false (decide (2 < 2)) C [(.ref pa,.ref pb),(.str n1 t,.str n2 u)] 0 s
 refine kat_cons (SeqAt.eqBoolOverData PG w A _ s _ _ _ _ _ _ _ q1 q2 rfl rfl (by show A.units + 1 < cLine; lia) ?_)
 rw [show PyData.eqv (.tuple [.int r1.1,.int r1.2]) (.tuple [.int r2.1,.int r2.2]) = (r1.1 == r2.1 && (r1.2 == r2.2 && true)) from rfl]
 cases hq:(r1.1 == r2.1 && (r1.2 == r2.2 && true)) with
 | true =>
  simp only [Bool.and_true,Bool.and_eq_true,beq_iff_eq] at hq
  have he:enc r1.1 r1.2 = enc r2.1 r2.2:=by rw [hq.1,hq.2]
  have hnn:=hn he
  subst hnn
  refine kat_yes (kat_cons (eqBool_str ?_))
  rw [beq_self_eq_true]
  refine kat_yes (kat_nil ?_)
  rw [he] at h
  simpa using h
 | false =>
  refine kat_no ?_
  refine kat_one _ _ ?_
  exact Ha1 (by lia) p1 p2 b1 b2 h
end
theorem Ro0:∀ vs:List Value,(∀ v ∈ vs,∃ rk nm,RankAt h v rk nm)→∃ fs,KatTups h vs fs∧fs.length = vs.length∧∀ f ∈ fs,∃ pa x y,f = .ref pa∧PairAt h pa x y
 | [],_=>⟨[],.nil,rfl,fun _ q=>by cases q⟩
 | v :: vs,hv=>by
  obtain ⟨fs,h1,h2,h3⟩:=Ro0 vs fun v q=>hv v (.tail _ q)
  obtain ⟨rk,nm,a,pa,t,n,sl,hQ193,e,p⟩:=hv v (.head _); subst hQ193
  refine ⟨.ref pa :: fs,.cons e rfl rfl rfl h1,by simp [h2],fun f hf=>?_⟩
  rcases List.mem_cons.mp hf with rfl | hf
  ·exact ⟨pa,_,_,rfl,p⟩
  ·exact h3 f hf
theorem Rp0 {l:Addr} {rk:Nat→Int × Int} {nm:Nat→Str} {Q:Value→Shared→Prop} (hu:A.in1.in1.units + 8 < cLine) (hl:s.heap.IsList l vs.toArray) (h64:vs.length < 64)
  (hr:Xq0 (fun i=>enc (rk i).1 (rk i).2) vs.length) (hitem:∀ i,i < vs.length→RankAt s.heap (vs.getD i Value.none) (rk i) (nm i)∧0 ≤ (rk i).2∧(rk i).2 < 1000)
  (h:∀ p D c h',PP p vs.length→Hk0 (fun i=>enc (rk i).1 (rk i).2) p vs.length→(∀ b o,s.heap.get? b = some o→h'.get? b = some o)→s.heap.objs.size ≤ D→h'.get? D = some (listOf (p.toList.map fun i=>vs.getD i Value.none).toArray c)→Q (.ref D) { s with heap:=h' }) :
  wpAny (MM w) A (call (.builtin "sorted") [.ref l]) Q E s:=by
 refine Calls.call_function_entry kind_sorted plain_sorted entry_sorted (args_sorted1 _) ?_
 unfold Builtin.«sorted»
 refine wB (m:=checkCount "sorted" 1 1 _) (wP ?_)
 refine wB (collect_list hl ?_ (by rw [sizeLine_eq]; exact Nat.le_of_lt (Nat.lt_of_lt_of_le ‹_› (by decide))))
 refine wB (wpAny_newList ?_ (by rw [sizeLine_eq]; exact Nat.le_of_lt (Nat.lt_of_lt_of_le ‹_› (by decide))))
 have hsz:((s.heap.push (seqObj "list" #[] 0)).update s.heap.objs.size (Obj.mapSeq (· ++ vs.toArray))).objs.size = s.heap.objs.size + 1:=by
  rw [Heap.size_update,size_push']
 generalize hH2:((s.heap.push (seqObj "list" #[] 0)).update s.heap.objs.size (Obj.mapSeq (· ++ vs.toArray))).push (seqObj "list" vs.toArray 0) = H2
 have ho:H2.get? (s.heap.objs.size + 1) = some (seqObj "list" vs.toArray 0):=by
  rw [← hsz,← hH2]; exact Heap.get?_push_size _ rfl
 have keep:∀ b o,s.heap.get? b = some o→H2.get? b = some o:=fun b o q=>by
  have hlt:b < s.heap.objs.size:=Heap.lt_size q
  rw [← hH2,Heap.get?_push_ne _ _ _ (by rw [hsz]; exact Nat.ne_of_lt (Nat.lt_succ_of_lt hlt)),Heap.get?_update_ne _ _ _ _ (Nat.ne_of_lt hlt),Heap.get?_push_ne _ _ _ (Nat.ne_of_lt hlt)]
  exact q
 have hsz2:H2.objs.size = s.heap.objs.size + 2:=by rw [← hH2,size_push',hsz]
 show wpAny _ _ _ _ _ { s with heap:=H2 }
 dsimp only
 rw [hsz]
 refine wB (wpAny_holding (wpAny_call_entry slot_list_sort ⟨_,ho,rfl⟩ entry_list_sort ?body (args_list_sort _)))
 generalize hD:s.heap.objs.size + 1 = D at *
 have hltD:∀ b,b < s.heap.objs.size→b ≠ D:=fun b hb q=>by rw [q,← hD] at hb; exact absurd hb (Nat.not_lt.mpr (Nat.le_succ _))
 have fin:∀ (p:Array Nat) c h',PP p vs.length→Hk0 (fun i=>enc (rk i).1 (rk i).2) p vs.length→(∀ b o,s.heap.get? b = some o→h'.get? b = some o)→h'.get? D = some (listOf (p.toList.map fun i=>vs.getD i Value.none).toArray c)→Q (.ref D) { s with heap:=h' } :=
  fun p c h' a1 a2 a3 a4=>h p D c h' a1 a2 a3 (by lia) a4
 have hrng:(List.range vs.length).map (fun i=>vs.getD i Value.none) = vs:=by
  apply List.ext_getElem
  ·simp
  ·intro i h1 h2; simp at h1 ⊢; simp [List.getElem?_eq_getElem h1]
 obtain ⟨e1,ho1⟩:∃ e1,(H2.update D (Obj.mapSeq fun _=>(#[]:Array Value))).get? D = some (seqObj "list" #[] e1):=⟨_,get?_update_seq ho fun _=>#[]⟩
 rw [list_sort_plain]
 refine wB (listItems_at ho rfl ?_)
 refine wB (listUpdate_at ho rfl ?_ (by rw [List.size_toArray,sizeLine_eq]; exact Nat.le_of_lt (Nat.lt_of_lt_of_le ‹_› (by decide))) (Nat.zero_le _))
 refine wB (seqEpoch_at ho1 rfl ?_)
 refine wB (wpAny_newTuple ?_ (by show vs.length ≤ _; rw [sizeLine_eq]; exact Nat.le_of_lt (Nat.lt_of_lt_of_le ‹_› (by decide))))
 refine wB (wpAny_newList ?_ (Nat.zero_le _))
 refine wpAny_holding ?_
 generalize hH4:((H2.update D (Obj.mapSeq fun _=>(#[]:Array Value))).push (seqObj "tuple" vs.toArray 0)).push (seqObj "list" #[] 0) = H4
 show wpAny _ _ _ _ _ { s with heap:=H4 }
 have keep4:∀ b o,s.heap.get? b = some o→H4.get? b = some o:=fun b o q=>by
  have hlt:b < s.heap.objs.size:=Heap.lt_size q
  rw [← hH4]
  refine Heap.get?_push_of_some _ (Heap.get?_push_of_some _ ?_)
  rw [Heap.get?_update_ne _ _ _ _ (hltD b hlt)]
  exact keep b o q
 have ho4:H4.get? D = some (seqObj "list" #[] e1):=by rw [← hH4]; exact Heap.get?_push_of_some _ (Heap.get?_push_of_some _ ho1)
 have tail:∀ (st:SortSt) (p:Array Nat),PP p vs.length→Hk0 (fun i=>enc (rk i).1 (rk i).2) p vs.length→(arrOf st).map (·.2) = (p.toList.map fun i=>vs.getD i Value.none).toArray→failedOf st = none →
   wpAny (MM w) A.in1.in1 (do
    let sorted:=(arrOf st).map (·.2)
    let touched:=(← seqEpoch D) != e1
    Builtin.List.listUpdate (.ref D) fun _=>sorted
    if let some e:=failedOf st then rule "list.sort.comparison-raised"; throw e
    if touched then rule "list.sort.modified"; raiseError "ValueError" "list modified during sort"
    ret .none) (fun r s'=>∃ v,r = Fin.done (.ret v)∧wpAny (MM w) A.in1 (pure ()) (fun _ s''=>∃ v,Fin.done (.ret (.ref D)) = Fin.done (.ret v)∧Q v s'') E s') E { s with heap:=H4 }:=by
  intro st p hp hasc hout hf
  dsimp only
  have hszp:(p.toList.map fun i=>vs.getD i Value.none).toArray.size = vs.length:=by rw [List.size_toArray,List.length_map,Array.length_toList,hp.size]
  obtain ⟨c2,hc2⟩:∃ c2,(H4.update D (Obj.mapSeq fun _=>(p.toList.map fun i=>vs.getD i Value.none).toArray)).get? D = some (seqObj "list" (p.toList.map fun i=>vs.getD i Value.none).toArray c2):=⟨_,get?_update_seq ho4 fun _=>(p.toList.map fun i=>vs.getD i Value.none).toArray⟩
  rw [hout]
  refine wB (seqEpoch_at ho4 rfl ?_)
  refine wB (listUpdate_at ho4 rfl ?_ (Nat.zero_le _) (Nat.le_trans (Nat.le_of_eq hszp) (by rw [sizeLine_eq]; exact Nat.le_of_lt (Nat.lt_of_lt_of_le ‹_› (by decide)))))
  rw [hf]
  simp only [bne_self_eq_false,Bool.false_eq_true,if_false]
  refine wP ⟨_,rfl,wP ⟨_,rfl,fin p c2 _ hp hasc (fun b o q=>?_) hc2⟩⟩
  have hlt:b < s.heap.objs.size:=Heap.lt_size q
  show (H4.update D _).get? b = _
  rw [Heap.get?_update_ne _ _ _ _ (hltD b hlt)]
  exact keep4 b o q
 by_cases h2:2 ≤ vs.length
 ·dsimp only
  have hn2:¬ vs.toArray.size < 2:=by rw [List.size_toArray]; exact Nat.not_lt.mpr ‹_›
  rw [if_neg hn2,if_neg hn2]
  have hat:∀ i,i < vs.length→RankAt H4 (vs.getD i Value.none) (rk i) (nm i):=fun i hi=>(hitem i hi).1.mono keep4
  obtain ⟨fs,tups,hfl,hf⟩:=Ro0 (h:=H4) vs fun v hv=>by
   obtain ⟨i,hi,hQ194⟩:=List.mem_iff_getElem.mp hv; subst hQ194
   have:=hat i hi
   rw [List.getD_eq_getElem?_getD,List.getElem?_eq_getElem hi] at this
   exact ⟨rk i,nm i,this⟩
  refine wB (kat_kind (T:=.type "tuple") tups (by lia) ?_ rfl ?_)
  ·intro v hv
   obtain ⟨pa,x,y,hQ195,t,u,n,sl,e⟩:=hf v hv; subst hQ195
   exact (Looks.ld e).andThen .now
  ·refine wB (wM (kat_run (ks:=vs) (Q:=fun st' s'=>∃ p:Array Nat,s' = { s with heap:=H4 }∧PP p vs.length∧Hk0 (fun i=>enc (rk i).1 (rk i).2) p vs.length∧(arrOf st').map (·.2) = (p.toList.map fun i=>vs.getD i Value.none).toArray∧failedOf st' = none) (G:=fun p s'=>s' = { s with heap:=H4 }∧PP p vs.length∧Hk0 (fun i=>enc (rk i).1 (rk i).2) p vs.length) rfl h2 h64 (fun p st' s' a1 a2 a3 a4=>⟨p,a4.1,a4.2.1,a4.2.2,kat_snds rfl a2,a3⟩) ?_) ?_ fun _ _ e=>e)
   rotate_left
   ·rintro ⟨⟨⟩,st'⟩ s' ⟨p,rfl,g1,g2,g3,g4⟩
    exact tail st' p g1 g2 g3 g4
   ·refine Ff1 (ans:=lt fun i=>enc (rk i).1 (rk i).2) (n:=vs.length) (fun i j C hi hj hC=>?_) _ (Hc1 hr h2) ⟨rfl,(Vg0 hr h2).1,(Vg0 hr h2).2⟩
    unfold kas_ask
    exact He1 hu (hat i hi) (hat j hj) (hitem i hi).2 (hitem j hj).2 (fun he=>by rw [hr i j hi hj he]) hC
 ·dsimp only
  have hn2:vs.toArray.size < 2:=by rw [List.size_toArray]; exact Nat.not_le.mp ‹_›
  rw [if_pos hn2,if_pos hn2]
  refine wB (wP ?_)
  refine wB ?_
  rw [StateT.run_pure]
  refine wP ?_
  have hzip:(arrOf (SortSt.mk' general' (vs.toArray.zip vs.toArray) #[] 7 none)).map (·.2) = vs.toArray:=by
   show (vs.toArray.zip vs.toArray).map (·.2) = _
   simp
   exact List.map_snd_zip (Nat.le_refl _)
  refine tail _ (List.range vs.length).toArray (Array.Perm.refl _) (fun i j hij hj=>by lia) ?_ rfl
  rw [hzip]
  rw [List.toList_toArray,hrng]
noncomputable abbrev RkN:=(Int × Int) × Str
noncomputable def Op0 (r:Int × Int):PyData:=.tuple [.int r.1,.int r.2]
noncomputable def Xe0 (q:RkN):PyData:=.tuple [Op0 q.1,.str q.2]
noncomputable def Hm0 (q:RkN):Int:=enc q.1.1 q.1.2
theorem Al1 {r:Int × Int} (k:∀ a o,g a = some o→h.get? a = some o) (p:Rd g v (Op0 r)):∃ a,v = .ref a∧PairAt h a r.1 r.2:=Gy1 k p
theorem Hf1 {q:RkN} (k:∀ a o,g a = some o→h.get? a = some o) (p:Rd g v (Xe0 q)):RankAt h v q.1 q.2:=by
 obtain ⟨a,vs,n,sl,hQ196,e,rr⟩:=p.tuple_inv; subst hQ196
 obtain ⟨vl⟩:=vs
 obtain ⟨_,_,q,p1,r1⟩:=RdAll.cons_inv (l:=vl) rr
 obtain ⟨_,_,hQ197,p2,r2⟩:=r1.cons_inv; subst hQ197
 obtain rfl:=r2.nil_inv
 obtain ⟨pa,hQ198,pp⟩:=Al1 k p1; subst hQ198
 obtain ⟨t,hQ199⟩:=p2.str_inv; subst hQ199
 subst q
 exact ⟨a,pa,t,n,sl,rfl,k _ _ e,pp⟩
theorem Km0 {α:Type} {f:α→Int}:∀ {l m:List α},l.Perm m→l.Pairwise (fun a b=>f a < f b)→m.Pairwise (fun a b=>f a < f b)→l = m
 | [],m,h,_,_=>(List.nil_perm.mp h).symm
 | a :: l,[],h,_,_=>absurd h.symm (by simp)
 | a :: l,b :: m,h,h1,h2=>by
  rw [List.pairwise_cons] at h1 h2
  have hab:a = b:=by
   rcases List.mem_cons.mp (h.mem_iff.mp (.head _):a ∈ b :: m) with q | q
   ·exact q
   ·rcases List.mem_cons.mp (h.mem_iff.mpr (.head _):b ∈ a :: l) with q' | q'
    ·exact q'.symm
    ·have:=h1.1 b q'; have:=h2.1 a q; lia
  subst hab
  rw [Km0 (List.Perm.cons_inv h) h1.2 h2.2]
section
theorem RdAll.getD {α:Type} {f:α→PyData} {qs:List α} {d:α} (r:RdAll g vs (qs.map f)) (i:Nat) (hi:i < qs.length):Rd g (vs.getD i Value.none) (f (qs.getD i d)):=by
 have e:(qs.map f)[i]? = some (f (qs.getD i d)):=by simp [List.getD,hi]
 obtain ⟨v,e1,e2⟩:=r.get i _ e
 rw [List.getD_eq_getElem?_getD,e1]; exact e2
theorem RdAll.ofAll {α:Type} {f:α→PyData} {h:Nat→Value} {k:Nat→α}:∀ (l:List Nat),(∀ i ∈ l,Rd g (h i) (f (k i)))→RdAll g (l.map h) ((l.map k).map f)
 | [],_=>.nil
 | i :: l,hl=>.cons (hl i (.head _)) (RdAll.ofAll l fun j hj=>hl j (.tail _ hj))
theorem Am1 {qs out:List RkN} (ok:CxOk c) (hf:Ev c ρ (.Name "sorted" np) fun _ v=>v = .builtin "sorted") (h:EvL c ρ e (qs.map Xe0)) (h64:qs.length < 64) (hb:∀ q ∈ qs,0 ≤ q.1.2∧q.1.2 < 1000)
  (hp:out.Perm qs) (ho:out.Pairwise fun a b=>Hm0 a < Hm0 b) (he:starEach [e] c.env = [(false,eval e c.env)]:=by rfl):EvD c ρ (.Call (.Name "sorted" np) [e] [] pos) (.list (out.map Xe0)) :=
 Bt0 ok hf (.inl ⟨_,rfl⟩) h (fun s v S p E=>by
  obtain ⟨la,hQ200,r⟩:=p; subst hQ200
  obtain ⟨vs,hl,r⟩:=r.isListL
  have hlen:vs.length = qs.length:=by have:=r.length; simpa using this
  have hu:=ok.units
  have hu':c.A.in1.in1.units + 8 < cLine:=by
   have:c.A.in1.in1.units ≤ c.A.units + 4:=by first | exact Nat.le_add_right _ _ | simp [Around.in1] | omega
   unfold cLine; lia
  let d0:RkN:=((0,0),Str.empty)
  have hmem:∀ i,i < vs.length→qs.getD i d0 ∈ qs:=fun i hi=>by
   rw [List.getD_eq_getElem?_getD,List.getElem?_eq_getElem (by simp_all)]; exact List.getElem_mem _
  have nd:qs.Nodup:=by
   refine hp.nodup_iff.mp ?_
   exact List.Pairwise.imp (fun hab q=>by rw [q] at hab; simp_all) ho
  have hinj:∀ a ∈ qs,∀ b ∈ qs,Hm0 a = Hm0 b→a = b:=fun a ha b hb' hab=>by
   obtain ⟨i,hi,hQ201⟩:=List.mem_iff_getElem.mp (hp.mem_iff.mpr ha); subst hQ201
   obtain ⟨j,hj,hQ202⟩:=List.mem_iff_getElem.mp (hp.mem_iff.mpr hb'); subst hQ202
   rcases Nat.lt_trichotomy i j with q | q | q
   ·have:=List.pairwise_iff_getElem.mp ho i j hi hj q; simp_all
   ·subst q; rfl
   ·have:=List.pairwise_iff_getElem.mp ho j i hj hi q; simp_all
  have hr:Xq0 (fun i=>enc (qs.getD i d0).1.1 (qs.getD i d0).1.2) vs.length:=fun i j hi hj hij=>by
   have:=hinj _ (hmem i hi) _ (hmem j hj) hij
   rw [List.getD_eq_getElem?_getD,List.getElem?_eq_getElem (by simp_all),List.getD_eq_getElem?_getD,List.getElem?_eq_getElem (by simp_all)] at this
   exact (List.getElem_inj nd).mp (by simpa using this)
  refine Rp0 (rk:=fun i=>(qs.getD i d0).1) (nm:=fun i=>(qs.getD i d0).2) hu' hl (by simp_all) hr (fun i hi=>⟨Hf1 (fun _ _ q=>Ah0 q) (RdAll.getD r i (by simp_all)),hb _ (hmem i hi)⟩) fun p D cc h' hp' hasc hk hD hg=>?_
  have kk:Kp c.fs s { s with heap:=h' }:=.of_all rfl rfl hk
  refine ⟨kk,?_⟩
  have hDX:D ∉ c.XX ρ:=fun q=>by
   obtain ⟨o,e',_⟩:=S.has D q
   exact absurd (Heap.lt_size e') (Nat.not_lt.mpr hD)
  have hps:=hp'.size
  have hlt:∀ i ∈ p.toList,i < vs.length:=fun i hi=>by
   have:=(Array.perm_iff_toList_perm.mp hp').mem_iff.mp hi
   simpa using this
  have hout:out = p.toList.map fun i=>qs.getD i d0:=by
   refine Km0 (f:=Hm0) (hp.trans ?_) ho ?_
   ·have h1:(p.toList.map fun i=>qs.getD i d0).Perm ((List.range vs.length).map fun i=>qs.getD i d0):=by
     have:=Array.perm_iff_toList_perm.mp hp'
     exact List.Perm.map _ (by simpa using this)
    refine List.Perm.trans ?_ h1.symm
    rw [hlen]
    have:((List.range qs.length).map fun i=>qs.getD i d0) = qs:=by
     apply List.ext_getElem
     ·simp
     ·intro i h1 h2; simp at h1 ⊢; simp [List.getElem?_eq_getElem h1]
    rw [this]
   ·rw [List.pairwise_iff_getElem]
    intro i j hi hj hij
    rw [List.length_map,Array.length_toList] at hi hj
    have:=hasc i j hij (by simp_all)
    simp only [ky,Array.getD_eq_getD_getElem?,Array.getElem?_eq_getElem hi,Array.getElem?_eq_getElem hj,Option.getD_some] at this
    simp only [List.getElem_map,Array.getElem_toList]
    exact this
  rw [hout]
  refine .list (Bf0 hg hDX) ?_
  refine RdAll.ofAll p.toList fun i hi=>?_
  exact (RdAll.getD r i (by have:=hlt i hi; simp_all)).step kk (Dy0 ok) (Ii0 ok)) he
end
section
variable {a:Expr}
theorem Hg1 {ps:List (Int × Int)} {r:Int × Int} (ok:CxOk c) (hl3:Nat.ble 3 c.lvl = true) (hf:Ev c ρ (.Name "max" np) fun _ v=>v = .builtin "max") (h:EvL c ρ e (ps.map Op0)) (hb:∀ q ∈ ps,0 ≤ q.2∧q.2 < 1000)
  (hm:r ∈ ps) (hx:∀ q ∈ ps,enc q.1 q.2 ≤ enc r.1 r.2) (he:starEach [e] c.env = [(false,eval e c.env)]:=by rfl):EvD c ρ (.Call (.Name "max" np) [e] [] pos) (Op0 r) :=
 Bt0 ok hf (.inl ⟨_,rfl⟩) h (fun s v S p E=>by
  obtain ⟨la,hQ203,rr⟩:=p; subst hQ203
  obtain ⟨vs,hl,rr⟩:=rr.isListL
  have hlen:vs.length = ps.length:=by have:=rr.length; simpa using this
  have hu:=ok.units
  have hu':c.A.in1.units < cLine:=by
   have:c.A.in1.units ≤ c.A.units + 4:=by first | exact Nat.le_add_right _ _ | simp | omega
   unfold cLine; lia
  have hpos:0 < ps.length:=List.length_pos_iff.mpr fun q=>by rw [q] at hm; cases hm
  have hget:∀ i,i < vs.length→ps.getD i (0,0) ∈ ps:=fun i hi=>by
   rw [List.getD_eq_getElem?_getD,List.getElem?_eq_getElem (by simp_all)]; exact List.getElem_mem _
  refine Af1 (ps:=fun i=>ps.getD i (0,0)) (ok.hand hl3) hu' hl (by simp; simp_all) (fun i v hv=>?_) fun v h' tk i hv hmax hk=>?_
  ·have hi:i < vs.length:=by have:=(Array.getElem?_eq_some_iff.mp hv).1; simpa using this
   have hr:=RdAll.getD (d:=((0:Int),(0:Int))) rr i (by simp_all)
   have e1:vs.getD i Value.none = v:=by
    rw [List.getD_eq_getElem?_getD]
    have:vs[i]? = some v:=by simpa using hv
    rw [this]; rfl
   rw [e1] at hr
   obtain ⟨pa,hQ204,pp⟩:=Al1 (h:=s.heap) (fun _ _ q=>Ah0 q) hr; subst hQ204
   exact ⟨pa,rfl,pp,hb _ (hget i hi)⟩
  ·have hi:i < vs.length:=by have:=(Array.getElem?_eq_some_iff.mp hv).1; simpa using this
   have kk:Kp c.fs s { s with heap:=h',toks:=tk }:=.of_all rfl rfl hk
   refine ⟨kk,?_⟩
   have hr:=RdAll.getD (d:=((0:Int),(0:Int))) rr i (by simp_all)
   have e1:vs.getD i Value.none = v:=by
    rw [List.getD_eq_getElem?_getD]
    have:vs[i]? = some v:=by simpa using hv
    rw [this]; rfl
   rw [e1] at hr
   have e2:ps.getD i (0,0) = r:=by
    obtain ⟨j,hj,hjr⟩:=List.mem_iff_getElem.mp hm
    have h1:=hmax j (by simp; simp_all)
    have h2:=hx _ (hget i hi)
    rw [List.getD_eq_getElem?_getD,List.getElem?_eq_getElem hj,Option.getD_some,hjr] at h1
    have h4:enc (ps.getD i (0,0)).1 (ps.getD i (0,0)).2 = enc r.1 r.2:=by lia
    have h3:=Hd1 (hb _ (hget i hi)) (hb _ hm) h4
    exact Prod.ext h3.1 h3.2
   rw [e2] at hr
   exact hr.step kk (Dy0 ok) (Ii0 ok)) he
theorem Dv1 (ok:CxOk c) (hf:Ev c ρ (.Name "list" np) fun _ v=>v = .type "list") (h:EvD c ρ e (.tuple ds)) (hsz:ds.length ≤ sizeLine) (he:starEach [e] c.env = [(false,eval e c.env)]:=by rfl):EvD c ρ (.Call (.Name "list" np) [e] [] pos) (.list ds) :=
 Bt0 ok hf (.inr ⟨_,rfl⟩) h (fun s v S p E=>by
  obtain ⟨la,vs,n,sl,hQ205,e1,r⟩:=p.tuple_inv; subst hQ205
  have hlen:=r.length
  simp only [Array.length_toList] at hlen
  refine call_list_seq (hsz:=by simp_all) la (.inr rfl) (Ah0 e1) rfl rfl fun h' c' hk hD=>?_
  have kk:Kp c.fs s { s with heap:=h' }:=.of_all rfl rfl hk
  exact ⟨kk,.list (Bf0 hD S.fresh) (r.step kk (Dy0 ok) (Ii0 ok))⟩) he
theorem Tx0 (h:StrsAre vs ys) (i:Nat) (hi:i < vs.length):∃ t,vs[i] = .str (ys.getD i Str.empty) t:=by
 induction h generalizing i with
 | nil=>simp at hi
 | cons x t h ih =>
  cases i with
  | zero=>exact ⟨t,rfl⟩
  | succ i=>exact ih i (by simpa using hi)
theorem An1 {j:Nat} (ok:CxOk c) (h1:EvL c ρ o (ys.map .str)) (h2:EvD c ρ a (.str x)) (hj:ys[j]? = some x) (hno:∀ i < j,ys[i]? ≠ some x) (hsz:ys.length ≤ 100000)
  (hbase:attributeBase o (oS "index") c.env (eval o c.env) = eval o c.env:=by rfl) (he:starEach [a] c.env = [(false,eval a c.env)]:=by rfl) (hline:(apos.endLine == pos.line) = true:=by rfl) :
  EvD c ρ (.Call (.Attribute o (oS "index") apos) [a] [] pos) (.int (j:Int)) :=
 Fr0 ok F.plainAttrs_list F.slot_list_index F.type_list_index h1 h2 (Ch1 ok _) (fun s v p=>by
  obtain ⟨la,hQ206,vs,n,sl,e,r⟩:=p; subst hQ206
  exact ⟨⟨_,e,rfl⟩,fun b q=>by cases q; exact ⟨_,e,rfl⟩⟩) (fun s v u S p q E=>by
  obtain ⟨la,hQ207,vs,n,sl,e,r⟩:=p; subst hQ207
  obtain ⟨t,hQ208⟩:=q.str_inv; subst hQ208
  have hlen:vs.size = ys.length:=by have:=r.length; simpa using this
  have hjl:=(List.getElem?_eq_some_iff.mp hj).1
  have hst:=r.strs
  have hat:∀ i (hi:i < vs.size),∃ t,vs[i] = .str (ys.getD i Str.empty) t:=fun i hi=>by
   have:=Tx0 hst i (by simpa using hi)
   simpa using this
  let f:Value→Bool:=fun y=>match y with | .str z _=>z == x | _=>false
  have hf:∀ y,y ∈ vs→MeetsSeq.EqGives y (.str x t) (f y):=fun y hy=>by
   obtain ⟨i,hi,hQ209⟩:=Array.mem_iff_getElem.mp hy; subst hQ209
   obtain ⟨t',e'⟩:=hat i hi
   rw [e']; exact eqGives_str _ _ _ _
  refine call_meets F.slot_list_index ⟨_,e,rfl⟩ F.entry_list_index (F.args_list_index_2 _ _) (SeqAt.list_indexAt la vs n none sl (.str x t) f j (by simp_all) (by lia) ?_ fun i hi hij=>?_) ⟨e,fun y hy=>(hf y hy).at _ _,⟨.toks _ _,.int _ _⟩⟩
  ·obtain ⟨t',e'⟩:=hat j (by simp_all)
   rw [e']
   show (ys.getD j Str.empty == x) = true
   rw [List.getD_eq_getElem?_getD,hj]; simp
  ·obtain ⟨t',e'⟩:=hat i hi
   rw [e']
   show (ys.getD i Str.empty == x) = false
   have:=hno i hij
   rw [List.getElem?_eq_getElem (by exact Nat.lt_trans ‹_› ‹_›)] at this
   rw [List.getD_eq_getElem?_getD,List.getElem?_eq_getElem (by exact Nat.lt_trans ‹_› ‹_›)]
   simpa using this
  ) hbase he hline
end
theorem Mx0:typeLookup (.type "list") (dunderI "add") = pure (some (.builtin "list.__iadd__")):=F.slot_list_iadd.lookup
theorem Rq0 {Q:Value→Shared→Prop} (ha:s.TypeIs (.ref a) "list") (hb:s.TypeIs (.ref b) "list") (hc:wpAny (MM w) A (call (.builtin "list.__iadd__") [.ref a,.ref b]) Q E s):wpAny (MM w) A (inplaceOp .Add (.ref a) (.ref b)) Q E s:=by
 unfold inplaceOp
 refine wpAny_holding ?_
 have hfi:fillsInplaceSlot (.type "list") "add" (Operator.Add == .Add) = pure false:=by
  unfold fillsInplaceSlot
  show (typeLookup (.type "list") (dunderI "add") >>= fun fi=>pure (fi.isSome && !isSeqSlot fi)) = pure false
  rw [Mx0]
  show (pure ((some (Value.builtin "list.__iadd__")).isSome && !isSeqSlot (some (.builtin "list.__iadd__"))):Sem Bool) = pure false
  rw [show ((some (Value.builtin "list.__iadd__")).isSome && !isSeqSlot (some (.builtin "list.__iadd__"))) = false from by decide +kernel]
 have hsi:seqSlot? (.type "list") (dunderI "add") = pure (some (.builtin "list.__iadd__")):=PySem.seqSlot_of Mx0 (by decide +kernel)
 refine wB (wpAny_typeOf ha (wB (wpAny_of_eq hfi ?_)))
 show wpAny _ A (if false = true then _ else _) Q E s
 rw [if_neg Bool.false_ne_true]
 refine wB (wpAny_binaryOp1_none (nm := "add") ha hb noFill_list_add ?_)
 refine wB (wpAny_of_eq hsi ?_)
 exact wB (wpAny_rule hc)
theorem St.reown {es:List PyData} (S:St c ((x,.raw (.ref a)) :: (x,.own a es) :: ρ) s) (hl:LsAt (fz (c.XX ((x,.own a es) :: ρ)) s.heap) s.heap a es) (ht:a ≠ tA):St c ((x,.own a es) :: ρ) s:=by
 have key:∀ y sl,y ≠ x→((x,Slot.own a es) :: ρ).lookup y = some sl→((x,Slot.raw (.ref a)) :: (x,Slot.own a es) :: ρ).lookup y = some sl:=fun y sl hy e=>by
  rw [List.lookup_cons]
  have:(y == x) = false:=by simpa using hy
  rw [this]; exact e
 have hself:∀ y sl,((x,Slot.own a es) :: ρ).lookup y = some sl→y = x→sl = .own a es:=fun y sl e hy=>by
  subst hy; rw [List.lookup_cons] at e; simp at e; exact e.symm
 refine ⟨S.since,S.toks,S.frs,S.ns,S.cell,fun y d e=>?_,S.has,fun y b dd e=>?_,fun y v e=>?_,S.pin,S.pinx⟩
 ·by_cases hy:y = x
  ·have:=hself y _ e hy; cases this
  ·exact S.loc y d (key y _ hy e)
 ·by_cases hy:y = x
  ·have:=hself y _ e hy; cases this
   subst hy
   exact ⟨S.raw y _ (by rw [List.lookup_cons]; simp),hl,ht⟩
  ·exact S.own y b dd (key y _ hy e)
 ·by_cases hy:y = x
  ·have:=hself y _ e hy; cases this
  ·exact S.raw y v (key y _ hy e)
theorem Ao1 {es:List PyData} (ok:CxOk c) (S:St c ρ s)
  (hl:ρ.lookup x = some (.own a ds)) (h:EvD c ρ e (.list es)) (hn:c.s0.heap.get? a = none) (hal:∀ y b es,y ≠ x→ρ.lookup y = some (.own b es)→b ≠ a) (hsz:ds.length + es.length ≤ sizeLine)
  (hx:c.env.kindOf x = some .local ∨ (c.env.kindOf x = some .cell∧(c.env.cells.lookup x).isSome = true∧c.cn.contains x = true)) (hcd:(x == ("__classdict__" : Str)) = false)
  (hr:∀ s',St c ((x,.own a (ds ++ es)) :: ρ) s'→wpAny (MM c.w) c.A (execs rest c.env) Q E s') :
  wpAny (MM c.w) c.A (execs (.AugAssign (.Name x pos') .Add e pos :: rest) c.env) Q E s:=by
 refine wC (wpAny_AugAssign_Name ?_)
 have y:=(S.own x a ds hl).1
 have key:wpAny (MM c.w) c.A (eval e c.env) (fun u s2=>wpAny (MM c.w) c.A (inplaceOp .Add (.ref a) u) (fun r s3=>wpAny (MM c.w) c.A (storeName c.env x r) (fun _ s'=>wpAny (MM c.w) c.A (execs rest c.env) Q E s') E s3) E s2) E s:=by
  refine Ad0 ok h S (.refl _ _) fun u s2 S2 k2 _ p2=>?_
  obtain ⟨_,⟨vs,n,sl,e2,r2⟩,ht⟩:=S2.own x a ds hl
  obtain ⟨b,vs',n',sl',hQ210,e3,r3⟩:=p2.list_inv; subst hQ210
  have hl2:=r2.length; have hl3:=r3.length
  simp only [Array.length_toList] at hl2 hl3
  refine Rq0 ⟨_,e2,rfl⟩ ⟨_,Ah0 e3,rfl⟩ ?_
  refine wpAny_call_entry F.slot_list_iadd ⟨_,e2,rfl⟩ F.entry_list_iadd ?_ (F.args_list_iadd_2 _ _)
  show wpAny _ _ (Builtin.List.listExtendWith (.ref a) (.ref b) (.ref a)) _ _ s2
  unfold Builtin.List.listExtendWith
  refine wB (wpAny_typeOf ⟨_,Ah0 e3,rfl⟩ ?_)
  have h1:(Builtin.List.listSameRef (.ref a) (.ref b) || Value.type "list" == Value.type "list" || Value.type "list" == Value.type "tuple") = true:=by simp
  simp only [h1,if_true]
  refine wB (listItems_at (Ah0 e3) rfl (wB (listItems_at e2 rfl ?_)))
  rw [if_neg (extend_door (by simp_all))]
  refine wB (listUpdate_at e2 rfl ?_ (by lia) (by rw [Array.size_append]; lia))
  refine wP ⟨_,rfl,?_⟩
  obtain ⟨c2,hc2⟩:∃ c2,(s2.heap.update a (Obj.mapSeq fun x=>x ++ vs')).get? a = some ⟨.type "list",none,.seq (vs ++ vs') c2,sl⟩:=⟨_,Heap.get?_update_self _ e2 rfl⟩
  have hsb:Heap.SameBut a s2.heap (s2.heap.update a (Obj.mapSeq fun x=>x ++ vs')):=Heap.SameBut.update ..
  have S3:=S2.grown (tk:=s2.toks) ok hl hn hal hsb hc2 (es:=ds ++ es) (by rw [Array.toList_append]; exact r2.append r3) S2.toks
  refine S3.storeS ok hx hcd (.inr rfl) fun s4 S4 nd _=>hr s4 (S4.reown ?_ ht)
  obtain ⟨_,⟨ws,n4,sl4,e4,r4⟩,_⟩:=S3.own x a (ds ++ es) (by rw [List.lookup_cons]; simp)
  exact ⟨ws,n4,sl4,nd _ _ e4 (by intro _ _ h; cases h) (by intro _ h; cases h) ht,nd.rdAll (Ii0 ok) r4⟩
 rcases y with ⟨a,m,n,e⟩ | ⟨a,a',cc,e,n⟩
 ·exact wpAny_loadName_local ok.kind a n e key
 ·rcases a with a | a
  ·exact wpAny_loadName_cell ok.kind a e n key
  ·exact wpAny_loadName_free ok.kind a e n key a'
noncomputable def An0 (s:List Str) (n:Str):List Str:=if s.any (· == n) then s else s ++ [n]
noncomputable def Af0 (rows:Bz0):List Str:=rows.foldl (fun s r=>(r.1 :: r.2).foldl An0 s) []
noncomputable def Ba0 (rows:Bz0) (name:Str):List (Str × Nat):=(List.range rows.length).flatMap fun k=>match rows[k]? with | some r=>if r.1 == name then r.2.map fun n=>(n,k) else [] | none=>[]
noncomputable def Pf0 (D:List Str) (n:Str):Nat:=D.idxOf n
noncomputable def Ne1 (rows:Bz0) (D:List Str) (number:Nat) (name:Str):List (Int × Int):=(-1,(number:Int)) :: (Ba0 rows name).map fun q=>((Pf0 D q.1:Int),(q.2:Int))
noncomputable def Xr0 (a:Int × Int) (l:List (Int × Int)):Int × Int:=l.foldl (fun a b=>if enc a.1 a.2 < enc b.1 b.2 then b else a) a
noncomputable def Ed0 (rows:Bz0) (D:List Str) (number:Nat) (name:Str):Int × Int:=Xr0 (-1,(number:Int)) ((Ba0 rows name).map fun q=>((Pf0 D q.1:Int),(q.2:Int)))
noncomputable def Kn0 (rows:Bz0) (D:List Str) (name:Str):Bool:=!(D.any (· == name)) && ((Ba0 rows name).filter fun q=>!(D.any (· == q.1))).isEmpty
noncomputable def Gm0 (rows:Bz0) (D:List Str):Nat→List RkN
 | 0=>[]
 | n + 1=>Gm0 rows D n ++ match (Af0 rows)[n]? with | some name=>if Kn0 rows D name then [(Ed0 rows D n name,name)] else [] | none=>[]
structure PlanStep (rows:Bz0) (D grp:List Str):Prop where
 mk ::
 out:∃ out:List RkN,out.map (·.2) = grp∧out.Perm (Gm0 rows D (Af0 rows).length)∧out.Pairwise fun a b=>Hm0 a < Hm0 b
noncomputable def Dn (G:Nat→List Str) (t:Nat):List Str:=(List.range t).flatMap G
noncomputable def Lw0:Nat→(Nat→List Str)→List (List Str)
 | 0,_=>[]
 | n + 1,G=>G 0 :: if G 0 = [] then [] else Lw0 n fun j=>G (j + 1)
theorem My0:∀ n G,(∀ j < n,G j ≠ [])→Lw0 n G = (List.range n).map G
 | 0,_,_=>rfl
 | n + 1,G,h=>by
  rw [Cr0]
  show G 0 :: (if G 0 = [] then [] else Lw0 n _) = G 0 :: _
  rw [if_neg (h 0 (Nat.succ_pos _)),My0 n _ fun j hj=>h (j + 1) (by exact Nat.succ_lt_succ ‹_›)]
theorem Mz0:∀ i n G,i < n→(∀ j < i,G j ≠ [])→G i = []→Lw0 n G = (List.range (i + 1)).map G
 | _,0,_,h,_,_=>by exact absurd ‹_› (Nat.not_lt_zero _)
 | 0,n + 1,G,_,_,h0=>by
  show G 0 :: (if G 0 = [] then [] else Lw0 n _) = [G 0]
  rw [if_pos h0]
 | i + 1,n + 1,G,hi,h,h0=>by
  rw [Cr0]
  show G 0 :: (if G 0 = [] then [] else Lw0 n _) = G 0 :: _
  rw [if_neg (h 0 (Nat.succ_pos _)),Mz0 i n _ (by exact Nat.lt_of_succ_lt_succ ‹_›) (fun j hj=>h (j + 1) (by exact Nat.lt_succ_of_le ‹_›)) h0]
theorem Ap1:∀ n S,Ts0 n S = Lw0 n fun j=>(stN S j).2
 | 0,_=>rfl
 | n + 1,S=>by
  show S.2 :: (if S.2 = [] then [] else Ts0 n (nxt S)) = S.2 :: (if S.2 = [] then [] else Lw0 n fun j=>(stN S (j + 1)).2)
  rw [Ap1 n (nxt S)]
  simp only [Fl0]
theorem Hn0:∀ (l:List (Int × Int)) (a:Int × Int),Xr0 a l ∈ a :: l∧∀ q ∈ a :: l,enc q.1 q.2 ≤ enc (Xr0 a l).1 (Xr0 a l).2
 | [],a=>⟨.head _,fun q hq=>by rw [List.mem_singleton.mp hq]; exact Int.le_refl _⟩
 | b :: l,a=>by
  have key:Xr0 a (b :: l) = Xr0 (if enc a.1 a.2 < enc b.1 b.2 then b else a) l:=rfl
  rw [key]
  obtain ⟨h1,h2⟩:=Hn0 l (if enc a.1 a.2 < enc b.1 b.2 then b else a)
  have h0:=h2 _ (.head _)
  generalize Xr0 (if enc a.1 a.2 < enc b.1 b.2 then b else a) l = m at *
  refine ⟨?_,fun q hq=>?_⟩
  ·rcases List.mem_cons.mp h1 with h | h
   ·rw [h]; split <;> simp
   ·exact .tail _ (.tail _ h)
  ·rcases List.mem_cons.mp hq with h | hq
   ·subst h; split at h0 <;> (first | (first | assumption | lia) | omega)
   ·rcases List.mem_cons.mp hq with h | h
    ·subst h; split at h0 <;> (first | (first | assumption | lia) | omega)
    ·exact h2 q (.tail _ h)
theorem Ko0 {rows:Bz0} {D:List Str}:∀ n q,q ∈ Gm0 rows D n→∃ i,i < n∧(Af0 rows)[i]? = some q.2∧Kn0 rows D q.2 = true∧q.1 = Ed0 rows D i q.2
 | 0,q,h=>by cases h
 | n + 1,q,h=>by
  unfold Gm0 at h
  rcases List.mem_append.mp h with h | h
  ·obtain ⟨i,hi,h⟩:=Ko0 n q h; exact ⟨i,by exact Nat.lt_succ_of_lt ‹_›,h⟩
  ·split at h
   ·rename_i name hn
    split at h
    ·rename_i hb
     have:=List.mem_singleton.mp h
     subst this
     exact ⟨n,Nat.lt_succ_self _,hn,hb,rfl⟩
    ·cases h
   ·cases h
theorem Fn0 {rows:Bz0} {D:List Str}:∀ n,(Gm0 rows D n).length ≤ n
 | 0=>Nat.le_refl _
 | n + 1=>by
  have:=Fn0 (rows:=rows) (D:=D) n
  unfold Gm0
  rw [List.length_append]
  split
  ·split <;> simp <;> (first | exact Nat.le_succ_of_le ‹_› | omega)
  ·simp; exact Nat.le_succ_of_le ‹_›
theorem Dw1 {rows:Bz0} {D:List Str} {i:Nat} (hi:i < 1000) (hn:∀ q ∈ Ba0 rows name,q.2 < 1000):0 ≤ (Ed0 rows D i name).2∧(Ed0 rows D i name).2 < 1000:=by
 obtain ⟨h,_⟩:=Hn0 ((Ba0 rows name).map fun q=>((Pf0 D q.1:Int),(q.2:Int))) (-1,(i:Int))
 rcases List.mem_cons.mp h with h | h
 ·show 0 ≤ (Xr0 _ _).2∧(Xr0 _ _).2 < 1000
  rw [h]; exact ⟨by simp,by show (i:Int) < 1000; exact Int.ofNat_lt.mpr ‹_›⟩
 ·obtain ⟨q,hq,e⟩:=List.mem_map.mp h
  have:=hn q hq
  show 0 ≤ (Xr0 _ _).2∧(Xr0 _ _).2 < 1000
  rw [← e]
  exact ⟨by simp,by show (q.2:Int) < 1000; exact Int.ofNat_lt.mpr ‹_›⟩
theorem Vh0 {rows:Bz0}:∀ q ∈ Ba0 rows name,q.2 < rows.length:=fun q hq=>by
 obtain ⟨k,hk,h⟩:=List.mem_flatMap.mp hq
 have hk:=List.mem_range.mp hk
 split at h
 ·split at h
  ·obtain ⟨n,_,e⟩:=List.mem_map.mp h
   rw [← e]; exact hk
  ·cases h
 ·cases h
noncomputable def Kp0 (q:Str × Nat):PyData:=.tuple [.str q.1,.int (q.2:Int)]
theorem Na0 {D:Addr} {m:Sem Unit} {r:Option (List PyData)} (ok:CxOk c) (hx:Hc0 c x) (hn:ρ.lookup x = none)
  (ht:EvBs c ((x,.val d) :: ρ) ifs r.isSome) (he:∀ es,r = some es→Dq1 c ((x,.val d) :: ρ) D m es) (hcd:(x == ("__classdict__" : Str)) = false:=by rfl):Dr1 c ρ D (.Name x pos) ifs m d r :=
 have key:∀ (y:Str) (sl:Slot),List.lookup y [(x,Slot.val d)] = some sl→ρ.lookup y = none:=by
  intro y sl h
  rw [List.lookup_cons] at h
  cases q:y == x with
  | true=>rw [eq_of_beq q]; exact hn
  | false=>rw [q] at h; cases h
 ⟨[(x,.val d)],rfl,key,Iv0 ok hx hcd,ht,he⟩
theorem DOk.more {D:Addr} (h:DOk c ρ D):DOk c ((x,.val d) :: ρ) D:=⟨h.x,h.new,h.own,h.tab⟩
theorem Ie0 (s:List Str) (n:Str):s.length ≤ (An0 s n).length∧(An0 s n).length ≤ s.length + 1:=by
 unfold An0; split <;> simp
theorem Di0:∀ (l s:List Str),s.length ≤ (l.foldl An0 s).length
 | [],_=>Nat.le_refl _
 | n :: l,s=>Nat.le_trans (Ie0 s n).1 (Di0 l _)
noncomputable def Aw0 (s:List Str) (r:Str × List Str):List Str:=(r.1 :: r.2).foldl An0 s
theorem Eu0:∀ (rows:Bz0) (s:List Str),s.length ≤ (rows.foldl Aw0 s).length
 | [],_=>Nat.le_refl _
 | r :: rows,s=>Nat.le_trans (Di0 _ s) (Eu0 rows _)
theorem Vi0 {α β:Type} (f:α→β):∀ l:List α,(l.flatMap fun n=>(some [f n]:Option (List β)).getD []) = l.map f
 | []=>rfl
 | n :: l=>by rw [List.flatMap_cons,Vi0 f l]; rfl
noncomputable def Aq1 (rows:Bz0) (name:Str) (d:PyData):Option (List PyData):=match d with
 | .int k=>match rows[k.toNat]? with | some r=>if r.1 == name then some (r.2.map fun n=>Kp0 (n,k.toNat)) else none | none=>none
 | _=>none
theorem Xf0 {s:List Str} {n:Str} (h:y ∈ An0 s n):y ∈ s ∨ y = n:=by
 unfold An0 at h; split at h
 ·exact .inl h
 ·rcases List.mem_append.mp h with q | q
  ·exact .inl q
  ·exact .inr (List.mem_singleton.mp q)
theorem Kq0:∀ (l s:List Str) {y:Str},y ∈ l.foldl An0 s→y ∈ s ∨ y ∈ l
 | [],_,_,h=>.inl h
 | n :: l,s,y,h=>by
  rcases Kq0 l _ h with q | q
  ·rcases Xf0 q with q | q
   ·exact .inl q
   ·exact .inr (q ▸ .head _)
  ·exact .inr (.tail _ q)
theorem Rr0:∀ (rows:Bz0) (s:List Str) {y:Str},y ∈ rows.foldl Aw0 s→y ∈ s ∨ ∃ r ∈ rows,y ∈ r.1 :: r.2
 | [],_,_,h=>.inl h
 | r :: rows,s,y,h=>by
  rcases Rr0 rows _ h with q | ⟨r',q,q'⟩
  ·rcases Kq0 _ _ q with q | q
   ·exact .inl q
   ·exact .inr ⟨r,.head _,q⟩
  ·exact .inr ⟨r',.tail _ q,q'⟩
theorem Dx1 {rows:Bz0} (h:y ∈ Af0 rows):∃ r ∈ rows,y ∈ r.1 :: r.2:=by
 rcases Rr0 rows [] h with q | q
 ·cases q
 ·exact q
theorem Ar1 {rows:Bz0} {q:Str × Nat} (h:q ∈ Ba0 rows name):∃ r,rows[q.2]? = some r∧r.1 = name∧q.1 ∈ r.2:=by
 obtain ⟨k,hk,h⟩:=List.mem_flatMap.mp h
 split at h
 ·rename_i r hr
  split at h
  ·rename_i hn
   obtain ⟨n,hm,e⟩:=List.mem_map.mp h
   rw [← e]
   exact ⟨r,hr,by simpa using hn,hm⟩
  ·cases h
 ·cases h
noncomputable def As1 (D:List Str) (d:PyData):Option PyData:=match d with | .tuple [.str n,.int _]=>if !(D.any (· == n)) then some (PyData.str n) else none | _=>none
theorem Kr0 (D:List Str) (q:Str × Nat):As1 D (Kp0 q) = if !(D.any (· == q.1)) then some (PyData.str q.1) else none:=rfl
theorem Ty0 (D:List Str) (q:Str × Nat):(As1 D (Kp0 q)).isSome = !(D.any (· == q.1)):=by
 rw [Kr0]; cases !(D.any (· == q.1)) <;> rfl
theorem Ks0 (D:List Str):∀ l:List (Str × Nat),(l.map Kp0).filterMap (As1 D) = ((l.filter fun q=>!(D.any (· == q.1))).map (·.1)).map .str
 | []=>rfl
 | q :: l=>by
  rw [List.map_cons,List.filterMap_cons,List.filter_cons,Kr0]
  have ih:=Ks0 D l
  cases hc:!(D.any (· == q.1)) with
  | true=>simp only [if_true,List.map_cons]; rw [ih]
  | false=>simp only [Bool.false_eq_true,if_false]; exact ih
noncomputable def Jt1 (D:List Str) (d:PyData):Option PyData:=match d with | .tuple [.str n,.int k]=>some (Op0 ((Pf0 D n:Int),k)) | _=>none
theorem Vj0 (D:List Str) (q:Str × Nat):Jt1 D (Kp0 q) = some (Op0 ((Pf0 D q.1:Int),(q.2:Int))):=rfl
theorem Nb0 (D:List Str):∀ l:List (Str × Nat),(l.map Kp0).filterMap (Jt1 D) = (l.map fun q=>((Pf0 D q.1:Int),(q.2:Int))).map Op0
 | []=>rfl
 | q :: l=>by
  rw [List.map_cons,List.filterMap_cons,Vj0]
  simp only [List.map_cons]
  rw [Nb0 D l]
noncomputable def Lx1 (d:PyData):Option PyData:=match d with | .tuple [_,.str n]=>some (.str n) | _=>none
theorem Oq0 (G:Nat→List Str) (t:Nat):Dn G (t + 1) = Dn G t ++ G t:=by
 unfold Dn; rw [List.range_succ,List.flatMap_append]; simp
theorem Fh1 {G:Nat→List Str} {m:Nat}:∀ t,(∀ j < t,(G j).length ≤ m)→(Dn G t).length ≤ t * m
 | 0,_=>by simp [Dn]
 | t + 1,h=>by
  rw [Oq0,List.length_append,Nat.add_mul,Nat.one_mul]
  have:=Fh1 t fun j hj=>h j (by exact Nat.lt_succ_of_lt ‹_›)
  have:=h t (by exact Nat.le_refl _)
  exact Kz1 ‹_› ‹_›
theorem Dy1 {D:List Str} {n:Str} (h:n ∈ D):D[Pf0 D n]? = some n∧∀ i < Pf0 D n,D[i]? ≠ some n:=by
 have hlt:D.idxOf n < D.length:=List.idxOf_lt_length_iff.mpr h
 refine ⟨?_,fun i hi e=>?_⟩
 ·show D[D.idxOf n]? = some n
  rw [List.getElem?_eq_getElem hlt,List.getElem_idxOf]
 ·have hi':i < D.idxOf n:=hi
  have hil:i < D.length:=by exact Nat.lt_trans ‹_› ‹_›
  rw [List.getElem?_eq_getElem hil] at e
  have:=List.not_of_lt_findIdx (p:=fun x=>x == n) (xs:=D) (i:=i) (by simpa [List.idxOf] using hi')
  simp at e this
  exact this e
theorem Hh1 (w:World) (rows:Bz0) (G:Nat→List Str) (hrl:rows.length ≤ 900) (hr2:∀ r ∈ rows,r.2.length ≤ 900) (hsn:(Af0 rows).length < 60) (hnl:∀ name,(Ba0 rows name).length ≤ 900) (hasc:∀ r ∈ rows,∀ y ∈ r.1 :: r.2,Asc y)
  (hG:∀ t,t ≤ (Af0 rows).length→(∀ j < t,G j ≠ [])→PlanStep rows (Dn G t) (G t)):FnD w 6 263 [.list (rows.map Li0)] (.list ((Lw0 ((Af0 rows).length + 1) G).map Cg0)):=by
 refine Cp0 (ps:=[oS "rows"]) (by rfl) (by rfl) rfl (fun s vs hv=>?_) (by decide) (by rfl) (by decide) (by rfl) ?_
 ·obtain ⟨v,hQ211⟩:=Cg1 hv; subst hQ211
  exact BindsTo.of_eq rfl
 intro A X X0 fs fs0 s0 L s1 c ok S E
 have hrD:∀ i r,rows[i]? = some r→(rows.map Li0)[i]? = some (Li0 r):=fun i r h=>by rw [List.getElem?_map,h]; rfl
 refine Mg0 (ds:=[]) ok S Ac0 (by decide) (.inl rfl) rfl fun a s2 ha1 ha2 _ S2=>?_
 let ρs:Nat→Rho:=fun i=>[(oS "seen",.own a ((Af0 (rows.take i)).map .str)),(oS "rows",.val (.list (rows.map Li0)))]
 have hseenle:∀ i,(Af0 (rows.take i)).length ≤ (Af0 rows).length:=fun i=>by
  have:=Eu0 (rows.drop i) (Af0 (rows.take i))
  have e:(rows.drop i).foldl Aw0 (Af0 (rows.take i)) = Af0 rows:=by
   show List.foldl Aw0 (List.foldl Aw0 [] (rows.take i)) (rows.drop i) = List.foldl Aw0 [] rows
   rw [← List.foldl_append,List.take_append_drop]
  rw [e] at this; exact this
 refine Wu0 (f:=Li0) (ρs:=ρs) (ρb:=[]) (fun _=>True) False ok S2 (Fc0 ok (Aa0 ok rfl)) trivial (.inl rfl) ?_ ?_ (fun _ h=>h.elim)
 ·intro i r pins s' hr ok' _ S' E'
  have hrm:=List.mem_of_getElem? hr
  have hi:i < rows.length:=(List.getElem?_eq_some_iff.mp hr).1
  have hstep:Af0 (rows.take (i + 1)) = Aw0 (Af0 (rows.take i)) r:=by
   show List.foldl Aw0 [] _ = Aw0 (List.foldl Aw0 [] _) r
   rw [List.take_add_one,hr,List.foldl_append]; rfl
  have hle:(Aw0 (Af0 (rows.take i)) r).length ≤ 60:=by rw [← hstep]; have:=hseenle (i + 1); exact Nat.le_of_lt (Nat.lt_of_le_of_lt ‹_› ‹_›)
  let fo:Nat→List Str:=fun j=>((r.1 :: r.2).take j).foldl An0 (Af0 (rows.take i))
  let ρi:Nat→Rho:=fun j=>[(oS "seen",.own a ((fo j).map .str)),(oS "row",.val (Li0 r)),(oS "rows",.val (.list (rows.map Li0)))]
  have hfo:∀ j,(fo j).length ≤ 60:=fun j=>by
   have h1:=Di0 ((r.1 :: r.2).drop j) (fo j)
   have e:((r.1 :: r.2).drop j).foldl An0 (fo j) = Aw0 (Af0 (rows.take i)) r:=by
    show List.foldl An0 (List.foldl An0 _ ((r.1 :: r.2).take j)) ((r.1 :: r.2).drop j) = List.foldl An0 _ (r.1 :: r.2)
    rw [← List.foldl_append,List.take_append_drop]
   rw [e] at h1; exact Nat.le_trans ‹_› ‹_›
  have S'':=S'.drop (ρ':=ρi 0) (.cons rfl (.cons rfl (.cons rfl .nil)))
  refine Wu0 (f:=PyData.str) (ys:=r.1 :: r.2) (ρs:=ρi) (ρb:=[]) (fun _=>True) False ok' S'' (Fc0 ok' (Aa0 ok' rfl)) trivial (.inl rfl) ?_ ?_ (fun _ h=>h.elim)
  ·intro j n pins' s4 hn ok2 _ S4 E4
   have hj:j < (r.1 :: r.2).length:=(List.getElem?_eq_some_iff.mp hn).1
   have hst:fo (j + 1) = An0 (fo j) n:=by
    show List.foldl An0 _ ((r.1 :: r.2).take (j + 1)) = An0 (List.foldl An0 _ ((r.1 :: r.2).take j)) n
    rw [List.take_add_one,hn,List.foldl_append]; rfl
   have hl1:=hfo j
   refine Em0 (b:=!((fo j).any (· == n))) ok2 S4 (Aq0 ok2 (Aa0 ok2 rfl) (Dz0 ok2 rfl) (Bq0 ok2 _) Cx0) ?_ ?_
   ·intro q s5 S5
    refine Ff0 ok2 S5 rfl (Aa0 ok2 rfl) ha1 ?_ (by simp; unfold sizeLine; exact Nat.le_trans ‹_› (by decide)) fun s6 S6=>wN (wN ?_)
    ·intro y bb es hy hl
     have:=Ag0 hl
     simp [ρi] at this
     exact absurd this.1 hy
    ·have e2:fo (j + 1) = fo j ++ [n]:=by rw [hst]; unfold An0; rw [if_neg (by rw [Bool.not_eq_true'] at q; rw [q]; decide)]
     refine ⟨S6.drop (.cons ?_ (.cons rfl (.cons rfl .nil))),trivial⟩
     rw [e2,List.map_append]; rfl
   ·intro q s5 S5
    have e2:fo (j + 1) = fo j:=by rw [hst]; unfold An0; rw [if_pos (by simpa using q)]
    refine wN (wN ?_)
    refine ⟨S5.drop (.cons ?_ (.cons rfl (.cons rfl .nil))),trivial⟩
    rw [e2]; rfl
  ·intro s4 _ S4
   refine wN ⟨S4.drop (.cons ?_ (.cons rfl .nil)),trivial⟩
   rw [hstep]
   have:fo (r.1 :: r.2).length = Aw0 (Af0 (rows.take i)) r:=by
    show List.foldl An0 _ _ = List.foldl An0 _ _
    rw [List.take_length]
   rw [← this]; rfl
 ·intro s3 _ S3
  have S3':=S3.drop (ρ':=[(oS "seen",.own a ((Af0 rows).map .str)),(oS "rows",.val (.list (rows.map Li0)))]) (.cons (by simp only [ρs,List.take_length]; rfl) (.cons rfl .nil))
  let nD:Str→PyData:=fun name=>.list ((Ba0 rows name).map Kp0)
  refine Ut0 (h:=nD) (ρ':=[(oS "rows",.val (.list (rows.map Li0)))]) ok S3' rfl rfl rfl
   (Bl0 ok (Dz0 ok rfl)) (by unfold sizeLine; exact Nat.le_of_lt (Nat.lt_of_lt_of_le ‹_› (by decide))) rfl (.cons rfl (.inl rfl) rfl rfl rfl rfl .nil) (by decide) rfl (fun _ _ _=>.inr ⟨rfl,rfl,rfl⟩) rfl (fun C X s4 ok2 name hname=>?_) ?_
  ·have hmap:(Ba0 rows name).map Kp0 = (Cd1 rows.length).flatMap fun d=>(Aq1 rows name d).getD []:=by
    unfold Ba0 Cd1
    rw [List.map_flatMap,List.flatMap_map]
    refine congrArg (fun f=>List.flatMap f (List.range rows.length)) (funext fun k=>?_)
    unfold Aq1
    simp only [Int.toNat_natCast]
    cases rows[k]? with
    | none=>rfl
    | some r =>
     dsimp only
     split
     ·simp [List.map_map,Function.comp_def]
     ·rfl
   show EvD _ _ _ (.list ((Ba0 rows name).map Kp0))
   rw [hmap]
   refine Ds1 (ds:=Cd1 rows.length) (g:=Aq1 rows name) (ρ':=[(oS "name",.val (.str name)),(oS "rows",.val (.list (rows.map Li0)))]) ok2
    (Bw0 ok2 (Dq0 ok2 rfl) ((Ea0 ok2 (Cy0 ok2 rfl) (EvD.toL (Aa0 ok2 rfl)) (by rw [List.length_map]; exact Nat.lt_of_le_of_lt ‹_› (by decide))).castD (by rw [List.length_map])) (by exact Nat.lt_of_le_of_lt ‹_› (by decide))) ?_ rfl
    (.cons rfl (.inl rfl) rfl rfl rfl rfl (.cons rfl (.inl rfl) rfl rfl rfl rfl .nil)) (by decide) rfl ?_
   ·rw [← hmap,List.length_map]; have:=hnl name; unfold sizeLine; exact Nat.le_trans ‹_› (by decide)
   ·intro C X s1 D pins ok3 dk i d hd
    obtain ⟨k,hk,hQ212⟩:=Cz1 hd; subst hQ212
    have hrk:rows[k]? = some rows[k]:=List.getElem?_eq_getElem hk
    have hrm:=List.mem_of_getElem? hrk
    generalize rows[k] = r at hrk hrm
    have hk2:((k:Int).toNat:Nat) = k:=by rfl
    have hr2':=hr2 r hrm
    have hrow:∀ p1 p2 p3,EvD _ ((oS "k",.val (.int (k:Int))) :: [(oS "name",.val (.str name)),(oS "rows",.val (.list (rows.map Li0)))]) (.Subscript (.Name (oS "rows") p1) (.Name (oS "k") p2) p3) (Li0 r):=fun p1 p2 p3 =>
     Bk0 ok3 (EvD.toL (Aa0 ok3 rfl)) (Aa0 ok3 rfl) (by exact Int.natCast_nonneg _) (by rw [hk2]; exact hrD k r hrk) (by lia)
    refine Na0 ok3 (.inl rfl) rfl ?_ ?_
    ·refine (?_:EvBs _ _ _ (r.1 == name)).cast ?_
     ·exact Gt0 ok3 (Aq0 ok3 (Bk0 (d:=.str r.1) ok3 (EvD.toL (hrow _ _ _)) Ar0 (by decide) rfl (by decide)) (Aa0 ok3 rfl) (Bq0 ok3 _) Gq0)
     ·unfold Aq1; dsimp only; rw [hk2,hrk]; dsimp only; split <;> simp_all
    ·intro es hes
     have hes':es = (r.2.map PyData.str).flatMap fun d=>((match d with | .str n=>some [Kp0 (n,k)] | _=>none:Option (List PyData))).getD []:=by
      unfold Aq1 at hes
      dsimp only at hes
      rw [hk2,hrk] at hes
      dsimp only at hes
      split at hes
      ·cases hes
       rw [List.flatMap_map]
       exact (Vi0 _ r.2).symm
      ·cases hes
     rw [hes']
     refine Tt0 (ds:=r.2.map .str) (g:=fun d=>match d with | .str n=>some [Kp0 (n,k)] | _=>none) ok3 dk.more (Fc0 ok3 ?_) ?_
     ·rw [← Rl0 r]
      exact Cb0 (l:=some 1) (u:=none) ok3 (EvD.toL (hrow _ _ _)) Ar0 trivial (by show (PyData.str r.1 :: r.2.map PyData.str).length ≤ sizeLine; simp; unfold sizeLine; exact Nat.lt_of_le_of_lt ‹_› (by decide))
     ·intro pins' j d hd okp
      rw [List.getElem?_map] at hd
      obtain ⟨n,hn,hQ213⟩:=Option.map_eq_some_iff.mp hd; subst hQ213
      refine Na0 okp (.inl rfl) rfl Fq0 ?_
      intro es he
      cases he
      have dk':DOk _ ((oS "k",.val (.int (k:Int))) :: [(oS "name",.val (.str name)),(oS "rows",.val (.list (rows.map Li0)))]) D:=dk.more
      exact Ac1 okp ⟨dk'.x,dk'.new,dk'.own,dk'.tab⟩ (Cn0 okp (Ab0 okp (Aa0 okp rfl) (Ab0 okp (Aa0 okp rfl) Ac0)) (by show 2 ≤ sizeLine; decide))
  ·intro s4 S4
   refine Mg0 (ds:=[]) ok S4 Ac0 (by decide) (.inr ⟨rfl,rfl,rfl⟩) rfl fun b s5 hb1 hb2 _ S5=>?_
   refine Mg0 (ds:=[]) ok S5 Ac0 (by decide) (.inl rfl) rfl fun e s6 he1 he2 _ S6=>?_
   have hba:b ≠ a:=fun q=>hb2 (q ▸ List.mem_append_left _ (by simp [As0,Slot.addr?]))
   have hea:e ≠ a:=fun q=>he2 (q ▸ List.mem_append_left _ (by simp [As0,Slot.addr?]))
   have heb:e ≠ b:=fun q=>he2 (q ▸ List.mem_append_left _ (by simp [As0,Slot.addr?]))
   let N:=(Af0 rows).length
   let toldN:Nat→List PyData:=fun i=>(List.range i).map fun j=>Cg0 (G j)
   let fin:List PyData:=(Lw0 (N + 1) G).map Cg0
   let ρt:Nat→Rho:=fun i=>[(oS "told",.own e (toldN i)),(oS "done",.own b ((Dn G i).map .str)),(oS "needs",.val (.list ((Af0 rows).map nD))),(oS "seen",.own a ((Af0 rows).map .str))]
   let ρb:Rho:=[(oS "told",.own e fin)]
   have S6':St c (ρt 0) s6:=S6.drop (.cons rfl (.cons rfl (.cons rfl (.cons rfl .nil))))
   refine Wu0 (f:=fun (i:Nat)=>PyData.int (i:Int)) (ys:=List.range (N + 1)) (ρs:=ρt) (ρb:=ρb) (fun i=>∀ j < i,G j ≠ []) True ok S6'
    (Bw0 ok (Dq0 ok rfl) (Ev.castD (Bi0 ok (Ea0 ok (Cy0 ok rfl) (Dz0 ok rfl) (by rw [List.length_map]; exact Nat.lt_of_lt_of_le ‹_› (by decide))) Ar0) (by rw [List.length_map]; rfl)) (by exact Nat.lt_of_le_of_lt ‹_› (by decide))) (fun j hj=>absurd hj (Nat.not_lt_zero _)) (.inl rfl) ?_ ?_ ?_
   ·intro i i' pins sa hd okp hne Sa E'
    have hi0:i < N + 1:=by have:=(List.getElem?_eq_some_iff.mp hd).1; simpa using this
    obtain ⟨out,ho1,ho2,ho3⟩:=(hG i (by exact Nat.le_of_lt_succ ‹_›) hne).out
    refine Mg0 (ds:=[]) okp Sa Ac0 (by decide) (.inl rfl) rfl fun f s7 hf1 hf2 _ S7=>?_
    have hfa:f ≠ a:=fun q=>hf2 (q ▸ List.mem_append_left _ (by simp [As0,Slot.addr?,ρt]))
    have hfb:f ≠ b:=fun q=>hf2 (q ▸ List.mem_append_left _ (by simp [As0,Slot.addr?,ρt]))
    have hfe:f ≠ e:=fun q=>hf2 (q ▸ List.mem_append_left _ (by simp [As0,Slot.addr?,ρt]))
    have hDlen:(Dn G i).length ≤ 100000:=by
     have h1:=Fh1 (G:=G) (m:=60) i fun j hj=>by
      obtain ⟨out',q1,q2,_⟩:=(hG j (by lia) fun j' hj'=>hne j' (by exact Nat.lt_trans ‹_› ‹_›)).out
      rw [← q1,List.length_map,q2.length_eq]
      have:=Fn0 (rows:=rows) (D:=Dn G j) (Af0 rows).length
      exact Nat.le_of_lt (Nat.lt_of_le_of_lt ‹_› ‹_›)
     have h2:i * 60 ≤ 60 * 60:=Nat.mul_le_mul_right _ (by exact Nat.le_trans (Nat.le_of_lt ‹_›) ‹_›)
     exact Nat.le_trans (Nat.le_trans ‹_› ‹_›) (by decide)
    generalize hDD:Dn G i = D at *
    let ρn:Nat→Rho:=fun k=>[(oS "free",.own f ((Gm0 rows D k).map Xe0)),(oS "told",.own e (toldN i)),(oS "done",.own b (D.map .str)),(oS "needs",.val (.list ((Af0 rows).map nD))),(oS "seen",.own a ((Af0 rows).map .str))]
    have S7':=S7.drop (ρ':=ρn 0) (.cons rfl (.cons rfl (.cons (by rw [← hDD]; rfl) (.cons rfl (.cons rfl .nil)))))
    refine Wu0 (f:=fun (i:Nat)=>PyData.int (i:Int)) (ys:=List.range N) (ρs:=ρn) (ρb:=[]) (fun _=>True) False okp S7'
     (Bw0 okp (Dq0 okp rfl) ((Ea0 okp (Cy0 okp rfl) (Dz0 okp rfl) (by rw [List.length_map]; exact Nat.lt_of_lt_of_le ‹_› (by decide))).castD (by rw [List.length_map])) (by exact Nat.lt_of_lt_of_le ‹_› (by decide))) trivial (.inl rfl) ?_ ?_ (fun _ h=>h.elim)
    ·intro k k' pins2 sb hd okn _ Sb Eb
     have hk0:k < N:=by have:=(List.getElem?_eq_some_iff.mp hd).1; simpa using this
     have hkk:k = k':=by rw [List.getElem?_range hk0] at hd; cases hd; rfl
     subst hkk
     have hnm:(Af0 rows)[k]? = some (Af0 rows)[k]:=List.getElem?_eq_getElem hk0
     have hnmm:=List.mem_of_getElem? hnm
     generalize (Af0 rows)[k] = nm at hnm hnmm
     have hk2:((k:Int).toNat:Nat) = k:=by rfl
     have hnl':=hnl nm
     have hnk:∀ q ∈ Ba0 rows nm,q.2 < 1000∧Asc q.1:=fun q hq=>by
      have h1:=Vh0 q hq
      obtain ⟨r,hr,_,hm⟩:=Ar1 hq
      exact ⟨by exact Nat.le_trans (Nat.le_trans ‹_› ‹_›) (by decide),hasc r (List.mem_of_getElem? hr) _ (.tail _ hm)⟩
     have hstep:Gm0 rows D (k + 1) = Gm0 rows D k ++ (if Kn0 rows D nm then [(Ed0 rows D k nm,nm)] else []):=by
      show Gm0 rows D k ++ (match (Af0 rows)[k]? with | some name=>if Kn0 rows D name then [(Ed0 rows D k name,name)] else [] | none=>[]) = _
      rw [hnm]
     have hneed:∀ {c':Cx} {ρ':Rho} {p1 p2 p3:Pos},CxOk c'→ρ'.lookup (oS "needs") = some (.val (.list ((Af0 rows).map nD)))→ρ'.lookup (oS "number") = some (.val (.int (k:Int)))→EvD c' ρ' (.Subscript (.Name (oS "needs") p1) (.Name (oS "number") p2) p3) (nD nm):=fun ok' h1 h2 =>
      Bk0 ok' (EvD.toL (Aa0 ok' h1)) (Aa0 ok' h2) (by exact Int.natCast_nonneg _) (by rw [hk2,List.getElem?_map,hnm]; rfl) (by lia)
     refine Em0 (b:=!(D.any (· == nm)) && ((Ba0 rows nm).filter fun q=>!(D.any (· == q.1))).isEmpty) okn Sb (Xv0 okn ?_ fun _=>?_) ?_ ?_
     ·exact Aq0 okn (Bk0 okn (Dz0 okn rfl) (Aa0 okn rfl) (by exact Int.natCast_nonneg _) (by rw [hk2,List.getElem?_map,hnm]; rfl) (by lia)) (Dz0 okn rfl) (Bq0 okn _) Cx0
     ·have hle:((Ba0 rows nm).filter fun q=>!(D.any (· == q.1))).isEmpty = PyData.eqv (.list ((((Ba0 rows nm).filter fun q=>!(D.any (· == q.1))).map (·.1)).map .str)) (.list []):=by
       cases (Ba0 rows nm).filter fun q=>!(D.any (· == q.1)) <;> rfl
      rw [hle]
      refine Nn0 okn ?_ (Ek0 okn Ac0 (by decide)) (Ci0 fun y hy=>?_) rfl (by rw [Cj0]; decide)
      ·rw [← Ks0]
       refine Sm0 (ρ':=[(oS "done",.own b (D.map .str))]) okn (Bl0 okn (EvD.toL (hneed okn rfl rfl))) (by rw [List.length_map]; unfold sizeLine; exact Nat.le_trans ‹_› (by decide)) rfl (.cons rfl (.inl rfl) rfl rfl rfl rfl .nil) (by decide) rfl ?_
       intro C X s1 ok2 j d hd
       rw [List.getElem?_map] at hd
       obtain ⟨q,hq,hQ214⟩:=Option.map_eq_some_iff.mp hd; subst hQ214
       refine Hd0 ok2 rfl (.inl rfl) (.inl rfl) rfl rfl ?_ ?_
       ·refine (?_:EvBs _ _ _ (!(D.any (· == q.1)))).cast ?_
        ·exact Gt0 ok2 (Aq0 ok2 (Aa0 ok2 rfl) (Dz0 ok2 rfl) (Bq0 ok2 _) Cx0)
        ·exact (Ty0 D q).symm
       ·intro e he
        rw [Kr0] at he
        split at he
        ·cases he; exact Aa0 ok2 rfl
        ·cases he
      ·obtain ⟨q,hq,hQ215⟩:=List.mem_map.mp hy; subst hQ215
       exact (hnk q (List.mem_filter.mp hq).1).2
     ·intro hb s8 S8
      have hfree:Kn0 rows D nm = true:=hb
      have hin:∀ q ∈ Ba0 rows nm,q.1 ∈ D:=fun q hq=>by
       rw [Bool.and_eq_true,List.isEmpty_iff,List.filter_eq_nil_iff] at hb
       have:=hb.2 q hq
       simpa using this
      have hstep':Gm0 rows D (k + 1) = Gm0 rows D k ++ [(Ed0 rows D k nm,nm)]:=by rw [hstep,hfree]; rfl
      have hfl:=Fn0 (rows:=rows) (D:=D) k
      refine Ff0 (d:=Xe0 (Ed0 rows D k nm,nm)) okn S8 rfl ?_ hf1 ?_ (by rw [List.length_map]; unfold sizeLine; lia) fun s9 S9=>wN (wN ?_)
      ·refine Cn0 okn (Ab0 okn ?_ (Ab0 okn (Bk0 okn (Dz0 okn rfl) (Aa0 okn rfl) (by exact Int.natCast_nonneg _) (by rw [hk2,List.getElem?_map,hnm]; rfl) (by lia)) Ac0)) (by show 2 ≤ sizeLine; decide)
       obtain ⟨hm1,hm2⟩:=Hn0 ((Ba0 rows nm).map fun q=>((Pf0 D q.1:Int),(q.2:Int))) (-1,(k:Int))
       refine Hg1 (ps:=(-1,(k:Int)) :: (Ba0 rows nm).map fun q=>((Pf0 D q.1:Int),(q.2:Int))) okn rfl (Ik1 okn rfl) (EvD.toL ?_) (fun q hq=>?_) hm1 hm2
       ·rw [List.map_cons]
        refine Ev.castD (Ej0 (xs:=[Op0 (-1,(k:Int))]) (ys:=((Ba0 rows nm).map fun q=>((Pf0 D q.1:Int),(q.2:Int))).map Op0) okn
         (EvD.toL (Ek0 okn (Ab0 okn (Cn0 okn (Ab0 okn (Hs0 Ar0) (Ab0 okn (Aa0 okn rfl) Ac0)) (by show 2 ≤ sizeLine; decide)) Ac0) (by show 1 ≤ sizeLine; decide)))
         (EvD.toL ?_) (by simp; unfold sizeLine; lia)) rfl
        rw [← Nb0]
        refine Sm0 (ρ':=[(oS "done",.own b (D.map .str))]) okn (Bl0 okn (EvD.toL (hneed okn rfl rfl))) (by rw [List.length_map]; unfold sizeLine; exact Nat.le_trans ‹_› (by decide)) rfl (.cons rfl (.inl rfl) rfl rfl rfl rfl .nil) (by decide) rfl ?_
        intro C X s1 ok2 j d hd
        rw [List.getElem?_map] at hd
        obtain ⟨q,hq,hQ216⟩:=Option.map_eq_some_iff.mp hd; subst hQ216
        refine Hd0 ok2 rfl (.inl rfl) (.inl rfl) rfl rfl Fq0 ?_
        intro e he
        rw [Vj0] at he
        cases he
        obtain ⟨hj1,hj2⟩:=Dy1 (hin q (List.mem_of_getElem? hq))
        exact Cn0 ok2 (Ab0 ok2 (An1 ok2 (Dz0 ok2 rfl) (Aa0 ok2 rfl) hj1 hj2 (by omega)) (Ab0 ok2 (Aa0 ok2 rfl) Ac0)) (by show 2 ≤ sizeLine; decide)
       ·rcases List.mem_cons.mp hq with h | h
        ·rw [h]; exact ⟨by simp,by show (k:Int) < 1000; lia⟩
        ·obtain ⟨q',hq',e⟩:=List.mem_map.mp h
         have:=(hnk q' hq').1
         rw [← e]; exact ⟨by simp,by show (q'.2:Int) < 1000; exact Int.ofNat_lt.mpr ‹_›⟩
      ·intro y bb es hy hl
       have:=Ag0 hl
       simp [ρn] at this
       rcases this with h | h | h | h
       ·exact absurd h.1 hy
       ·rw [h.2.1]; exact fun q=>hfe q.symm
       ·rw [h.2.1]; exact fun q=>hfb q.symm
       ·rw [h.2.1]; exact fun q=>hfa q.symm
      ·refine ⟨S9.drop (.cons ?_ (.cons rfl (.cons rfl (.cons rfl (.cons rfl .nil))))),trivial⟩
       rw [hstep',List.map_append]
       rfl
     ·intro hb s8 S8
      have hfree:Kn0 rows D nm = false:=hb
      refine wN (wN ?_)
      refine ⟨S8.drop (.cons ?_ (.cons rfl (.cons rfl (.cons rfl (.cons rfl .nil))))),trivial⟩
      rw [hstep,hfree]
      simp only [Bool.false_eq_true,if_false,List.append_nil]
      rfl
    ·intro sb _ Sb
     rw [List.length_range] at Sb
     have hout:out.length < 60:=by
      rw [ho2.length_eq]
      have:=Fn0 (rows:=rows) (D:=D) (Af0 rows).length
      exact Nat.lt_of_le_of_lt ‹_› ‹_›
     have hob:∀ q ∈ Gm0 rows D N,0 ≤ q.1.2∧q.1.2 < 1000:=fun q hq=>by
      obtain ⟨j,hj,h1,h2,h3⟩:=Ko0 _ q hq
      rw [h3]
      exact Dw1 (by lia) fun q' hq'=>by have:=Vh0 q' hq'; exact Nat.le_trans (Nat.le_trans ‹_› ‹_›) (by decide)
     have hgasc:∀ y ∈ G i,Asc y:=fun y hy=>by
      rw [← ho1] at hy
      obtain ⟨q,hq,hQ217⟩:=List.mem_map.mp hy; subst hQ217
      obtain ⟨j,_,h1,_⟩:=Ko0 _ q (ho2.mem_iff.mp hq)
      obtain ⟨r,hr,hm⟩:=Dx1 (List.mem_of_getElem? h1)
      exact hasc r hr _ hm
     have hgl:(G i).length < 60:=by rw [← ho1,List.length_map]; exact hout
     have hgm:(out.map Xe0).filterMap Lx1 = (G i).map .str:=by
      rw [← ho1,List.filterMap_map,List.map_map]
      show List.filterMap (fun q:RkN=>some (PyData.str q.2)) out = _
      rw [show (fun q:RkN=>some (PyData.str q.2)) = some ∘ (fun q:RkN=>PyData.str q.2) from rfl,List.filterMap_eq_map]; rfl
     refine Ap0 (d:=.tuple ((G i).map .str)) okp Sb (Mc0 okp (Yd0 okp rfl) (EvD.toL ?_) (by rw [List.length_map]; unfold sizeLine; exact Nat.le_of_lt (Nat.lt_of_lt_of_le ‹_› (by decide)))) (.inl rfl) rfl rfl fun s8 S8=>?_
     ·rw [← hgm]
      refine Sm0 (ρ':=[]) okp (Bl0 okp (EvD.toL (Am1 okp (Cl1 okp rfl) (Dz0 okp rfl) (by have:=Fn0 (rows:=rows) (D:=D) N; lia) hob ho2 ho3))) (by rw [List.length_map]; unfold sizeLine; exact Nat.le_of_lt (Nat.lt_of_lt_of_le ‹_› (by decide))) rfl .nil (by decide) rfl ?_
      intro C X s1 ok2 j d hd
      rw [List.getElem?_map] at hd
      obtain ⟨q,hq,hQ218⟩:=Option.map_eq_some_iff.mp hd; subst hQ218
      refine Hd0 ok2 rfl (.inl rfl) (.inl rfl) rfl rfl Fq0 ?_
      intro e he
      cases he
      exact Aa0 ok2 rfl
     ·have hcl:PyData.canLay0 (.tuple ((G i).map .str)) = true:=Id0 hgasc
      have hdp:PyData.depth (.tuple ((G i).map .str)) ≤ 64:=by rw [show PyData.depth (.tuple ((G i).map .str)) = 1 from Cj0 _]; decide
      have heq:∀ {b':Bool},b' = (G i).isEmpty→PyData.bool (!b') = .bool (!(G i).isEmpty):=fun h=>by rw [h]
      have htold:toldN i ++ [Cg0 (G i)] = toldN (i + 1):=by
       show List.map _ _ ++ _ = List.map _ _
       rw [List.range_succ,List.map_append]; rfl
      refine Ff0 (x:=oS "told") (a:=e) (ds:=toldN i) (d:=Cg0 (G i)) okp S8 rfl ?_ he1 ?_ ?_ fun s9 S9=>?_
      ·refine Cn0 okp (Ab0 okp (Ev.castD (Ew1 okp (Aa0 okp rfl) (Cn0 okp Ac0 (by decide)) hcl rfl hdp) (heq Ol0)) (Ab0 okp (Aa0 okp rfl) (Ab0 okp (Ev.castD (Ew1 okp (Aa0 okp rfl) (Cn0 okp Ac0 (by decide)) hcl rfl hdp) (heq Ol0)) Ac0))) (by show 3 ≤ sizeLine; decide)
      ·intro y bb es hy hl
       have:=Ag0 hl
       simp [ρn] at this
       rcases this with h | h | h | h
       ·rw [h.2.1]; exact hfe
       ·exact absurd h.1 hy
       ·rw [h.2.1]; exact heb.symm
       ·rw [h.2.1]; exact hea.symm
      ·simp [toldN]; unfold sizeLine; lia
      ·rw [htold] at S9
       refine Em0 (b:=(G i).isEmpty) okp S9 ?_ (fun hbt s10 S10=>?_) fun hbt s10 S10=>wN ?_
       ·rw [← Ol0]
        exact Nn0 okp (Aa0 okp rfl) (Cn0 okp Ac0 (by decide)) hcl rfl hdp
       ·refine wC (wpAny_Break ?_)
        have hnil:G i = []:=List.isEmpty_iff.mp hbt
        have e1:toldN (i + 1) = fin:=by
         show List.map _ _ = List.map _ _
         rw [Mz0 i (N + 1) G hi0 hne hnil,List.map_map]; rfl
        rw [e1] at S10
        exact ⟨S10.drop (.cons rfl .nil),trivial⟩
       ·have hne2:G i ≠ []:=fun q=>by rw [q] at hbt; cases hbt
        refine Ao1 (x:=oS "done") (a:=b) (ds:=D.map .str) (es:=(G i).map .str) okp S10 rfl (Dv1 okp (Io1 okp rfl) (Aa0 okp rfl) (by rw [List.length_map]; unfold sizeLine; exact Nat.le_of_lt (Nat.lt_of_lt_of_le ‹_› (by decide)))) hb1 ?_ (by rw [List.length_map,List.length_map]; unfold sizeLine; lia) (.inr ⟨rfl,rfl,rfl⟩) rfl fun s11 S11=>wN ?_
        ·intro y bb es hy hl
         have:=Ag0 hl
         simp [ρn] at this
         rcases this with h | h | h | h | h
         ·rw [h.2.1]; exact heb
         ·rw [h.2.1]; exact hfb
         ·rw [h.2.1]; exact heb
         ·exact absurd h.1 hy
         ·rw [h.2.1]; exact hba.symm
        ·refine ⟨S11.drop (.cons rfl (.cons ?_ (.cons rfl (.cons rfl .nil)))),fun j hj=>?_⟩
         ·rw [Oq0,hDD,List.map_append]; rfl
         ·by_cases q:j = i
          ·rw [q]; exact hne2
          ·exact hne j (by exact Fo1 ‹_› ‹_›)
   ·intro sz hne Sz
    rw [List.length_range] at Sz hne
    have e1:toldN (N + 1) = fin:=by
     show List.map _ _ = List.map _ _
     rw [My0 (N + 1) G hne,List.map_map]; rfl
    have Sz':=Sz.drop (ρ':=[(oS "told",.own e (toldN (N + 1)))]) (.cons rfl .nil)
    rw [e1] at Sz'
    exact Es0 ok Sz' rfl he1
   ·intro s' _ S'
    exact Es0 ok S' rfl he1
theorem Nf1 {M:Model} {globals:Addr} {n:Str} {func:Option Addr} {code:Value} {builtins:Addr} {Q:Env→Shared→Prop}
  (hk:scope.kind = .function) (hl:scope.names.lookup n = some .local)
  (hQ:∀ env,env = newEnv scope s.heap.objs.size globals (cellsFrom (s.heap.objs.size + 1) scope.names []) qual func code none builtins →
   ∀ s',InCallC s env.locals (bindL env.kindOf [(n,v)] fun _=>none) env.cells (bindC env.kindOf [(n,v)] fun _=>none) s'→1 ≤ s'.toks→Q env s') :
  wpAny M A (newFunctionEnv scope globals [] [(n,v)] qual func code none builtins) Q E s:=by
 simp only [newFunctionEnv,Option.isSome_none,Bool.false_eq_true,if_false]
 refine wB (wpAny_alloc ?_)
 refine wB (wpAny_layCells _ (fun name kind cells=>by cases hkc:kind == NameKind.cell <;> simp [hkc]) _ _ _ _ ?_)
 have ok:=cellsFrom_ok scope.names (s.heap.push { cls:=.type "frame",data:=.dict #[] }) (s.heap.objs.size + 1) [] ⟨fun _ _ hm=>(nomatch hm),List.Pairwise.nil⟩ (by rw [Heap.size_push]; exact Nat.le_refl _)
 rw [Heap.size_push] at ok
 rw [show ({ s with heap:=s.heap.push { cls:=.type "frame",data:=.dict #[] } }:Shared).heap.objs.size = s.heap.objs.size + 1 from Heap.size_push ..]
 let env:Env:=newEnv scope s.heap.objs.size globals (cellsFrom (s.heap.objs.size + 1) scope.names []) qual func code none builtins
 have hle:env.kindOf n = some .local:=hl
 refine wB ?_
 rw [List.forIn_cons]
 have hns:(pushCells (s.heap.push { cls:=.type "frame",data:=.dict #[] }) scope.names).Ns env.locals fun _=>none:=(Heap.Ns.new s.heap (.type "frame")).keeps (pushCells_keeps _ _)
 have x:InCallC s env.locals (fun _=>none) env.cells (fun _=>none) { s with heap:=pushCells (s.heap.push { cls:=.type "frame",data:=.dict #[] }) scope.names } :=
  ⟨⟨⟨_,_,rfl⟩,hns,fun b o e=>pushCells_keeps _ _ b o (Heap.get?_push_of_some _ e),Nat.le_refl _⟩,fun n c hc=>(ok.empty n c (mem_of_lookup hc)).1,ok.apart,fun n c hm=>(ok.empty n c hm).2⟩
 refine wB (wB (wpAny_storeName_local (env:=env) hle hns (fun h' hn' hs'=>?_) (by have hk':env.scope.kind = .function:=hk; rw [hk']; rfl)))
 refine wP ?_
 dsimp only
 rw [List.forIn_nil]
 refine wP (wP (hQ env rfl _ ?_ (Nat.succ_le_succ (Nat.zero_le _))))
 have hb1:bindL env.kindOf [(n,v)] (fun _=>none) = fun y=>if y = n then some v else none:=by unfold bindL bindL; rw [if_pos hle]
 have hb2:bindC env.kindOf [(n,v)] (fun _=>none) = fun _=>none:=by unfold bindC bindC; rw [if_pos hle]
 rw [hb1,hb2]
 refine ⟨⟨⟨h',_,rfl⟩,hn',fun b o e=>?_,x.toInCall.fresh⟩,fun k c hc=>?_,x.apart,x.above⟩
 ·exact hs'.extBut b o (Nat.ne_of_lt (Nat.lt_of_lt_of_le (Heap.lt_size e) x.toInCall.fresh)) (x.toInCall.keep b o e)
 ·exact (x.cell k c hc).sameBut hs' (Nat.ne_of_gt (x.above k c (mem_of_lookup hc)))
theorem Ng1 {M:Model} {globals:Addr} {n:Str} {Xx0:List (Str × Value)} {func:Option Addr} {code:Value} {builtins:Addr} {Q:Env→Shared→Prop}
  (hk:scope.kind = .function) (hb:Xx0 = [(n,v)]) (hl:scope.names.lookup n = some .local)
  (hQ:∀ env,env = newEnv scope s.heap.objs.size globals (cellsFrom (s.heap.objs.size + 1) scope.names []) qual func code none builtins →
   ∀ s',InCallC s env.locals (bindL env.kindOf Xx0 fun _=>none) env.cells (bindC env.kindOf Xx0 fun _=>none) s'→1 ≤ s'.toks→Q env s') :
  wpAny M A (newFunctionEnv scope globals [] Xx0 qual func code none builtins) Q E s:=by
 subst hb; exact Nf1 hk hl hQ
noncomputable def Kn1 (w:World) (lvl:Nat) (f:Addr) (ds:List PyData) (d:PyData):Prop :=
 ∀ A fs X s vs,Amb w A fs X lvl { s with toks:=s.toks + 1 }→RdAll (fz X s.heap) vs ds →
  codeAny (MM w) A (.call (.ref f) ⟨vs,[]⟩) (fun r s'=>∃ v,r = .ok (.ret v)∧Kp fs s s'∧Rd (fz X s'.heap) v d) s
theorem Dz1 {lvl:Nat} {sls:List Slot} {args:Args} {ps:List Str} {params:Arguments} {dV kV doc pm cdv ct oc:Value} {an od:Option Addr} {osl:Array (Option Value)}
  (am:Amb w A fs X (lvl + 1) { s with toks:=s.toks + 1 }) (ho:s.heap.get? f = some ⟨oc,od,.func (fnOf name qual params body scope dV kV doc pm an cdv ct),osl⟩)
  (hcr:s.heap.CodeRec cdv qual) (hlen:vs.length = ps.length) (rv:BdAll (fz X s.heap) vs sls)
  (hbind:BindsTo s (fnOf name qual params body scope dV kV doc pm an cdv ct) args (ps.zip vs)) (hp1:∃ n,ps = [n]∧scope.names.lookup n = some .local)
  (hnd:ps.Nodup) (hkind:(ps.all fun y=>scope.names.lookup y == some .local || scope.names.lookup y == some .cell) = true)
  (hcn:((cellsFrom 0 scope.names []).map (·.1)).Nodup) (hcd2:ps.all (fun x=>x != ("__classdict__" : Str)) = true)
  (hb:∀ X' fs' L s1,let c:Cx:=⟨w,A.deeper (envOfC qual scope L f cdv),envOfC qual scope L f cdv,X',X,fs',fs,s,lvl,Bg0 scope,It0⟩; let Q:Flow→Shared→Prop:=Ig1 R; let E:Value→Shared→Prop:=Ih1 w A c.env R; (∀ b ∈ X',b ∈ X ∨ s.heap.get? b = none)→CxOk c→St c (ps.zip sls) s1 →
   wpAny (MM c.w) c.A (execs body c.env) Q
    E s1)
  (hco:scope.isCoroutine = false:=by rfl) (hgen:scope.isGenerator = false:=by rfl) (hk:scope.kind = .function:=by rfl):codeAny (MM w) A (.call (.ref f) args) R s:=by
 have hvl:vs.length = ps.length:=hlen
 have hdep:=am.depth
 refine codeAny_call_function (by unfold recursionLimit; lia) ho rfl hco hgen rfl hcr (hbind _ _ _ _ ?_)
 have hkind':∀ n,∀ x ∈ ps.zip vs,scope.names.lookup x.1 = some .local ∨ (scope.names.lookup x.1 = some .cell∧((cellsFrom n scope.names []).lookup x.1).isSome = true) :=
  kindsX (List.all_eq_true.mpr fun x hx=>List.all_eq_true.mp hkind x.1 (List.of_mem_zip (a:=x.1) (b:=x.2) hx).1)
 obtain ⟨n1,hps1,hloc1⟩:=hp1
 obtain ⟨v1,hvs1⟩:∃ v,vs = [v]:=by
  rw [hps1] at hvl
  exact Cg1 hvl
 have hzip:ps.zip vs = [(n1,v1)]:=by rw [hps1,hvs1]; rfl
 refine Ng1 hk hzip hloc1 fun env' he s' x ht=>?_
 subst he
 exact ⟨am.wd.nolimit.keeps x.toInCall.keep,codeAny_func (Ui0 am rv hnd hkind hcn hcd2 hk x ht fun X' fs' h1 h2 h3=>hb X' fs' _ s' h1 h2 h3)⟩
theorem At1 {lvl:Nat} {ps:List Str} {params:Arguments} {dV kV doc pm cdv ct oc:Value} {an od:Option Addr} {osl:Array (Option Value)}
  (hK:(KF w).lookup f = some ⟨oc,od,.func (fnOf name qual params body scope dV kV doc pm an cdv ct),osl⟩)
  (hcd:codeIn (KF w) cdv qual = true) (hlen:ps.length = ds.length)
  (hbind:∀ s vs,vs.length = ps.length→BindsTo s (fnOf name qual params body scope dV kV doc pm an cdv ct) ⟨vs,[]⟩ (ps.zip vs))
  (hp1:∃ n,ps = [n]∧scope.names.lookup n = some .local) (hnd:ps.Nodup) (hkind:(ps.all fun y=>scope.names.lookup y == some .local || scope.names.lookup y == some .cell) = true)
  (hcn:((cellsFrom 0 scope.names []).map (·.1)).Nodup) (hcd2:ps.all (fun x=>x != ("__classdict__" : Str)) = true)
  (hb:∀ A X X0 fs fs0 s0 L s1,let c:Cx:=⟨w,A,envOfC qual scope L f cdv,X,X0,fs,fs0,s0,lvl,Bg0 scope,It0⟩; CxOk c→St c (ps.zip (ds.map .val)) s1 →
   ∀ E,wpAny (MM c.w) c.A (execs body c.env) (Hz1 c d) E s1)
  (hco:scope.isCoroutine = false:=by rfl) (hgen:scope.isGenerator = false:=by rfl) (hk:scope.kind = .function:=by rfl):Kn1 w (lvl + 1) f ds d:=by
 intro A fs X s vs am rv
 have hvl:vs.length = ps.length:=rv.length.trans hlen.symm
 exact Dz1 am (am.wd.k f _ hK) (codeRec_of am.wd.k hcd) hvl (BdAll.ofRd rv) (hbind s vs hvl) hp1 hnd hkind hcn hcd2 (fun X' fs' L s1 _ ok S=>wM (hb _ _ _ _ _ _ _ _ ok S _) (fun fl s' hh1=>by obtain ⟨k,r⟩:=hh1; exact ⟨_,rfl,k,r⟩) fun _ _ x=>x) hco hgen hk
noncomputable def Bb0 (words:List Str):Bz0:=(List.range words.length).map fun k=>(words.getD k Str.empty,((List.range words.length).filter fun j=>(j != k) && !(Al0 (words.getD j Str.empty) (words.getD k Str.empty)).isEmpty).map fun j=>words.getD j Str.empty)
theorem Kt0 (l:List Int):PyData.canLay0 (.list (l.map .int)) = true:=by
 show PyData.canLayAll0 _ = true
 exact Ec0 fun d hd=>by obtain ⟨i,_,hQ219⟩:=List.mem_map.mp hd; subst hQ219; rfl
theorem Nc0 (l:List Int):PyData.depth (.list (l.map .int)) ≤ 1:=by
 have:PyData.depthAll (l.map PyData.int) ≤ 0:=Fi0 fun d hd=>by obtain ⟨i,_,hQ220⟩:=List.mem_map.mp hd; subst hQ220; exact Nat.le_refl _
 show PyData.depthAll _ + 1 ≤ 1; exact Nat.lt_succ_of_le ‹_›
theorem Rs0 (l:List Int):PyData.eqv (.list (l.map .int)) (.list []) = l.isEmpty:=by cases l <;> rfl
theorem Ju1 (words:List Str):((List.range words.length).map fun (k:Nat)=>PyData.list (.str (words.getD k Str.empty) :: (((List.range words.length).filter fun (j:Nat)=>((j:Int) != (k:Int)) && !(Al0 (words.getD j Str.empty) (words.getD k Str.empty)).isEmpty).map fun j=>PyData.str (words.getD j Str.empty)))) = (Bb0 words).map Li0:=by
 unfold Bb0
 rw [List.map_map]
 refine List.map_congr_left fun k _=>?_
 show _ = Li0 _
 unfold Li0
 dsimp only
 rw [List.map_map]
 have:(fun (j:Nat)=>((j:Int) != (k:Int)) && !(Al0 (words.getD j Str.empty) (words.getD k Str.empty)).isEmpty) = fun j=>(j != k) && !(Al0 (words.getD j Str.empty) (words.getD k Str.empty)).isEmpty:=funext fun j=>by
  rw [show ((j:Int) != (k:Int)) = (j != k) by rw [Bool.eq_iff_iff,bne_iff_ne,bne_iff_ne]; lia]
 rw [this]; rfl
theorem Jv1 (w:World) (script:List Int) (words:List Str) (R:List (List Str)) (F:Str→Str→PyData) (hFF:∀ p ∈ words,∀ q ∈ words,F (Ak0 q) (Ak0 p) = .tuple [.list ((Al0 p q).map .int),.str (Oa0 p)]) (hn:script.length ≤ 100) (hlen:words.length ≤ 50)
  (hW:FnD w 4 205 [.list (script.map .int)] (.list (words.map .str)))
  (hQ:∀ x ∈ words,FnD w 1 198 [.str x] (.str (Ak0 x))) (hT:∀ x ∈ words,FnD w 5 215 [.str x] (.str (Ak0 x)))
  (hF:∀ p ∈ words,∀ q ∈ words,FnD w 5 227 [.str (Ak0 q),.str (Ak0 p)] (F (Ak0 q) (Ak0 p)))
  (hDue:FnD w 6 251 [.list (words.map .str)] (Wt0 words))
  (hUn:FnD w 6 246 [.list (words.map fun x=>.str (Ak0 x)),Wt0 words] (.bool true))
  (hR:FnD w 9 258 [.list ((Bb0 words).map Li0),.int words.length] (.list (.bool false :: R.map Cg0)))
  (hP:FnD w 6 263 [.list ((Bb0 words).map Li0)] (.list (R.map Cg0)))
  (hRl:R.length ≤ 1000) (hRa:∀ g ∈ R,∀ y ∈ g,Asc y)
  (hta:∀ x ∈ words,Asc (Ak0 x)) (hea:∀ x ∈ words,PyData.canLay0 (.str (Oa0 x)) = true):Kn1 w 10 268 [.list (script.map .int)] (.bool true):=by
 have hrl:∀ g ∈ R,PyData.canLay0 (Cg0 g) = true∧PyData.depth (Cg0 g) ≤ 2:=fun g hg=>by
  have h1:=Id0 (hRa g hg)
  refine ⟨?_,?_⟩
  ·show (PyData.canLay0 (.bool (!g.isEmpty)) && (PyData.canLay0 (.tuple (g.map .str)) && (PyData.canLay0 (.bool (!g.isEmpty)) && true))) = true
   rw [h1]; rfl
  ·show max 0 (max (PyData.depth (.tuple (g.map .str))) (max 0 0)) + 1 ≤ 2
   rw [show PyData.depth (.tuple (g.map .str)) = 1 from Cj0 _]; decide
 have hRc:PyData.canLay0 (.list (.bool false :: R.map Cg0)) = true:=by
  refine Ec0 fun d hd=>?_
  rcases List.mem_cons.mp hd with rfl | hd
  ·rfl
  ·obtain ⟨g,hg,hQ221⟩:=List.mem_map.mp hd; subst hQ221; exact (hrl g hg).1
 have hRd:PyData.depth (.list (.bool false :: R.map Cg0)) ≤ 64:=by
  have:PyData.depthAll (.bool false :: R.map Cg0) ≤ 2:=Fi0 fun d hd=>by
   rcases List.mem_cons.mp hd with rfl | hd
   ·exact Nat.zero_le _
   ·obtain ⟨g,hg,hQ222⟩:=List.mem_map.mp hd; subst hQ222; exact (hrl g hg).2
  show PyData.depthAll _ + 1 ≤ 64; exact Nat.lt_of_le_of_lt ‹_› (by decide)
 have hrow1:∀ q ∈ words,PyData.canLay0 (.list (Gb0 words q)) = true∧PyData.depth (.list (Gb0 words q)) ≤ 3:=fun q hq=>by
  have:∀ d ∈ Gb0 words q,d.canLay0 = true∧d.depth ≤ 2:=fun d hd=>by
   obtain ⟨p,hp,hQ223⟩:=List.mem_map.mp hd; subst hQ223
   refine ⟨?_,?_⟩
   ·show (PyData.canLay0 (.list ((Al0 p q).map .int)) && (PyData.canLay0 (.str (Oa0 p)) && true)) = true
    rw [Kt0,hea p hp]; rfl
   ·show max (PyData.depth (.list ((Al0 p q).map .int))) (max 0 0) + 1 ≤ 2
    have:=Nc0 (Al0 p q); exact Nat.succ_lt_succ ‹_›
  refine ⟨Ec0 fun d hd=>(this d hd).1,?_⟩
  have:=Fi0 fun d hd=>(this d hd).2
  show PyData.depthAll _ + 1 ≤ 3; exact Nat.lt_succ_of_le ‹_›
 have hDc:PyData.canLay0 (Wt0 words) = true:=Ec0 fun d hd=>by obtain ⟨q,hq,hQ224⟩:=List.mem_map.mp hd; subst hQ224; exact (hrow1 q hq).1
 have hDd:PyData.depth (Wt0 words) ≤ 64:=by
  have:PyData.depthAll (words.map fun word=>PyData.list (Gb0 words word)) ≤ 3:=Fi0 fun d hd=>by obtain ⟨q,hq,hQ225⟩:=List.mem_map.mp hd; subst hQ225; exact (hrow1 q hq).2
  show PyData.depthAll _ + 1 ≤ 64; exact Nat.lt_of_le_of_lt ‹_› (by decide)
 have hwr:(words.map fun x=>PyData.str (Ak0 x)) = (words.map Ak0).map .str:=by rw [List.map_map]; rfl
 have hwc:PyData.canLay0 (.list (words.map fun x=>PyData.str (Ak0 x))) = true:=by
  rw [hwr]; exact Ci0 fun y hy=>by obtain ⟨x,hx,hQ226⟩:=List.mem_map.mp hy; subst hQ226; exact hta x hx
 have hwd:PyData.depth (.list (words.map fun x=>PyData.str (Ak0 x))) ≤ 64:=by rw [hwr,Cj0]; decide
 refine At1 (ps:=[oS "script"]) (by rfl) (by rfl) rfl (fun s vs hv=>?_) ⟨_,rfl,rfl⟩ (by decide) (by rfl) (by decide) (by rfl) ?_
 ·obtain ⟨v,hQ227⟩:=Cg1 hv; subst hQ227
  exact BindsTo.of_eq rfl
 intro A X X0 fs fs0 s0 L s1 c ok S E
 refine Ap0 (d:=.list (words.map .str)) ok S (Gg0 ok (So0 w) rfl (St0 w) (Ab0 ok (Aa0 ok rfl) Ac0) hW (Nat.le_of_ble_eq_true rfl)) (.inr ⟨rfl,rfl,rfl⟩) rfl rfl fun s2 S2=>?_
 have hwl:words.length ≤ sizeLine:=by unfold sizeLine; exact Nat.le_trans ‹_› (by decide)
 refine Ap0 (d:=.list (words.map fun x=>.str (Ak0 x))) ok S2 ?_ (.inr ⟨rfl,rfl,rfl⟩) rfl rfl fun s3 S3=>?_
 ·exact Bx0 ok (Bl0 ok (EvD.toL (Aa0 ok rfl))) hwl rfl .nil (by decide) rfl (fun _ _ _=>.inl rfl) rfl fun C X s1 ok2 x hx=>Gg0 ok2 (Fv1 w) rfl (Fy1 w) (Ab0 ok2 (Aa0 ok2 rfl) Ac0) (hQ x hx) (Nat.le_of_ble_eq_true rfl)
 refine Em0 (b:=!(PyData.eqv (.list (words.map fun x=>PyData.str (Ak0 x))) (.list (words.map fun x=>PyData.str (Ak0 x))))) ok S3 (No0 ok (Aa0 ok rfl) ?_ hwc hwc hwd) (fun hb=>?_) fun _ s4 S4=>wN ?_
 ·exact Bx0 ok (Bl0 ok (EvD.toL (Aa0 ok rfl))) hwl rfl .nil (by decide) rfl (fun _ _ _=>.inl rfl) rfl fun C X s1 ok2 x hx=>Gg0 ok2 (Md0 w) rfl (Mf0 w) (Ab0 ok2 (Aa0 ok2 rfl) Ac0) (hT x hx) (Nat.le_of_ble_eq_true rfl)
 ·rw [SeqAt.eqv_refl _ hwc] at hb; cases hb
 refine Ap0 (d:=Wt0 words) ok S4 ?_ (.inr ⟨rfl,rfl,rfl⟩) rfl rfl fun s5 S5=>?_
 ·refine Bx0 (ρ':=[(oS "written",.val (.list (words.map fun x=>.str (Ak0 x))))]) ok (Bl0 ok (EvD.toL (Aa0 ok rfl))) hwl rfl (.cons rfl (.inl rfl) rfl rfl rfl rfl .nil) (by decide) rfl (fun _ _ _=>.inr ⟨rfl,rfl,rfl⟩) rfl fun C X s1 ok2 q hq=>?_
  refine Bx0 (ρ':=[(oS "one",.val (.str (Ak0 q)))]) ok2 (Bl0 ok2 (EvD.toL (Aa0 ok2 rfl))) hwl rfl (.cons rfl (.inl rfl) rfl rfl rfl rfl .nil) (by decide) rfl (fun _ _ _=>.inl rfl) rfl fun C X s1 ok3 p hp=>?_
  rw [← hFF p hp q hq]
  exact Gg0 ok3 (Sp0 w) rfl (Su0 w) (Ab0 ok3 (Aa0 ok3 rfl) (Ab0 ok3 (Aa0 ok3 rfl) Ac0)) (hF p hp q hq) (Nat.le_of_ble_eq_true rfl)
 refine Em0 (b:=!(PyData.eqv (Wt0 words) (Wt0 words))) ok S5 (No0 ok (Aa0 ok rfl) (Gg0 ok (Yc0 w) rfl (Ye0 w) (Ab0 ok (Aa0 ok rfl) Ac0) hDue (Nat.le_of_ble_eq_true rfl)) hDc hDc hDd) (fun hb=>?_) fun _ s6 S6=>wN ?_
 ·rw [SeqAt.eqv_refl _ hDc] at hb; cases hb
 refine Em0 (b:=!true) ok S6 (Sh0 (Jf0 (Gg0 ok (Ps0 w) rfl (Py0 w) (Ab0 ok (Aa0 ok rfl) (Ab0 ok (Aa0 ok rfl) Ac0)) hUn (Nat.le_of_ble_eq_true rfl)))) (fun hb=>by cases hb) fun _ s7 S7=>wN ?_
 let rws:Nat→PyData:=fun k=>.list (.str (words.getD k Str.empty) :: (((List.range words.length).filter fun (j:Nat)=>((j:Int) != (k:Int)) && !(Al0 (words.getD j Str.empty) (words.getD k Str.empty)).isEmpty).map fun (j:Nat)=>PyData.str (words.getD j Str.empty)))
 refine Ut0 (h:=rws) (ρ':=[(oS "told",.val (Wt0 words)),(oS "words",.val (.list (words.map .str)))]) ok S7 rfl rfl rfl
  (Bw0 ok (Dq0 ok rfl) ((Ea0 ok (Cy0 ok rfl) (EvD.toL (Aa0 ok rfl)) (by rw [List.length_map]; exact Nat.lt_of_le_of_lt ‹_› (by decide))).castD (by rw [List.length_map])) (by exact Nat.lt_of_le_of_lt ‹_› (by decide))) (by rw [List.length_range]; exact hwl) rfl
  (.cons rfl (.inl rfl) rfl rfl rfl rfl (.cons rfl (.inl rfl) rfl rfl rfl rfl .nil)) (by decide) rfl (fun _ _ _=>.inr ⟨rfl,rfl,rfl⟩) rfl (fun C X s1 ok2 k hk=>?_) ?_
 ·have hk:=List.mem_range.mp hk
  have hk2:((k:Int).toNat:Nat) = k:=by rfl
  have hwk:∀ j,j < words.length→words[j]? = some (words.getD j Str.empty):=fun j hj=>by simp [List.getD,hj]
  have hsub:(((List.range words.length).filter fun (j:Nat)=>((j:Int) != (k:Int)) && !(Al0 (words.getD j Str.empty) (words.getD k Str.empty)).isEmpty).map fun (j:Nat)=>PyData.str (words.getD j Str.empty)).length ≤ words.length:=by
   rw [List.length_map]; exact Nat.le_trans (List.length_filter_le _ _) (Nat.le_of_eq List.length_range)
  refine Ev.castD (Ej0 (xs:=[.str (words.getD k Str.empty)]) (ys:=((List.range words.length).filter fun (j:Nat)=>((j:Int) != (k:Int)) && !(Al0 (words.getD j Str.empty) (words.getD k Str.empty)).isEmpty).map fun (j:Nat)=>PyData.str (words.getD j Str.empty)) ok2 (EvD.toL (Ek0 ok2 (Ab0 ok2 (Bk0 ok2 (EvD.toL (Aa0 ok2 rfl)) (Aa0 ok2 rfl) (by exact Int.natCast_nonneg _) (by rw [hk2,List.getElem?_map,hwk k hk]; rfl) (by lia)) Ac0) (by show 1 ≤ sizeLine; decide))) (EvD.toL ?_) (by simp only [List.length_singleton]; unfold sizeLine; lia)) rfl
  refine Iw0 (ρ':=[(oS "k",.val (.int (k:Int))),(oS "told",.val (Wt0 words)),(oS "words",.val (.list (words.map .str)))]) ok2
   (Bw0 ok2 (Dq0 ok2 rfl) ((Ea0 ok2 (Cy0 ok2 rfl) (EvD.toL (Aa0 ok2 rfl)) (by rw [List.length_map]; exact Nat.lt_of_le_of_lt ‹_› (by decide))).castD (by rw [List.length_map])) (by exact Nat.lt_of_le_of_lt ‹_› (by decide))) (by rw [List.length_range]; exact hwl) rfl
   (.cons rfl (.inl rfl) rfl rfl rfl rfl (.cons rfl (.inl rfl) rfl rfl rfl rfl (.cons rfl (.inl rfl) rfl rfl rfl rfl .nil))) (by decide) rfl (fun _ _ _=>.inl rfl) rfl (fun C X s1 ok3 j hj=>?_) fun C X s1 ok3 j hj _=>?_
  ·have hj:=List.mem_range.mp hj
   have hj2:((j:Int).toNat:Nat) = j:=by rfl
   refine Xv0 ok3 (Aq0 ok3 (Aa0 ok3 rfl) (Aa0 ok3 rfl) (Bq0 ok3 _) Pj0) fun _=>?_
   rw [← Rs0]
   refine No0 ok3 ?_ (Ek0 ok3 Ac0 (by decide)) (Kt0 _) rfl (Nat.le_trans (Nc0 _) (by decide))
   refine Sk0 (ds:=[.list ((Al0 (words.getD j Str.empty) (words.getD k Str.empty)).map .int),.str (Oa0 (words.getD j Str.empty))]) ok3 (Bk0 (ds:=Gb0 words (words.getD k Str.empty)) ok3 (EvD.toL (Bk0 (ds:=words.map fun word=>.list (Gb0 words word)) ok3 (EvD.toL (Aa0 ok3 rfl)) (Aa0 ok3 rfl) (by exact Int.natCast_nonneg _) (by rw [hk2,List.getElem?_map,hwk k hk]; rfl) (by lia))) (Aa0 ok3 rfl) (by exact Int.natCast_nonneg _) (by rw [hj2]; unfold Gb0; rw [List.getElem?_map,hwk j hj]; rfl) (by lia)) Ar0 (by decide) rfl (by decide)
  ·have hj:=List.mem_range.mp hj
   have hj2:((j:Int).toNat:Nat) = j:=by rfl
   exact Bk0 ok3 (EvD.toL (Aa0 ok3 rfl)) (Aa0 ok3 rfl) (by exact Int.natCast_nonneg _) (by rw [hj2,List.getElem?_map,hwk j hj]; rfl) (by lia)
 ·intro s8 S8
  have S8:St _ ((_,.val (.list ((Bb0 words).map Li0))) :: _) s8:=(Ju1 words:(List.range words.length).map rws = _) ▸ S8
  rw [← SeqAt.eqv_refl _ hRc]
  refine Ji0 ok S8 (Ev1 ok (Gg0 ok (Pt0 w) rfl (Pz0 w) (Ab0 ok (Aa0 ok rfl) (Ab0 ok ((Ea0 ok (Cy0 ok rfl) (EvD.toL (Aa0 ok rfl)) (by rw [List.length_map]; exact Nat.lt_of_le_of_lt ‹_› (by decide))).castD (by rw [List.length_map])) Ac0)) hR (Nat.le_of_ble_eq_true rfl))
   (Ev.castD (Ej0 (xs:=[.bool false]) (ys:=R.map Cg0) ok (EvD.toL (Ek0 ok (Ab0 ok Si0 Ac0) (by show 1 ≤ sizeLine; decide))) (EvD.toL (Gg0 ok (Wg0 w) rfl (Wi0 w) (Ab0 ok (Aa0 ok rfl) Ac0) hP (Nat.le_of_ble_eq_true rfl))) (by simp; unfold sizeLine; lia)) rfl) hRc hRc hRd)
noncomputable abbrev rwR:RowW:=PySem.Challenge.rw_ny0267_01.row.toRowW
theorem Vk0 {R:WRecords}:∀ {xs:List WData},WShape.hasItems R xs .int = true→∃ ns:List Int,xs = ns.map .int
 | [],_=>⟨[],rfl⟩
 | x :: xs,h=>by
  have h':(WShape.has R x .int && WShape.hasItems R xs .int) = true:=h
  rw [Bool.and_eq_true] at h'
  obtain ⟨ns,hQ228⟩:=Vk0 h'.2; subst hQ228
  obtain ⟨i,hi⟩:=hasW_int h'.1
  exact ⟨i :: ns,hi ▸ rfl⟩
theorem Eh0 {R:WRecords} {x:WData} (h:WShape.has R x (.list .int) = true):∃ ns:List Int,x = .list (ns.map .int):=by
 obtain ⟨xs,hx,h1⟩:=hasW_list h
 obtain ⟨ns,hn⟩:=Vk0 h1
 exact ⟨ns,hx.trans (congrArg WData.list hn)⟩
theorem Ea1 {args:List WData} (h:rwR.claim.pre args = true):∃ ns:List Int,args = [.list (ns.map .int)]∧ns.length ≤ 63:=by
 have h':(WShape.hasAll [] args [.list .int] && WTm.holds [] (OpenLaw.pre PySem.Challenge.rw_ny0267_01) { args:=args }) = true:=h
 rw [Bool.and_eq_true] at h'
 obtain ⟨h1,h2⟩:=h'
 match args,h1 with
 | [],h1=>cases h1
 | x :: xs,h1 =>
  have h1':(WShape.has [] x (.list .int) && WShape.hasAll [] xs []) = true:=h1
  rw [Bool.and_eq_true] at h1'
  obtain ⟨ns,hQ229⟩:=Eh0 h1'.1; subst hQ229
  have hxs:xs = []:=by
   match xs,h1'.2 with
   | [],_=>rfl
   | y :: ys,h=>cases h
  subst hxs
  refine ⟨ns,rfl,?_⟩
  have hpre:OpenLaw.pre PySem.Challenge.rw_ny0267_01 = .and (.not (.lt (.lit (.int 63)) (.len (.arg 0)))) (.lit (.bool true)):=rfl
  rw [hpre] at h2
  rw [holdsW_of_value (w_and (w_not (w_lt w_lit (w_len_list (w_arg rfl)))) w_lit),Bool.and_true,Bool.not_eq_true',decide_eq_false_iff_not,List.length_map] at h2
  lia
theorem Hi1 {P:Params} {ns:List Int} (r:WellAll P h vs (ns.map .int)):RdAll g vs (ns.map .int):=by
 induction ns generalizing vs with
 | nil=>cases r; exact .nil
 | cons n ns ih =>
  obtain ⟨v,vs',hQ230,h1,h2⟩:=wellAll_cons_inv r; subst hQ230
  cases h1
  exact .cons (.int _ _) (ih h2)
theorem Au1 {P:Params} (hX:∀ a ∈ X,∀ o,h.get? a = some o→o.cls ≠ .type "list") {ns:List Int} {v:Value} (r:Well P h v (.list (ns.map .int))):Rd (fz X h) v (.list (ns.map .int)):=by
 cases r with
 | list e q=>exact .list (Bf0 e fun hm=>hX _ hm _ e rfl) (Hi1 q)
theorem Ly1 {s₀:Shared} {mg mb:Str→Option Value} {q:Program} {loose:List Str} {R:WRecords} {XP:(Str→Option Value)→Heap→Prop} (G:Ground q loose R XP w s₀ mg mb h) (K:(KF w).In h):Wd w h where
 k:=K
 g:=⟨mg,G.T.g⟩
 b:=⟨mb,G.T.b,G.T.builtins⟩
 nolimit:=G.T.nolimit
 bm:=by
  obtain ⟨bm,ob,h1,_,h2,h3,h4,h5⟩:=G.T.bmain
  have e:mg "__builtins__" = some (.ref 4):=mg_of K G.T.g (show nsIn (KF w) mainGlobals "__builtins__" = some (some (.ref 4)) from rfl)
  rw [e] at h1
  cases h1
  exact ⟨ob,h2,h3,h4,h5⟩
theorem Jw1 {mg:Str→Option Value} (K:(KF w).In h) (g:h.Ns mainGlobals mg) (hm:mg (oS "law") = some (.ref a)):a = 268:=by
 have e:mg (oS "law") = some (.ref 268):=mg_of K g (show nsIn (KF w) mainGlobals (oS "law") = some (some (.ref 268)) from rfl)
 rw [e] at hm
 cases hm; rfl
theorem Hj1 (W:(KF w).In s.heap) (k:Kp [] s s') (h0:s.heap.get? tA = some (tabObj #[])) (t:TabOk s'.heap):OldK s.heap s'.heap:=by
 have hc:isCodeTable s.heap tA:=⟨64,_,_,W 64 _ (show (KF w).lookup 64 = some _ from rfl),rfl,rfl,rfl⟩
 refine ⟨fun b o e=>?_,fun b o e=>?_⟩
 ·by_cases q:b = tA
  ·subst q
   rw [h0] at e; cases e
   obtain ⟨vs,e',_⟩:=t
   exact .inr (.inl ⟨hc,rfl,#[],vs,rfl,by rw [e',Array.empty_append]⟩)
  ·exact .inl (k.keep b o e (by simp) q)
 ·by_cases q:b = tA
  ·subst q; obtain ⟨vs,e',_⟩:=t; exact ⟨_,e'⟩
  ·exact ⟨o,k.keep b o e (by simp) q⟩
theorem Av1 (args:List WData):(WShape.has [] (.bool true) .bool && WTm.holds [] (.eq .res (.lit (.bool true))) { args:=args,res:=some (WData.bool true),after:=args }) = true:=by
 rw [holdsW_of_value (w_eq_bool (w_res rfl) w_lit),show WShape.has [] (.bool true) .bool = true by decide +kernel]; rfl
theorem Hk1 (H:∀ (w:World) (script:List Int),script.length ≤ 63→Kn1 w 10 268 [.list (script.map .int)] (.bool true)):PySem.Challenge.rw_ny0267_01.Holds:=by
 refine Mine.hd ⟨Ce1 Ko1 Kr1 (fun _=>by kernel_rfl),?_⟩
 intro w s₀ s₁ mg mb G Y a o pm cd doc dV kV ho hd hcode hdf hmg hgens args vals as hpre hlay hrd hwell has
 obtain ⟨ns,hQ231,hlen⟩:=Ea1 hpre; subst hQ231
 have K:(KF w).In s₁.heap:=Y.1
 have h60:s₁.heap.get? tA = some (tabObj #[]):=Y.2 60 (.head _)
 have ha:=Jw1 K G.T.g hmg
 subst ha
 obtain ⟨v,vs',hQ232,hw1,hw2⟩:=wellAll_cons_inv hwell; subst hQ232
 cases hw2
 have am:Amb w callerA [] [tA] 10 { s₁ with toks:=s₁.toks + 1 }:=by
  refine ⟨Ly1 G K,⟨#[],h60,.inl rfl⟩,fun _=>rfl,by decide,by decide,⟨[],rfl,rfl,fun _ h=>(nomatch h)⟩,fun b hb=>(nomatch hb),List.mem_singleton.mpr rfl,fun b hb=>(nomatch hb),fun b hb=>?_,Nat.succ_pos _⟩
  rw [List.mem_singleton.mp hb]; exact ⟨_,h60,.inl rfl⟩
 have hX:∀ a ∈ [tA],∀ o,s₁.heap.get? a = some o→o.cls ≠ .type "list" := fun a ha o e q=>by
  rw [List.mem_singleton.mp ha,h60] at e; cases e; cases q
 refine wpAny_call (codeAny_mono (H w ns hlen callerA [] [tA] s₁ [v] am (.cons (Au1 hX hw1) .nil)) fun r s'=>?_)
 rintro ⟨u,rfl,k,r⟩
 rw [r.bool_inv]
 refine ⟨.inl ⟨.bool true,.bool true,[],rfl,fun cls=>rfl,.bool _,?_,fun _=>⟨List.nodup_nil,fun a ha=>by cases ha⟩⟩,Hj1 K k h60 (k.tab ⟨#[],h60,.inl rfl⟩),k.os,?_⟩
 ·show (WShape.has [] (.bool true) .bool && WTm.holds [] (.eq .res (.lit (.bool true))) { args:=[WData.list (List.map WData.int ns)],res:=some (WData.bool true),after:=[WData.list (List.map WData.int ns)] }) = true
  exact Av1 _
 ·rw [k.gens,hgens]
  exact .of_eq rfl
theorem Hl1 (h:EvD c ρ e (.str x)) (hsz:x.length < 2 ^ 62)
  (he:∀ whole,isTrue e c.env whole = (do let v ← whole; standAt e.pos; holding [v] (truthy v)):=by intro _; rfl):EvB c ρ e (x.length != 0):=fun s S E =>
 wpAny_isTrue_value (wM (h s S E) (fun v s' hh=>by
  obtain ⟨k,r⟩:=hh
  obtain ⟨t,hQ233⟩:=r.str_inv; subst hQ233
  refine PySem.P.truthy_str (by lia) ⟨k.trans (.toks _ _),?_⟩
  rw [Bool.eq_iff_iff]; simp) fun _ _ x=>x) (he _)
theorem Xg0 {z:Str} {k1' k2:Nat} {p1 p2:Pos} (ok:CxOk c) (h1:EvD c ρ o (.str x)) (hyz:(y == z) = false) (hb:x.length + (x.length + 1) * z.length ≤ 16777216)
  (hbase:attributeBase o (oS "replace") c.env (eval o c.env) = eval o c.env:=by rfl) (hline:(apos.endLine == pos.line) = true:=by rfl) :
  EvD c ρ (.Call (.Attribute o (oS "replace") apos) [.Constant (.str y) k1' p1,.Constant (.str z) k2 p2] [] pos) (.str (Txt.replace x y z)):=fun s S E=>by
 refine wpAny_Call_method_lateS hbase (by rfl) hline (Ad0 ok h1 S (.refl _ _) fun v s1 S1 k1 _ p=>?_)
 obtain ⟨t,hQ234⟩:=p.str_inv; subst hQ234
 refine ⟨"str", "str.replace",F.plainAttrs_str,F.slot_str_replace,F.type_str_replace,typeIs_str _ _ _,(fun b q=>by cases q),?_⟩
 refine callWith_builtin (by rfl) (evalArgs_plain (spliced_cons ?_))
 refine wpAny_Constant_str (k:=k1') (pos:=p1) (spliced_cons (wpAny_Constant_str (k:=k2) (pos:=p2) (spliced_nil ?_)))
 have:=S1.toks
 exact SC.replace (Nat.ne_of_gt this) (Nat.succ_ne_zero _) (Nat.ne_of_lt (Nat.lt_succ_self _)) hyz hb fun t' k=>⟨k1.trans (Kp.toks _ _),.str _ _⟩
theorem Tz0 {P1:Heap→Value→Prop} {b:Bool} (h:∀ g v,P1 g v→(v == Value.none) = b):Uf0 c ρ .Is P1 (pD c ρ .none) b:=fun s u v S p q E=>by
 cases q
 refine is_none ⟨.refl _ _,?_⟩
 rw [← h _ _ p]
theorem Aw1 (ok:CxOk c) (hx:c.env.kindOf (oS "_find_unsafe") = some .globalImplicit) (h:EvD c ρ e (.str x)) (hn:1 ≤ x.cps.size) (hsz:x.cps.size < 2 ^ 62) (hal:∀ a ∈ x.cps,Dr0 a)
  (he:starEach [e] c.env = [(false,eval e c.env)]:=by rfl):Ev c ρ (.Call (.Name (oS "_find_unsafe") np) [e] [] pos) fun _ v=>(v == Value.none) = Jq0 x:=fun s S E =>
 wpAny_Call_NameR (Ad0 ok (Bp0 ok (Nq0 _) hx) S (.refl _ _) fun v s1 S1 k1 _ hv=>by
  subst hv
  have hp:∀ Q,wpAny (MM c.w) c.A (eval e c.env) (fun v s'=>Q ⟨[v],[]⟩ s') E s1→wpAny (MM c.w) c.A (evalArgs (.ref 191) true (backTo pos (starEach [e] c.env)) []) Q E s1:=by
   intro Q hq; rw [he]; exact evalArgs_plain (spliced_cons (wM hq (fun _ _ h=>spliced_nil h) fun _ _ x=>x))
  refine Qc0 (id := "re.Pattern.search") (xx:=.ref 190) (by rw [he]; rfl) (hp _ (Ad0 ok h S1 k1 fun u s2 S2 k2 k2' p=>?_))
  obtain ⟨t,hQ235⟩:=p.str_inv; subst hQ235
  have h191:=S2.kf ok (show (KF c.w).lookup 191 = some _ from rfl) (by decide) (by decide)
  have h190:=S2.kf ok (show (KF c.w).lookup 190 = some _ from rfl) (by decide) (by decide)
  have h189:=S2.kf ok (show (KF c.w).lookup 189 = some _ from rfl) (by decide) (by decide)
  refine ⟨h191,?_⟩
  refine Cn1 h191 (fun A' P E' hp'=>Qf0 h190 rfl rfl hp') Qe0 Qd0 fun A' P E' _ hP _=>?_
  refine Wl0 h190 h189 (by decide +kernel) hn hsz hal (fun hs=>hP _ _ ⟨k2',?_⟩) (fun hs h' r hk=>hP _ _ ⟨k2'.trans (.of_all rfl rfl hk),?_⟩)
  ·rw [hs]; rfl
  ·rw [hs]; rfl)
noncomputable def Gd0 (x:Str):Str:=if x.length != 0 then (if Jq0 x then x else oS "'" ++ Txt.replace x (oS "'") (oS "'\"'\"'") ++ oS "'") else oS "''"
theorem Eb1 (w:World) (x:Str) (hx:x.length ≤ 1000) (hal:∀ a ∈ x.cps,Dr0 a) (hl:(Txt.replace x (oS "'") (oS "'\"'\"'")).length ≤ 100000):FnD w 1 198 [.str x] (.str (Gd0 x)):=by
 refine Cp0 (ps:=[oS "s"]) (by rfl) (by rfl) rfl (fun s vs hv=>?_) (by decide) (by rfl) (by decide) (by rfl) ?_
 ·obtain ⟨v,hQ236⟩:=Cg1 hv; subst hQ236
  exact BindsTo.of_eq rfl
 ·intro A X X0 fs fs0 s0 L s1 c ok S E
  refine Em0 ok S (Sh0 (Hl1 (Aa0 ok rfl) (by exact Nat.lt_of_le_of_lt ‹_› (by decide)))) ?_ ?_
  ·intro hb s2 S2
   rw [show Gd0 x = oS "''" by unfold Gd0; rw [if_neg (by simpa using hb)]]
   exact Ax0 (d:=.str (oS "''")) ok S2 Am0 fun v s' S' r=>⟨S'.since,r.mono (Ao0 (Dp0 ok))⟩
  ·intro hb s2 S2
   have hn:1 ≤ x.cps.size:=by
    have:x.length ≠ 0:=by simpa using hb
    unfold Str.length at this; lia
   refine wN ?_
   refine Em0 (b:=Jq0 x) ok S2 (Aq0 ok (Aw1 ok rfl (Aa0 ok rfl) hn (by unfold Str.length at hx; exact Nat.lt_of_le_of_lt ‹_› (by decide)) hal) Fq1 ?_ (Tz0 fun _ _ q=>q)) ?_ ?_
   ·intro s1 s2 v _ _ h; exact h
   ·intro hs s3 S3
    rw [show Gd0 x = x by unfold Gd0; rw [if_pos (by simpa using hb),if_pos hs]]
    exact Ax0 (d:=.str x) ok S3 (Aa0 ok rfl) fun v s' S' r=>⟨S'.since,r.mono (Ao0 (Dp0 ok))⟩
   ·intro hs s3 S3
    refine wN ?_
    rw [show Gd0 x = oS "'" ++ Txt.replace x (oS "'") (oS "'\"'\"'") ++ oS "'" by unfold Gd0; rw [if_pos (by simpa using hb),if_neg (by rw [hs]; decide)]]
    refine Ji0 ok S3 (Be0 ok (Be0 ok Am0 (Xg0 ok (Aa0 ok rfl) (by decide) ?_) ?_) Am0 ?_)
    ·show x.length + (x.length + 1) * 5 ≤ _; lia
    ·show 1 + _ ≤ sizeLine; unfold sizeLine; lia
    ·rw [show (oS "'" ++ Txt.replace x (oS "'") (oS "'\"'\"'")).length = 1 + (Txt.replace x (oS "'") (oS "'\"'\"'")).length from by show (_ ++ _:Array Nat).size = _; rw [Array.size_append]; rfl]
     show _ + 1 ≤ sizeLine; unfold sizeLine; lia
noncomputable def Dx0 (b:List Nat):List Nat→Nat→List Nat
 | [],n=>if b.isPrefixOf [] then [n] else []
 | c :: a,n=>if b.isPrefixOf (c :: a) then n :: Dx0 b a (n + 1) else Dx0 b a (n + 1)
noncomputable def If0 (c:Nat):List Nat:=if c = 39 then [39,34,39,34,39] else [c]
noncomputable def Eg0 (l:List Nat):List Nat:=l.flatMap If0
theorem Bo0 {b:List Nat} {c:Nat} {a:List Nat} {n:Nat} (h:b.isPrefixOf (c :: a) = false):Dx0 b (c :: a) n = Dx0 b a (n + 1):=by
 show (if b.isPrefixOf (c :: a) then _ else _) = _
 rw [h]; rfl
theorem Au0 (x:Nat) (b:List Nat) (c:Nat) (a:List Nat):(x :: b).isPrefixOf (c :: a) = (x == c && b.isPrefixOf a):=rfl
theorem Ax1:∀ (b l:List Nat),39 ∉ b→34 ∉ b→b.isPrefixOf (Eg0 l ++ [39]) = b.isPrefixOf l
 | [],l,_,_=>by cases l <;> simp
 | x :: b,[],h,_=>by
  have hx:x ≠ 39:=fun q=>h (q ▸ .head _)
  show (x :: b).isPrefixOf [39] = false
  rw [Au0]
  have:(x == 39) = false:=by simpa using hx
  rw [this]; rfl
 | x :: b,c :: l,h,h'=>by
  have hx:x ≠ 39:=fun q=>h (q ▸ .head _)
  have ih:=Ax1 b l (fun q=>h (.tail _ q)) (fun q=>h' (.tail _ q))
  have e:Eg0 (c :: l) = If0 c ++ Eg0 l:=rfl
  rw [e]
  by_cases hc:c = 39
  ·subst hc
   show (x :: b).isPrefixOf (39 :: _) = _
   rw [Au0,Au0]
   have:(x == 39) = false:=by simpa using hx
   rw [this]; rfl
  ·have e2:If0 c = [c]:=by unfold If0; rw [if_neg hc]
   rw [e2]
   show (x :: b).isPrefixOf (c :: (Eg0 l ++ [39])) = _
   rw [Au0,Au0,ih]
theorem Cs0 {α:Type} (n:Nat) (P:Nat→Bool) (f:Nat→α):((List.range (n + 1)).filter P).map f = (if P 0 then [f 0] else []) ++ ((List.range n).filter fun k=>P (k + 1)).map fun k=>f (k + 1):=by
 rw [List.range_succ_eq_map,List.filter_cons,List.filter_map]
 split
 ·simp [Function.comp_def]
 ·simp [Function.comp_def]
theorem Fw0 (c:Nat) (l:List Nat) (k:Nat):((c :: l).take (k + 1)).count 39 = (l.take k).count 39 + if c = 39 then 1 else 0:=by
 rw [List.take_succ_cons,List.count_cons]
 simp
theorem Or0 (x:Nat) (b:List Nat) (h:39 ∉ x :: b) (h':34 ∉ x :: b):∀ (l:List Nat) (n:Nat),Dx0 (x :: b) (Eg0 l ++ [39]) n = ((List.range l.length).filter fun k=>(x :: b).isPrefixOf (l.drop k)).map fun k=>n + k + 4 * (l.take k).count 39
 | [],n=>by
  have hx:(x == 39) = false:=by simpa using fun q:x = 39=>h (q ▸ .head _)
  show Dx0 (x :: b) [39] n = []
  rw [Bo0 (by rw [Au0,hx]; rfl)]
  rfl
 | c :: l,n=>by
  have hx:(x == 39) = false:=by simpa using fun q:x = 39=>h (q ▸ .head _)
  have hx2:(x == 34) = false:=by simpa using fun q:x = 34=>h' (q ▸ .head _)
  have e:Eg0 (c :: l) = If0 c ++ Eg0 l:=rfl
  have hp:=Ax1 (x :: b) (c :: l) h h'
  rw [e] at hp ⊢
  rw [List.length_cons,Cs0]
  by_cases hc:c = 39
  ·subst hc
   have e2:If0 39 = [39,34,39,34,39]:=rfl
   rw [e2]
   have n1:∀ t,(x :: b).isPrefixOf (39 :: t) = false:=fun t=>by rw [Au0,hx]; rfl
   have n2:∀ t,(x :: b).isPrefixOf (34 :: t) = false:=fun t=>by rw [Au0,hx2]; rfl
   show Dx0 (x :: b) (39 :: 34 :: 39 :: 34 :: 39 :: (Eg0 l ++ [39])) n = _
   rw [Bo0 (n1 _),Bo0 (n2 _),Bo0 (n1 _),Bo0 (n2 _),Bo0 (n1 _),Or0 x b h h' l]
   rw [if_neg (by rw [List.drop_zero,n1]; decide)]
   rw [List.nil_append]
   refine List.map_congr_left fun k _=>?_
   rw [Fw0,if_pos rfl]; simp +arith
  ·have e2:If0 c = [c]:=by unfold If0; rw [if_neg hc]
   rw [e2] at hp ⊢
   show Dx0 (x :: b) (c :: (Eg0 l ++ [39])) n = _
   have hp:(x :: b).isPrefixOf (c :: (Eg0 l ++ [39])) = (x :: b).isPrefixOf (c :: l):=hp
   show (if (x :: b).isPrefixOf (c :: (Eg0 l ++ [39])) then n :: Dx0 (x :: b) (Eg0 l ++ [39]) (n + 1) else Dx0 (x :: b) (Eg0 l ++ [39]) (n + 1)) = _
   rw [hp,List.drop_zero,Or0 x b h h' l]
   have e3:(((List.range l.length).filter fun k=>(x :: b).isPrefixOf ((c :: l).drop (k + 1))).map fun k=>n + (k + 1) + 4 * ((c :: l).take (k + 1)).count 39) = ((List.range l.length).filter fun k=>(x :: b).isPrefixOf (l.drop k)).map fun k=>n + 1 + k + 4 * (l.take k).count 39:=by
    refine List.map_congr_left fun k _=>?_
    rw [Fw0,if_neg hc]; simp +arith
   rw [e3]
   split
   ·simp
   ·simp
noncomputable def WW:List (List Nat)→List Nat
 | []=>[39]
 | [x]=>x ++ [39]
 | x :: y :: r=>x ++ 39 :: 34 :: 39 :: 34 :: 39 :: WW (y :: r)
theorem Ku0:∀ (r x:List Nat),39 ∉ r→39 ∉ x→∀ A B,(r ++ 39 :: A).isPrefixOf (x ++ 39 :: B) = (r == x && A.isPrefixOf B)
 | [],[],_,_,A,B=>by simp [Au0]
 | [],c :: x,_,h,A,B=>by
  have:(39 == c) = false:=by simpa using fun q:39 = c=>h (q ▸ .head _)
  show (39 :: A).isPrefixOf (c :: (x ++ 39 :: B)) = _
  rw [Au0,this]; rfl
 | c :: r,[],h,_,A,B=>by
  have:(c == 39) = false:=by simpa using fun q:c = 39=>h (q ▸ .head _)
  show (c :: (r ++ 39 :: A)).isPrefixOf (39 :: B) = _
  rw [Au0,this]; rfl
 | c :: r,d :: x,h,h',A,B=>by
  have ih:=Ku0 r x (fun q=>h (.tail _ q)) (fun q=>h' (.tail _ q)) A B
  show (c :: (r ++ 39 :: A)).isPrefixOf (d :: (x ++ 39 :: B)) = _
  rw [Au0,ih]
  show _ = ((c == d && r == x) && _)
  rw [Bool.and_assoc]
theorem Ay1:∀ (run ps:List (List Nat)),run ≠ []→ps ≠ []→(∀ r ∈ run,39 ∉ r)→(∀ r ∈ ps,39 ∉ r)→(WW run).isPrefixOf (WW ps) = run.isPrefixOf ps
 | [],_,h,_,_,_=>absurd rfl h
 | _ :: _,[],_,h,_,_=>absurd rfl h
 | [r],[x],_,_,h1,h2=>by
  show (r ++ 39 :: []).isPrefixOf (x ++ 39 :: []) = _
  rw [Ku0 r x (h1 r (.head _)) (h2 x (.head _))]; rfl
 | [r],x :: y :: t,_,_,h1,h2=>by
  show (r ++ 39 :: []).isPrefixOf (x ++ 39 :: _) = _
  rw [Ku0 r x (h1 r (.head _)) (h2 x (.head _))]
  rfl
 | r :: s :: t,[x],_,_,h1,h2=>by
  show (r ++ 39 :: _).isPrefixOf (x ++ 39 :: []) = _
  rw [Ku0 r x (h1 r (.head _)) (h2 x (.head _))]
  show _ = (r == x && (s :: t).isPrefixOf [])
  rfl
 | r :: s :: t,x :: y :: u,_,_,h1,h2=>by
  show (r ++ 39 :: _).isPrefixOf (x ++ 39 :: _) = _
  rw [Ku0 r x (h1 r (.head _)) (h2 x (.head _))]
  have ih:=Ay1 (s :: t) (y :: u) (by simp) (by simp) (fun q hq=>h1 q (.tail _ hq)) (fun q hq=>h2 q (.tail _ hq))
  show (r == x && (WW (s :: t)).isPrefixOf (WW (y :: u))) = (r == x && (s :: t).isPrefixOf (y :: u))
  rw [ih]
theorem Os0 {b:List Nat}:∀ (x:List Nat) (t:List Nat) (n:Nat),39 ∉ x→Dx0 (39 :: b) (x ++ t) n = Dx0 (39 :: b) t (n + x.length)
 | [],t,n,_=>rfl
 | c :: x,t,n,h=>by
  have:(39 == c) = false:=by simpa using fun q:39 = c=>h (q ▸ .head _)
  show Dx0 (39 :: b) (c :: (x ++ t)) n = _
  rw [Bo0 (by rw [Au0,this]; rfl),Os0 x t (n + 1) fun q=>h (.tail _ q)]
  rw [List.length_cons]
  congr 1; exact Nat.add_right_comm _ _ _
theorem Az1 {run:List (List Nat)} (h0:run ≠ []) (h1:∀ r ∈ run,34 ∉ r):∃ d t,WW run = d :: t∧d ≠ 34:=by
 match run,h0 with
 | [[]],_=>exact ⟨39,[],rfl,by decide⟩
 | [] :: y :: r,_=>exact ⟨39,_,rfl,by decide⟩
 | [d :: t],_=>exact ⟨d,_,rfl,fun q=>h1 _ (.head _) (q ▸ .head _)⟩
 | (d :: t) :: y :: r,_=>exact ⟨d,_,rfl,fun q=>h1 _ (.head _) (q ▸ .head _)⟩
theorem Fi1 {run:List (List Nat)} (h0:run ≠ []) (h1:∀ r ∈ run,39 ∉ r) (h2:∀ r ∈ run,34 ∉ r):∀ (ps:List (List Nat)) (n:Nat),ps ≠ []→(∀ r ∈ ps,39 ∉ r) →
  Dx0 (39 :: WW run) (39 :: WW ps) n = ((List.range ps.length).filter fun k=>run.isPrefixOf (ps.drop k)).map fun k=>n + ((ps.take k).map List.length).sum + 5 * k
 | [],_,h,_=>absurd rfl h
 | [x],n,_,h3=>by
  have hp:=Ay1 run [x] h0 (by simp) h1 h3
  have hrest:Dx0 (39 :: WW run) (WW [x]) (n + 1) = []:=by
   show Dx0 (39 :: WW run) (x ++ [39]) (n + 1) = []
   rw [Os0 x [39] _ (h3 x (.head _))]
   obtain ⟨d,t,e,_⟩:=Az1 h0 h2
   rw [e,Bo0 (by rw [Au0]; rfl)]
   rfl
  show (if (39 :: WW run).isPrefixOf (39 :: WW [x]) then n :: Dx0 _ (WW [x]) (n + 1) else Dx0 _ (WW [x]) (n + 1)) = _
  rw [hrest,Au0,hp]
  rw [show ([x]:List (List Nat)).length = 0 + 1 from rfl,Cs0]
  simp
 | x :: y :: r,n,_,h3=>by
  have hp:=Ay1 run (x :: y :: r) h0 (by simp) h1 h3
  have ih:=Fi1 h0 h1 h2 (y :: r) (n + x.length + 5) (by simp) fun q hq=>h3 q (.tail _ hq)
  have hrest:Dx0 (39 :: WW run) (WW (x :: y :: r)) (n + 1) = Dx0 (39 :: WW run) (39 :: WW (y :: r)) (n + x.length + 5):=by
   show Dx0 (39 :: WW run) (x ++ 39 :: 34 :: 39 :: 34 :: 39 :: WW (y :: r)) (n + 1) = _
   rw [Os0 x _ _ (h3 x (.head _))]
   obtain ⟨d,t,e,hd⟩:=Az1 h0 h2
   have hd':(d == 34) = false:=by simpa using hd
   have n1:∀ u,(39 :: WW run).isPrefixOf (39 :: 34 :: u) = false:=fun u=>by rw [e,Au0,Au0,hd']; rfl
   have n2:∀ u,(39 :: WW run).isPrefixOf (34 :: u) = false:=fun u=>by rw [Au0]; rfl
   rw [Bo0 (n1 _),Bo0 (n2 _),Bo0 (n1 _),Bo0 (n2 _)]
   congr 1; simp +arith
  show (if (39 :: WW run).isPrefixOf (39 :: WW (x :: y :: r)) then n :: Dx0 _ (WW (x :: y :: r)) (n + 1) else Dx0 _ (WW (x :: y :: r)) (n + 1)) = _
  rw [hrest,ih,Au0,hp]
  rw [show (x :: y :: r).length = (y :: r).length + 1 from rfl,Cs0]
  have e3:(((List.range (y :: r).length).filter fun k=>run.isPrefixOf ((x :: y :: r).drop (k + 1))).map fun k=>n + (((x :: y :: r).take (k + 1)).map List.length).sum + 5 * (k + 1)) = ((List.range (y :: r).length).filter fun k=>run.isPrefixOf ((y :: r).drop k)).map fun k=>n + x.length + 5 + (((y :: r).take k).map List.length).sum + 5 * k:=by
   refine List.map_congr_left fun k _=>?_
   rw [List.take_succ_cons,List.map_cons,List.sum_cons]; lia
  rw [e3]
  simp only [beq_self_eq_true,Bool.true_and,List.drop_zero,List.take_zero,List.map_nil,List.sum_nil]
  split <;> simp
theorem Vl0 {b:List Nat}:∀ (l:List Nat) (n:Nat),39 ∉ l→Dx0 (39 :: b) l n = []
 | [],_,_=>rfl
 | c :: l,n,h=>by
  have:(39 == c) = false:=by simpa using fun q:39 = c=>h (q ▸ .head _)
  rw [Bo0 (by rw [Au0,this]; rfl)]
  exact Vl0 l (n + 1) fun q=>h (.tail _ q)
theorem Rt0 (x:Nat) (b:List Nat):∀ (l:List Nat) (n:Nat),Dx0 (x :: b) l n = ((List.range l.length).filter fun k=>(x :: b).isPrefixOf (l.drop k)).map fun k=>n + k
 | [],_=>rfl
 | c :: l,n=>by
  rw [List.length_cons,Cs0]
  show (if (x :: b).isPrefixOf (c :: l) then n :: Dx0 (x :: b) l (n + 1) else Dx0 (x :: b) l (n + 1)) = _
  rw [Rt0 x b l]
  have e3:(((List.range l.length).filter fun k=>(x :: b).isPrefixOf ((c :: l).drop (k + 1))).map fun k=>n + (k + 1)) = ((List.range l.length).filter fun k=>(x :: b).isPrefixOf (l.drop k)).map fun k=>n + 1 + k:=by
   refine List.map_congr_left fun k _=>?_
   simp +arith
  rw [e3,List.drop_zero]
  split <;> simp
section
open PySem.Builtin.Str
noncomputable abbrev LL (x:Str):List Nat:=x.cps.toList
theorem Fo0 (h:LL x = LL y):x = y:=Str.ext' (Array.toList_inj.mp h)
theorem Dm0 (x y:Str):LL (x ++ y) = LL x ++ LL y:=by show (x.cps ++ y.cps).toList = _; simp
theorem Vm0 (x y:Str):(x == y) = (LL x == LL y):=by
 rw [Bool.eq_iff_iff,beq_iff_eq,beq_iff_eq]
 exact ⟨fun h=>by rw [h],Fo0⟩
theorem Lz1 (x y:Str):(x != y) = (LL x != LL y):=by
 show (!(x == y)) = !(LL x == LL y)
 rw [Vm0]
theorem Kv0 (x:Str) (a b:Nat) (hab:a ≤ b):LL (Txt.slice x (some (a:Int)) (some (b:Int))) = ((LL x).drop a).take (b - a):=by
 by_cases hb:b ≤ x.length
 ·have:=StrLaws.sliceText_nat x hab hb
  show LL (StrLaws.sliceText x (some (a:Int)) (some (b:Int))) = _
  rw [this]
 ·have e:strSliceIndices (some (a:Int)) (some (b:Int)) 1 x.length = strSliceIndices (some ((min a x.length:Nat):Int)) (some (x.length:Int)) 1 x.length:=by
   have h1:¬ ((a:Int) < 0):=by simp +arith
   have h2:¬ ((b:Int) < 0):=by simp +arith
   have h3:¬ (((min a x.length:Nat):Int) < 0):=by simp +arith
   have h4:¬ ((x.length:Int) < 0):=by simp +arith
   unfold strSliceIndices
   simp only [h1,h2,h3,h4,if_false,show (1:Int) > 0 from by decide,if_true]
   congr 1 <;> grind
  have e2:Txt.slice x (some (a:Int)) (some (b:Int)) = StrLaws.sliceText x (some ((min a x.length:Nat):Int)) (some (x.length:Int)):=by
   unfold Txt.slice StrLaws.sliceText; rw [e]
  rw [e2,StrLaws.sliceText_nat x (Nat.min_le_right _ _) (Nat.le_refl _)]
  show ((LL x).drop (min a x.length)).take (x.length - min a x.length) = _
  have hl:(LL x).length = x.length:=rfl
  by_cases ha:a ≤ x.length
  ·rw [Nat.min_eq_left ha,List.take_of_length_le (by rw [List.length_drop,hl]; exact Nat.le_refl _),List.take_of_length_le (by rw [List.length_drop,hl]; grind)]
  ·rw [Nat.min_eq_right (by lia),List.drop_eq_nil_of_le (by exact Nat.le_refl _),List.drop_eq_nil_of_le (by lia)]; simp
theorem Ot0 (x:Str) (b:Nat):LL (Txt.slice x none (some (b:Int))) = (LL x).take b:=by
 have e:Txt.slice x none (some (b:Int)) = Txt.slice x (some ((0:Nat):Int)) (some (b:Int)):=by
  unfold Txt.slice
  rw [StrLaws.sliceIdx_none_lo]; rfl
 rw [e,Kv0 x 0 b (Nat.zero_le _)]; simp
noncomputable def Ig0 (l:List Nat):Bool:=!l.isEmpty && l.all fun c=>c == 97 || c == 98
theorem Jx1 (c:Nat):Txt.contains (oS "ab") ⟨#[c]⟩ = (c == 97 || c == 98):=by
 show (!(occurrences (oS "ab") ⟨#[c]⟩ 0 (oS "ab").length 1).isEmpty) = _
 rw [StrLaws.found_one]
 have:(oS "ab").cps.toList = [97,98]:=by decide
 rw [this]
 rw [Bool.eq_iff_iff]; simp
theorem Hm1 (x:Str):(Gz0 x).isEmpty = (LL x).all fun c=>c == 97 || c == 98:=by
 unfold Gz0 Bc0
 show (((LL x).map fun c=>(⟨#[c]⟩:Str)).filter _).isEmpty = _
 generalize LL x = l
 induction l with
 | nil=>rfl
 | cons c l ih =>
  rw [List.map_cons,List.filter_cons,List.all_cons,Jx1,← ih]
  cases (c == 97 || c == 98) <;> simp
theorem Ou0 (x:Str):Kc0 x = Ig0 (LL x):=by
 unfold Kc0 Ig0
 rw [Lz1,← Hm1]
 have h1:(LL x != LL (oS "")) = !(LL x).isEmpty:=by
  have:LL (oS "") = []:=by decide
  rw [this]
  cases LL x <;> rfl
 rw [h1]
 congr 1
 cases Gz0 x <;> rfl
theorem Ir0 (ps:List Str):LL (glued (oS "") ps) = ps.flatMap LL:=by
 have he:(oS "").cps = #[]:=by decide
 unfold glued
 rw [he]
 have key:∀ (l:List Str) (acc:Array Nat),(l.foldl (fun acc p=>acc ++ (#[]:Array Nat) ++ p.cps) acc).toList = acc.toList ++ l.flatMap LL:=by
  intro l
  induction l with
  | nil=>intro acc; simp
  | cons p l ih=>intro acc; rw [List.foldl_cons,ih]; simp
 show (List.foldl (fun acc p=>acc ++ (#[]:Array Nat) ++ p.cps) (ps.headD Str.empty).cps (ps.drop 1)).toList = _
 rw [key]
 cases ps with
 | nil=>simp [Str.empty]
 | cons p r=>simp
theorem Ov0 (c:Nat):LL (Fh0 ⟨#[c]⟩) = If0 c:=by
 unfold Fh0 If0
 rw [Vm0]
 have h1:LL (oS "'") = [39]:=by decide
 have h2:LL (oS "'\"'\"'") = [39,34,39,34,39]:=by decide
 rw [h1]
 show LL (if ([c] == [39]) = true then _ else _) = _
 by_cases hc:c = 39
 ·subst hc; simp [h2]
 ·have:([c] == [39]) = false:=by simpa using hc
  rw [this,if_neg hc]; rfl
noncomputable def Ow0 (l:List Nat):List Nat:=if Ig0 l then l else 39 :: (Eg0 l ++ [39])
theorem Dn0 (x:Str):LL (Ak0 x) = Ow0 (LL x):=by
 unfold Ak0 Ow0
 rw [Ou0]
 cases Ig0 (LL x) with
 | true=>rfl
 | false =>
  simp only [Bool.false_eq_true,if_false]
  rw [Dm0,Dm0]
  have h1:LL (oS "'") = [39]:=by decide
  rw [h1]
  show [39] ++ LL (glued (oS "") ((Bc0 x).map Fh0)) ++ [39] = _
  rw [Ir0]
  have:((Bc0 x).map Fh0).flatMap LL = Eg0 (LL x):=by
   unfold Bc0 Eg0
   show (((LL x).map fun c=>(⟨#[c]⟩:Str)).map Fh0).flatMap LL = _
   rw [List.map_map,List.flatMap_map]
   congr 1
   funext c
   exact Ov0 c
  rw [this]; rfl
end
section
open PySem.Builtin.Str
theorem Vn0:apo = ⟨#[39]⟩:=Fo0 (by decide)
theorem Kw0:∀ l:List Nat,39 ∉ l→Eg0 l = l
 | [],_=>rfl
 | c :: l,h=>by
  have hc:c ≠ 39:=fun q=>h (q ▸ .head _)
  have e:If0 c = [c]:=by unfold If0; rw [if_neg hc]
  show If0 c ++ Eg0 l = _
  rw [e,Kw0 l fun q=>h (.tail _ q)]; rfl
theorem Vo0 (a b:List Nat):Eg0 (a ++ b) = Eg0 a ++ Eg0 b:=by unfold Eg0; rw [List.flatMap_append]
theorem Ba1 {z:Str} (hz:LL z = [39,34,39,34,39]):∀ ps:List Str,ps ≠ []→LL (Str.join z ps) ++ [39] = WW (ps.map LL)
 | [],h=>absurd rfl h
 | [x],_=>rfl
 | x :: y :: r,_=>by
  have ih:=Ba1 hz (y :: r) (by simp)
  show LL (x ++ z ++ Str.join z (y :: r)) ++ [39] = LL x ++ 39 :: 34 :: 39 :: 34 :: 39 :: WW ((y :: r).map LL)
  rw [Dm0,Dm0,hz,← ih]
  simp
theorem Jc0 {z:Str} (hz:LL z = [39,34,39,34,39]):∀ ps:List Str,(∀ p ∈ ps,39 ∉ LL p)→Eg0 (LL (Str.join ⟨#[39]⟩ ps)) = LL (Str.join z ps)
 | [],_=>rfl
 | [x],h=>Kw0 _ (h x (.head _))
 | x :: y :: r,h=>by
  have ih:=Jc0 hz (y :: r) fun p hp=>h p (.tail _ hp)
  show Eg0 (LL (x ++ ⟨#[39]⟩ ++ Str.join ⟨#[39]⟩ (y :: r))) = LL (x ++ z ++ Str.join z (y :: r))
  rw [Dm0,Dm0,Dm0,Dm0,Vo0,Vo0,ih,hz,Kw0 _ (h x (.head _))]
  rfl
theorem Vp0 (x y:Str):Txt.split x y ≠ []:=by
 unfold Txt.split
 split
 ·simp
 ·split
  ·simp
  ·rw [StrLaws.partsBetween_eq]
   obtain ⟨p,r,e⟩:=StrLaws.partsFrom_ne x y.length 0 (occurrences x y 0 x.length (x.length + 1))
   rw [e]; simp
theorem Kx0 (x:Str):Txt.split x apo ≠ []∧(∀ p ∈ (Txt.split x apo).map LL,39 ∉ p)∧Eg0 (LL x) ++ [39] = WW ((Txt.split x apo).map LL)∧LL (Str.join ⟨#[39]⟩ (Txt.split x apo)) = LL x:=by
 rw [Vn0]
 have h1:=Vp0 x ⟨#[39]⟩
 have h2:∀ p ∈ Txt.split x ⟨#[39]⟩,39 ∉ LL p:=fun p hp=>StrLaws.split_free x 39 p hp
 have h3:=StrLaws.join_split x ⟨#[39]⟩
 refine ⟨h1,fun p hp=>?_,?_,by rw [h3]⟩
 ·obtain ⟨q,hq,hQ237⟩:=List.mem_map.mp hp; subst hQ237; exact h2 q hq
 ·have hz:LL (oS "'\"'\"'") = [39,34,39,34,39]:=by decide
  rw [← Ba1 hz _ h1,← Jc0 hz _ h2,h3]
theorem Ec1 (x:Str) (ha:∀ a ∈ x.cps,Dr0 a):LL (Gd0 x) = Ow0 (LL x):=by
 unfold Gd0 Ow0
 have hs:Jq0 x = (LL x).all fun c=>c == 97 || c == 98:=by
  unfold Jq0; rw [← Array.all_toList]
 by_cases h0:x.length = 0
 ·have hl:LL x = []:=List.length_eq_zero_iff.mp h0
  rw [if_neg (by simp [h0]),hl]
  decide
 ·have hne:(LL x).isEmpty = false:=by
   cases q:LL x with
   | nil=>exact absurd (by show (LL x).length = 0; rw [q]; rfl) h0
   | cons _ _=>rfl
  rw [if_pos (by simp [h0])]
  unfold Ig0
  rw [hne,← hs]
  cases hsb:Jq0 x with
  | true=>simp
  | false =>
   simp only [Bool.false_eq_true,if_false,Bool.not_false,Bool.true_and]
   have h1:LL (oS "'") = [39]:=by decide
   have hz:LL (oS "'\"'\"'") = [39,34,39,34,39]:=by decide
   rw [Dm0,Dm0,h1]
   have e39:oS "'" = ⟨#[39]⟩:=Vn0
   rw [e39,StrLaws.replace_one]
   have h2:∀ p ∈ Txt.split x ⟨#[39]⟩,39 ∉ LL p:=fun p hp=>StrLaws.split_free x 39 p hp
   rw [← Jc0 hz _ h2,StrLaws.join_split]
   rfl
theorem Xh0 (x:Str) (ha:∀ a ∈ x.cps,Dr0 a):Gd0 x = Ak0 x:=Fo0 (by rw [Ec1 x ha,Dn0])
theorem Vq0:∀ a b:List Str,PyData.eqv (.list (a.map .str)) (.list (b.map .str)) = (a == b)
 | [],[]=>rfl
 | [],_ :: _=>rfl
 | _ :: _,[]=>rfl
 | x :: a,y :: b=>by
  have ih:=Vq0 a b
  show (PyData.eqv (.str x) (.str y) && PyData.eqv (.list (a.map .str)) (.list (b.map .str))) = _
  rw [ih]; rfl
theorem Ed1 {α:Type} (l:List α) (k m:Nat) (hk:k ≤ l.length):Nj0 l (some (k:Int)) (some ((k:Int) + (m:Int))) = (l.drop k).take m:=by
 unfold Nj0
 have h1:(clipAt l.length (k:Int)) = k:=by unfold clipAt; grind
 have h2:(clipAt l.length ((k:Int) + (m:Int))) = min (k + m) l.length:=by unfold clipAt; grind
 simp only [Option.elim]
 rw [h1,h2]
 by_cases q:k + m ≤ l.length
 ·rw [Nat.min_eq_left q]; congr 1; simp +arith
 ·rw [Nat.min_eq_right (by lia),List.take_of_length_le (by rw [List.length_drop]; exact Nat.le_refl _),List.take_of_length_le (by rw [List.length_drop]; grind)]
theorem Hn1 {α:Type} (l:List α) (k:Nat) (hk:k ≤ l.length):Nj0 l none (some (k:Int)) = l.take k:=by
 unfold Nj0
 have h1:(clipAt l.length (k:Int)) = k:=by unfold clipAt; lia
 simp only [Option.elim]
 rw [h1]; simp
theorem Ev0 {α:Type} [BEq α] [LawfulBEq α]:∀ (b a:List α),(a.take b.length == b) = b.isPrefixOf a
 | [],a=>by simp
 | x :: b,[]=>rfl
 | x :: b,c :: a=>by
  have ih:=Ev0 b a
  show ((c == x) && (a.take b.length == b)) = ((x == c) && b.isPrefixOf a)
  rw [ih,Bool.beq_comm]
theorem Bb1 {α β:Type} [BEq α] [LawfulBEq α] [BEq β] [LawfulBEq β] {f:α→β} (hf:∀ x y,f x = f y→x = y):∀ b a:List α,(b.map f).isPrefixOf (a.map f) = b.isPrefixOf a
 | [],a=>by cases a <;> rfl
 | x :: b,[]=>rfl
 | x :: b,c :: a=>by
  have ih:=Bb1 hf b a
  show ((f x == f c) && (b.map f).isPrefixOf (a.map f)) = ((x == c) && b.isPrefixOf a)
  rw [ih]
  congr 1
  rw [Bool.eq_iff_iff,beq_iff_eq,beq_iff_eq]
  exact ⟨hf _ _,fun h=>by rw [h]⟩
theorem Ua0 (part word:Str):Da0 part word = (List.range (LL word).length).filter fun k=>(LL part).isPrefixOf ((LL word).drop k):=by
 unfold Da0
 refine List.filter_congr fun k hk=>?_
 have hk:=List.mem_range.mp hk
 rw [Vm0,show ((k:Int) + (part.length:Int)) = ((k + part.length:Nat):Int) by rfl,Kv0 word k (k + part.length) (by exact Nat.le_add_right _ _)]
 rw [show k + part.length - k = (LL part).length by show _ = part.length; simp +arith]
 exact Ev0 _ _
theorem Ub0 (word:Str) (k:Nat):Ha0 word k = ((LL word).take k).count 39:=by
 unfold Ha0
 have e:Bc0 (Txt.slice word none (some (k:Int))) = ((LL word).take k).map fun c=>(⟨#[c]⟩:Str):=by
  unfold Bc0; rw [show (Txt.slice word none (some (k:Int))).cps.toList = _ from Ot0 word k]
 rw [e,Vn0]
 generalize (LL word).take k = l
 induction l with
 | nil=>rfl
 | cons c l ih =>
  rw [List.map_cons,List.filter_cons,List.count_cons]
  have h1:((⟨#[c]⟩:Str) == ⟨#[39]⟩) = (c == 39):=by
   rw [Vm0]; show ([c] == [39]) = _; simp
  rw [h1]
  cases c == 39
  ·simpa using ih
  ·simpa using ih
theorem Ru0 (run pieces:List Str):Hb0 run pieces = (List.range (pieces.map LL).length).filter fun k=>(run.map LL).isPrefixOf ((pieces.map LL).drop k):=by
 unfold Hb0
 rw [List.length_map]
 refine List.filter_congr fun k hk=>?_
 have hk:=List.mem_range.mp hk
 rw [Ed1 pieces k run.length (by exact Nat.le_of_lt ‹_›),Vq0,Ev0,← List.map_drop,Bb1 fun x y=>Fo0]
theorem Uc0 (pieces:List Str) (k:Nat) (hk:k ≤ pieces.length):Ft0 pieces k = ((((pieces.map LL).take k).map List.length).sum:Nat):=by
 unfold Ft0
 rw [Hn1 pieces k hk,← List.map_take,List.map_map]
 generalize pieces.take k = l
 induction l with
 | nil=>rfl
 | cons p l ih =>
  simp only [List.map_cons,List.sum_cons,Function.comp] at ih ⊢
  rw [ih]; show ((p.length:Nat):Int) + _ = _
  rw [show (LL p).length = p.length from rfl]; rfl
end
section
open PySem.Builtin.Str
noncomputable def Pg0 (a b:Str):List Nat:=Dx0 (LL b) (LL a) 0
theorem Ho0 {l:List Nat} (h:Ig0 l = true):(∃ x b,l = x :: b)∧39 ∉ l∧34 ∉ l:=by
 unfold Ig0 at h
 rw [Bool.and_eq_true,List.all_eq_true] at h
 refine ⟨?_,fun q=>?_,fun q=>?_⟩
 ·cases l with
  | nil=>simp at h
  | cons x b=>exact ⟨x,b,rfl⟩
 ·have:=h.2 _ q; simp at this
 ·have:=h.2 _ q; simp at this
theorem Ox0 (ha:∀ a ∈ x.cps,Dr0 a):34 ∉ LL x:=fun q=>by
 have:=ha 34 (Array.mem_toList_iff.mp q)
 unfold Dr0 at this; simp_all
theorem Vr0:∀ (z:Str) (ps:List Str) (p:Str),p ∈ ps→∀ c ∈ LL p,c ∈ LL (Str.join z ps)
 | z,[x],p,hp,c,hc=>by rw [List.mem_singleton.mp hp] at hc; exact hc
 | z,x :: y :: r,p,hp,c,hc=>by
  show c ∈ LL (x ++ z ++ Str.join z (y :: r))
  rw [Dm0,Dm0]
  rcases List.mem_cons.mp hp with rfl | hp
  ·exact List.mem_append_left _ (List.mem_append_left _ hc)
  ·exact List.mem_append_right _ (Vr0 z (y :: r) p hp c hc)
theorem Bc1 {c:Nat} (h:c ∉ LL x):∀ p ∈ (Txt.split x apo).map LL,c ∉ p:=fun p hp hc=>by
 obtain ⟨q,hq,hQ238⟩:=List.mem_map.mp hp; subst hQ238
 have:=Vr0 ⟨#[39]⟩ _ q hq c hc
 rw [(Kx0 x).2.2.2] at this
 exact h this
theorem Ky0 (p q:Str) (hp:∀ a ∈ p.cps,Dr0 a) (hq:∀ a ∈ q.cps,Dr0 a):Al0 p q = (Pg0 (Ak0 q) (Ak0 p)).map fun (k:Nat)=>(k:Int):=by
 unfold Al0 Pg0
 rw [Dn0,Dn0,Ou0,Ou0]
 unfold Ow0
 cases hbp:Ig0 (LL p) with
 | true =>
  obtain ⟨⟨x,b,e⟩,n39,n34⟩:=Ho0 hbp
  simp only [if_true]
  rw [Ua0]
  cases hbq:Ig0 (LL q) with
  | true =>
   simp only [if_true]
   rw [e,Rt0]
   rw [List.map_map]
   refine List.map_congr_left fun k _=>?_
   show (k:Int) = ((0 + k:Nat):Int); simp +arith
  | false =>
   simp only [Bool.false_eq_true,if_false]
   rw [e] at n39 n34 ⊢
   have hx:(x == 39) = false:=by simpa using fun q:x = 39=>n39 (q ▸ .head _)
   rw [Bo0 (by rw [Au0,hx]; rfl),Or0 x b n39 n34,List.map_map]
   refine List.map_congr_left fun k _=>?_
   rw [Ub0]
   show (1:Int) + (k:Int) + 4 * _ = ((0 + 1 + k + 4 * _:Nat):Int); rfl
 | false =>
  simp only [Bool.false_eq_true,if_false]
  cases hbq:Ig0 (LL q) with
  | true =>
   simp only [if_true]
   rw [Vl0 _ _ (Ho0 hbq).2.1]; rfl
  | false =>
   simp only [Bool.false_eq_true,if_false]
   obtain ⟨p1,p2,p3,_⟩:=Kx0 p
   obtain ⟨q1,q2,q3,_⟩:=Kx0 q
   rw [p3,q3,Fi1 (by simpa using p1) p2 (Bc1 (Ox0 hp)) _ _ (by simpa using q1) q2,Ru0,List.map_map]
   refine List.map_congr_left fun k hk=>?_
   have hk:=List.mem_range.mp (List.mem_filter.mp hk).1
   rw [Uc0 _ k (by rw [List.length_map] at hk; exact Nat.le_of_lt ‹_›)]
   show ((_:Nat):Int) + 5 * (k:Int) = ((0 + _ + 5 * k:Nat):Int); simp +arith
theorem Jy1 (x y:Str) (i:Nat):StrLaws.At x y x.length i ↔ i ≤ x.length∧(LL y).isPrefixOf ((LL x).drop i) = true:=by
 unfold StrLaws.At
 rw [StrLaws.subAt_eq]
 have e:((x.cps.toList.drop i).take y.length == y.cps.toList) = (LL y).isPrefixOf ((LL x).drop i):=Ev0 (LL y) ((LL x).drop i)
 rw [e]
 constructor
 ·rintro ⟨h1,h2⟩; exact ⟨by lia,h2⟩
 ·rintro ⟨h1,h2⟩
  have:=(List.isPrefixOf_iff_prefix.mp h2).length_le
  rw [List.length_drop] at this
  have h3:(LL y).length = y.length:=rfl
  have h4:(LL x).length = x.length:=rfl
  exact ⟨by lia,h2⟩
theorem Jd0 {b:List Nat} (hb:b ≠ []):∀ (a:List Nat) (n:Nat),∀ k ∈ Dx0 b a n,n ≤ k∧k < n + a.length∧b.isPrefixOf (a.drop (k - n)) = true
 | [],n,k,hk=>by
  cases b with
  | nil=>exact absurd rfl hb
  | cons x b=>cases hk
 | c :: a,n,k,hk=>by
  have key:k ∈ Dx0 b a (n + 1)→n ≤ k∧k < n + (c :: a).length∧b.isPrefixOf ((c :: a).drop (k - n)) = true:=fun h=>by
   obtain ⟨h1,h2,h3⟩:=Jd0 hb a (n + 1) k h
   refine ⟨by exact Nat.le_of_lt ‹_›,by rw [List.length_cons]; lia,?_⟩
   rw [show k - n = (k - (n + 1)) + 1 by grind]; exact h3
  have hk:k ∈ (if b.isPrefixOf (c :: a) then n :: Dx0 b a (n + 1) else Dx0 b a (n + 1)):=hk
  split at hk
  ·rename_i h
   rcases List.mem_cons.mp hk with rfl | hk
   ·exact ⟨Nat.le_refl _,by rw [List.length_cons]; simp +arith,by rw [Nat.sub_self]; exact h⟩
   ·exact key hk
  ·exact key hk
theorem Bd1 {b:List Nat} (hb:b ≠ []):∀ (a:List Nat) (n j:Nat),b.isPrefixOf (a.drop j) = true→n + j ∈ Dx0 b a n
 | [],n,j,h=>by
  cases b with
  | nil=>exact absurd rfl hb
  | cons x b=>simp at h
 | c :: a,n,0,h=>by
  have h:b.isPrefixOf (c :: a) = true:=h
  show n + 0 ∈ (if b.isPrefixOf (c :: a) then n :: Dx0 b a (n + 1) else Dx0 b a (n + 1))
  rw [h]; simp
 | c :: a,n,j + 1,h=>by
  have ih:=Bd1 hb a (n + 1) j h
  show n + (j + 1) ∈ (if b.isPrefixOf (c :: a) then n :: Dx0 b a (n + 1) else Dx0 b a (n + 1))
  rw [show n + (j + 1) = n + 1 + j by simp +arith]
  split
  ·exact .tail _ ih
  ·exact ih
theorem Be1 {b:List Nat} (hb:b ≠ []):∀ (a:List Nat) (n:Nat),(Dx0 b a n).Pairwise (· < ·)
 | [],n=>by
  cases b with
  | nil=>exact absurd rfl hb
  | cons x b=>exact .nil
 | c :: a,n=>by
  show (if b.isPrefixOf (c :: a) then n :: Dx0 b a (n + 1) else Dx0 b a (n + 1)).Pairwise _
  have ih:=Be1 hb a (n + 1)
  split
  ·exact List.Pairwise.cons (fun k hk=>by have:=(Jd0 hb a (n + 1) k hk).1; assumption) ih
  ·exact ih
theorem Nd0 {a b:Str} (hb:LL b ≠ []):∀ (ks:List Nat) (p:Nat),p ≤ a.length→ks.Pairwise (· < ·)→(∀ k,k ∈ ks ↔ p ≤ k∧StrLaws.At a b a.length k)→Finds a b p ks (Qj0 a a.length (Yp0 b))
 | [],p,hp,_,hm=>by
  refine .stop hp (.eof ?_ rfl)
  rcases StrLaws.occ_head_from a b p 1 (Nat.le_refl _) with ⟨h,_⟩ | ⟨i,r,_,h1,h2,_⟩
  ·exact h
  ·exact absurd ((hm i).mpr ⟨h1,h2⟩) (by simp)
 | k :: ks,p,hp,hs,hm=>by
  obtain ⟨hk1,hk2⟩:=(hm k).mp (.head _)
  rw [List.pairwise_cons] at hs
  have hlen:=hk2.1
  have hbl:1 ≤ b.length:=List.length_pos_iff.mpr hb
  have hocc:∃ r,occurrences a b p a.length 1 = k :: r:=by
   rcases StrLaws.occ_head_from a b p 1 (Nat.le_refl _) with ⟨_,h⟩ | ⟨i,r,e,h1,h2,h3⟩
   ·exact absurd hk2 (h k hk1)
   ·have hi:=(hm i).mpr ⟨h1,h2⟩
    have:i = k:=by
     rcases List.mem_cons.mp hi with q | q
     ·exact q
     ·have:=hs.1 i q
      exact absurd hk2 (h3 k hk1 this)
    subst this; exact ⟨r,e⟩
  obtain ⟨r,hr⟩:=hocc
  refine .step hp (.ok (.found hr) ?_) hk1 (Nd0 hb ks (k + 1) (by lia) hs.2 fun j=>?_)
  ·rw [List.any_eq_false]; intro y _; simp
  ·constructor
   ·intro hj
    have h1:=hs.1 j hj
    exact ⟨h1,((hm j).mp (.tail _ hj)).2⟩
   ·rintro ⟨h1,h2⟩
    rcases List.mem_cons.mp ((hm j).mpr ⟨by exact Nat.le_of_lt (Nat.lt_of_le_of_lt ‹_› ‹_›),h2⟩) with q | q
    ·lia
    ·exact q
theorem Rv0 {a b:Str} (hb:LL b ≠ []):Finds a b 0 (Pg0 a b) (Qj0 a a.length (Yp0 b)):=by
 refine Nd0 hb _ 0 (Nat.zero_le _) (Be1 hb _ _) fun k=>?_
 rw [Jy1]
 constructor
 ·intro hk
  obtain ⟨h1,h2,h3⟩:=Jd0 hb _ _ k hk
  have h4:(LL a).length = a.length:=rfl
  exact ⟨Nat.zero_le _,by lia,by simpa using h3⟩
 ·rintro ⟨_,_,h⟩
  have:=Bd1 hb (LL a) 0 k h
  simpa [Pg0] using this
end
section
open PySem.Builtin.Str
noncomputable def sgP (l:List Nat) (c:Nat) (i:Nat):Bool:=l[i]? == some c
theorem Vs0 (x:Str) (c i:Nat):subAt x ⟨#[c]⟩ i = sgP (LL x) c i:=by
 unfold sgP
 have h:=StrLaws.subAt_one x c i
 rw [Bool.eq_iff_iff,beq_iff_eq,← h]
 constructor
 ·intro hs
  have e:=StrLaws.subAt_size hs
  have:(⟨#[c]⟩:Str).length = 1:=rfl
  exact ⟨by grind,hs⟩
 ·exact fun q=>q.2
theorem Oy0 (x:Str) (c hi limit:Nat):∀ (m cur:Nat) (st:Array Nat × Nat),st.2 ≤ cur→st.1.size + m ≤ limit →
  (forIn (List.range' cur m) st (StrLaws.occBody x ⟨#[c]⟩ hi limit)).run.1.toList = st.1.toList ++ (List.range' cur m).filter fun i=>decide (i + 1 ≤ hi) && sgP (LL x) c i
 | 0,cur,st,_,_=>by simp
 | m + 1,cur,st,h1,h2=>by
  rw [List.range'_succ,List.forIn_cons,List.filter_cons]
  unfold StrLaws.occBody
  rw [Vs0]
  have hl:(⟨#[c]⟩:Str).length = 1:=rfl
  rw [hl]
  by_cases hc:(((st.1.size < limit∧st.2 ≤ cur)∧cur + 1 ≤ hi)∧sgP (LL x) c cur = true)
  ·rw [if_pos hc]
   have hc':(decide (cur + 1 ≤ hi) && sgP (LL x) c cur) = true:=by rw [hc.2,decide_eq_true hc.1.2]; rfl
   rw [if_pos hc']
   have ih:=Oy0 x c hi limit m (cur + 1) (st.1.push cur,cur + 1) (Nat.le_refl _) (by simp; lia)
   show (forIn (List.range' (cur + 1) m) (st.1.push cur,cur + 1) (StrLaws.occBody x ⟨#[c]⟩ hi limit)).run.1.toList = _
   rw [ih]; simp
  ·rw [if_neg hc]
   have hc':¬ (decide (cur + 1 ≤ hi) && sgP (LL x) c cur) = true:=fun q=>by
    rw [Bool.and_eq_true,decide_eq_true_eq] at q
    exact hc ⟨⟨⟨by lia,h1⟩,q.1⟩,q.2⟩
   rw [if_neg hc']
   have ih:=Oy0 x c hi limit m (cur + 1) (st.1,st.2) (by show st.2 ≤ _; exact Nat.le_succ_of_le ‹_›) (by show st.1.size + m ≤ _; exact Nat.le_of_lt ‹_›)
   show (forIn (List.range' (cur + 1) m) (st.1,st.2) (StrLaws.occBody x ⟨#[c]⟩ hi limit)).run.1.toList = _
   rw [ih]
noncomputable def sgs (l:List Nat) (c p:Nat):List Nat:=(List.range p).filter fun i=>sgP l c i
theorem Rw0 (P:Nat→Bool) (hi:Nat):((List.range' 0 (hi + 1)).filter fun i=>decide (i + 1 ≤ hi) && P i) = (List.range hi).filter P:=by
 rw [← List.range_eq_range',List.range_succ,List.filter_append]
 have h1:([hi].filter fun i=>decide (i + 1 ≤ hi) && P i) = []:=by
  rw [List.filter_cons]; simp; intro h; exact absurd ‹_› (Nat.lt_irrefl _)
 rw [h1,List.append_nil]
 refine List.filter_congr fun i hi'=>?_
 have:=List.mem_range.mp hi'
 rw [decide_eq_true (by assumption:i + 1 ≤ hi)]; rfl
theorem Ma1 (x:Str) (c hi limit:Nat) (h:hi + 1 ≤ limit):occurrences x ⟨#[c]⟩ 0 hi limit = sgs (LL x) c hi:=by
 rw [StrLaws.occ_eq]
 have:=Oy0 x c hi limit (hi + 1 - 0) 0 (#[],0) (Nat.le_refl _) (by show 0 + (hi + 1 - 0) ≤ _; simp_all)
 rw [this]
 show [] ++ _ = _
 rw [List.nil_append,Nat.sub_zero,Rw0]; rfl
theorem Kz0 (x:Str) (c hi:Nat):∀ (m cur:Nat) (st:Option Nat),(forIn (List.range' cur m) st (StrLaws.lastBody x ⟨#[c]⟩ hi)).run = (((List.range' cur m).filter fun i=>decide (i + 1 ≤ hi) && sgP (LL x) c i).getLast?).or st
 | 0,cur,st=>by simp
 | m + 1,cur,st=>by
  rw [List.range'_succ,List.forIn_cons,List.filter_cons]
  unfold StrLaws.lastBody
  rw [Vs0]
  have hl:(⟨#[c]⟩:Str).length = 1:=rfl
  rw [hl]
  by_cases hc:cur + 1 ≤ hi∧sgP (LL x) c cur = true
  ·rw [if_pos hc]
   have hc':(decide (cur + 1 ≤ hi) && sgP (LL x) c cur) = true:=by rw [hc.2,decide_eq_true hc.1]; rfl
   rw [if_pos hc']
   have ih:=Kz0 x c hi m (cur + 1) (some cur)
   show (forIn (List.range' (cur + 1) m) (some cur) (StrLaws.lastBody x ⟨#[c]⟩ hi)).run = _
   rw [ih,List.getLast?_cons]
   cases (List.filter (fun i=>decide (i + 1 ≤ hi) && sgP (LL x) c i) (List.range' (cur + 1) m)).getLast? <;> rfl
  ·rw [if_neg hc]
   have hc':¬ (decide (cur + 1 ≤ hi) && sgP (LL x) c cur) = true:=fun q=>by
    rw [Bool.and_eq_true,decide_eq_true_eq] at q
    exact hc q
   rw [if_neg hc']
   exact Kz0 x c hi m (cur + 1) st
theorem Jz1 (x:Str) (c hi:Nat):lastOccurrence x ⟨#[c]⟩ 0 hi = (sgs (LL x) c hi).getLast?:=by
 rw [StrLaws.last_eq]
 have:=Kz0 x c hi (hi + 1 - 0) 0 none
 rw [this,Nat.sub_zero,Rw0]
 show ((sgs (LL x) c hi).getLast?).or none = _
 cases (sgs (LL x) c hi).getLast? <;> rfl
theorem Ee1 (l:List Nat) (c p:Nat):sgs (l.take p) c p = sgs l c p:=by
 unfold sgs
 refine List.filter_congr fun i hi=>?_
 have:=List.mem_range.mp hi
 unfold sgP
 rw [List.getElem?_take_of_lt this]
theorem Ne0 (x:Str) (w:Nat):∀ (cuts:List Nat) (a:Nat),(StrLaws.partsFrom x w a cuts).getLast? = some (strSub x (match cuts.getLast? with | some c=>c + w | none=>a) x.length)
 | [],a=>rfl
 | c :: r,a=>by
  show (strSub x a c :: StrLaws.partsFrom x w (c + w) r).getLast? = _
  rw [List.getLast?_cons,Ne0 x w r (c + w),List.getLast?_cons]
  cases h:r.getLast? <;> rfl
theorem La0 (x:Str) (w:Nat):∀ (cuts:List Nat) (a:Nat),(StrLaws.partsFrom x w a cuts).length = cuts.length + 1
 | [],a=>rfl
 | c :: r,a=>by
  show (StrLaws.partsFrom x w (c + w) r).length + 1 = _
  rw [La0 x w r (c + w)]; rfl
theorem Mb1:lf = ⟨#[10]⟩:=Fo0 (by decide)
theorem Ho1:Lr0 = ⟨#[35]⟩:=Fo0 (by decide)
theorem Ef1:nl = ⟨#[10]⟩:=Fo0 (by decide)
theorem Hp1 (x:Str):¬ Builtin.Str.strKind x < Builtin.Str.strKind ⟨#[10]⟩:=by
 have:Builtin.Str.strKind ⟨#[10]⟩ = 1:=by decide +kernel
 rw [this]
 unfold Builtin.Str.strKind
 split
 ·simp +arith
 ·split <;> decide
theorem Eg1 (x:Str) (p:Nat) (hp:x.length = p):(Txt.split x lf).length = (sgs (LL x) 10 p).length + 1∧∃ y,(Txt.split x lf).getLast? = some y∧y.length = p - (match (sgs (LL x) 10 p).getLast? with | some c=>c + 1 | none=>0):=by
 rw [Mb1]
 have hlen:(⟨#[10]⟩:Str).length = 1:=rfl
 have hocc:=Ma1 x 10 x.length (x.length + 1) (Nat.le_refl _)
 rw [hp] at hocc
 have one:Txt.split x ⟨#[10]⟩ = StrLaws.partsFrom x 1 0 (sgs (LL x) 10 p):=by
  unfold Txt.split
  by_cases h0:x.length < 1
  ·have hp0:p = 0:=by simp_all
   rw [if_pos (by rw [hlen,decide_eq_true h0]; rfl),hp0]
   show [x] = [strSub x 0 x.length]
   rw [StrLaws.sub_whole]
  ·rw [if_neg (by rw [hlen,decide_eq_false h0,decide_eq_false (Hp1 x)]; decide),hp,hocc]
   cases hc:sgs (LL x) 10 p with
   | nil =>
    show [x] = [strSub x 0 x.length]
    rw [StrLaws.sub_whole]
   | cons c r =>
    show partsBetween x (c :: r) 1 = _
    exact StrLaws.partsBetween_eq x (c :: r) 1
 rw [one,La0,Ne0]
 refine ⟨rfl,_,rfl,?_⟩
 have:∀ i,(strSub x i x.length).length = x.length - i:=fun i=>by
  show (x.cps.extract i x.length).size = _
  rw [Array.size_extract]
  show min x.length x.length - i = _
  simp +arith
 rw [this,hp]
theorem Xi0 (a:Str) (p:Nat) (hp:p ≤ a.length):Bn0 a p = (sgs (LL a) 10 p).length:=by
 unfold Bn0
 rw [Ef1,Nat.min_eq_left hp,Ma1 a 10 p (a.length + 1) (by exact Nat.lt_succ_of_le ‹_›)]
theorem Bf1 (a:Str) (p:Nat) (hp:p ≤ a.length):Fy0 a p = (sgs (LL a) 10 p).getLast?:=by
 unfold Fy0
 rw [Ef1,Nat.min_eq_left hp,Jz1]
theorem Bg1 {l:List Nat} {c p i:Nat} (h:i ∈ sgs l c p):i < p:=List.mem_range.mp (List.mem_filter.mp h).1
theorem Hq1 (a:Str) (p:Nat) (hp:p < a.length) (hs:sgn a p = ⟨#[35]⟩):Qj0 a p (Ga1 a p) = Qt0 (Txt.split (Txt.slice a none (some (p:Int))) lf):=by
 have hx:LL (Txt.slice a none (some (p:Int))) = (LL a).take p:=Ot0 a p
 have hxl:(Txt.slice a none (some (p:Int))).length = p:=by
  show (LL _).length = p
  rw [hx,List.length_take]
  have:(LL a).length = a.length:=rfl
  grind
 obtain ⟨h1,y,h2,h3⟩:=Eg1 _ p hxl
 rw [hx,Ee1] at h1 h3
 unfold Qt0 Qj0 Ga1 Cc0
 rw [if_neg (by exact Nat.not_le.mpr ‹_›),h1,h2,Option.getD_some,h3,Xi0 a p (by exact Nat.le_of_lt ‹_›),Bf1 a p (by exact Nat.le_of_lt ‹_›),hs]
 have e1:(((sgs (LL a) 10 p).length + 1:Nat):Int) = ((sgs (LL a) 10 p).length:Int) + 1:=by rfl
 rw [e1]
 have e2:(if ((sgs (LL a) 10 p).length:Int) + 1 == 1 then (p:Int) + 1 else (p:Int) - (((sgs (LL a) 10 p).getLast?.getD 0:Nat):Int)) = ((p - (match (sgs (LL a) 10 p).getLast? with | some c=>c + 1 | none=>0):Nat):Int) + 1:=by
  cases hl:(sgs (LL a) 10 p).getLast? with
  | none =>
   have:sgs (LL a) 10 p = []:=List.getLast?_eq_none_iff.mp hl
   rw [this]
   rfl
  | some c =>
   have hm:=List.mem_of_getLast? hl
   have hc:=Bg1 hm
   have hpos:0 < (sgs (LL a) 10 p).length:=List.length_pos_of_mem hm
   have:((((sgs (LL a) 10 p).length:Int) + 1 == 1):Bool) = false:=by
    rw [beq_eq_false_iff_ne]; lia
   rw [this]
   simp only [Bool.false_eq_true,if_false,Option.getD_some]
   grind
 rw [e2]
 apply Fo0
 simp only [List.foldl,Dm0]
 have c0:LL Str.empty = []:=rfl
 have c1:LL (oS "Found invalid character ") ++ LL (reprText ⟨#[35]⟩) ++ LL (oS " (at ") ++ LL (oS "line ") = LL (oS "Found invalid character '#' (at line "):=by decide +kernel
 rw [← c1,c0]
 simp only [List.nil_append,List.append_assoc]
end
section
open PySem.Builtin.Str
theorem Bh1 {a b:Str} (hb:LL b ≠ []):Stops a 0 b false (Fa0 a (Pg0 a b)):=by
 have F:=Rv0 (a:=a) hb
 unfold Fa0
 cases h:Pg0 a b with
 | nil =>
  rw [h] at F
  show Stops a 0 b false a.length
  generalize hm:Qj0 a a.length (Yp0 b) = m at F
  cases F with
  | stop _ sk =>
   refine .none ?_ rfl
   cases sk with
   | eof e _=>exact e
   | bad _ hq _ _ _ _ _=>rw [List.any_eq_true] at hq; obtain ⟨_,_,q⟩:=hq; cases q
 | cons k r =>
  rw [h] at F
  show Stops a 0 b false k
  generalize hm:Qj0 a a.length (Yp0 b) = m at F
  cases F with
  | step _ sk _ _ =>
   cases sk with
   | ok st _ =>
    cases st with
    | found e=>exact .found e
    | none _ q=>cases q
theorem Fj1 (a:Str) (p:Nat) (c:Nat) (hp:p < a.length):(sgn a p = ⟨#[c]⟩) ↔ (LL a)[p]? = some c:=by
 have hp':p < a.cps.size:=hp
 unfold sgn
 have e:a.cps.getD p 0 = a.cps[p]:=by simp [Array.getD,hp']
 rw [e]
 have e2:(LL a)[p]? = some a.cps[p]:=by simp [hp']
 rw [e2]
 constructor
 ·intro h
  have:([a.cps[p]]:List Nat) = [c]:=congrArg LL h
  simp at this; rw [this]
 ·intro h; cases h; rfl
theorem Bi1 (x:Str):(Bc0 x).any (fun y=>decide (y = ⟨#[35]⟩)) = decide (35 ∈ LL x):=by
 unfold Bc0
 show ((LL x).map fun c=>(⟨#[c]⟩:Str)).any _ = _
 rw [Bool.eq_iff_iff,List.any_eq_true,decide_eq_true_eq]
 constructor
 ·rintro ⟨y,hy,h⟩
  obtain ⟨c,hc,hQ239⟩:=List.mem_map.mp hy; subst hQ239
  have:([c]:List Nat) = [35]:=congrArg LL (of_decide_eq_true h)
  simp at this; rw [← this]; exact hc
 ·intro h; exact ⟨⟨#[35]⟩,List.mem_map.mpr ⟨35,h,rfl⟩,by simp⟩
theorem Bj1 (x:Str):(35 ∉ LL x∧Txt.find x Lr0 = -1) ∨ ∃ p:Nat,Txt.find x Lr0 = (p:Int)∧p < x.length∧(LL x)[p]? = some 35∧∀ q < p,(LL x)[q]? ≠ some 35:=by
 rw [Ho1]
 have key:∀ i,StrLaws.At x ⟨#[35]⟩ x.length i ↔ (LL x)[i]? = some 35:=fun i=>StrLaws.subAt_one x 35 i
 rcases StrLaws.occ_head x ⟨#[35]⟩ 1 (Nat.le_refl _) with ⟨h1,h2⟩ | ⟨p,r,h1,h2,h3⟩
 ·refine .inl ⟨fun q=>?_,by unfold Txt.find; rw [h1]⟩
  obtain ⟨i,hi,e⟩:=List.mem_iff_getElem.mp q
  exact h2 i ((key i).mpr (by rw [List.getElem?_eq_getElem hi,e]))
 ·refine .inr ⟨p,by unfold Txt.find; rw [h1],?_,(key p).mp h2,fun q hq h=>h3 q hq ((key q).mpr h)⟩
  have:=h2.1
  have hl:(⟨#[35]⟩:Str).length = 1:=rfl
  assumption
theorem Eh1 (a b:Str) (hb:LL b ≠ []):∃ o,Skips a 0 b (fun y=>decide (y = ⟨#[35]⟩)) false o∧Mj1 o = Bh0 a (Fa0 a (Pg0 a b)):=by
 have st:=Bh1 (a:=a) hb
 generalize Fa0 a (Pg0 a b) = n at st
 have hsl:LL (Txt.slice a (some ((0:Nat):Int)) (some (n:Int))) = (LL a).take n:=by
  rw [Kv0 a 0 n (Nat.zero_le _)]; simp
 have hto:LL (Txt.slice a none (some (n:Int))) = (LL a).take n:=Ot0 a n
 have hany:(Bc0 (Txt.slice a (some ((0:Nat):Int)) (some (n:Int)))).any (fun y=>decide (y = ⟨#[35]⟩)) = decide (35 ∈ (LL a).take n):=by rw [Bi1,hsl]
 unfold Bh0
 rcases Bj1 (Txt.slice a none (some (n:Int))) with ⟨h1,h2⟩ | ⟨p,h1,h2,h3,h4⟩
 ·rw [hto] at h1
  refine ⟨.ok n,.ok st ?_,?_⟩
  ·rw [hany,decide_eq_false h1]
  ·rw [h2,if_pos (by decide)]; rfl
 ·rw [hto] at h3 h4
  have hpl:p < ((LL a).take n).length:=(List.getElem?_eq_some_iff.mp h3).1
  have hpn:p < n∧p < a.length:=by
   rw [List.length_take] at hpl
   have:(LL a).length = a.length:=rfl
   omega
  rw [List.getElem?_take_of_lt hpn.1] at h3
  have hs:=(Fj1 a p 35 hpn.2).mpr h3
  refine ⟨.error (Qj0 a p (Ga1 a p)),.bad st ?_ (Nat.zero_le _) hpn.2 (by rw [hs]; simp) (fun q _ hq=>?_) (by rw [hs]; decide +kernel),?_⟩
  ·rw [hany,decide_eq_true]
   exact List.mem_of_getElem? (by rw [List.getElem?_take_of_lt hpn.1]; exact h3)
  ·refine decide_eq_false fun e=>?_
   have:=(Fj1 a q 35 (by omega)).mp e
   exact h4 q hq (by rw [List.getElem?_take_of_lt (by omega)]; exact this)
  ·rw [h1,if_neg (by simp +arith)]
   show PyData.str _ = PyData.str _
   rw [Hq1 a p hpn.2 hs]
theorem Ka1 (p a:Str):Oa0 p = Qj0 a a.length (Yp0 (Ak0 p)):=by
 unfold Oa0 Qj0 Yp0 Cc0
 rw [if_pos (Nat.le_refl _)]
 apply Fo0
 simp only [List.foldl,Dm0]
 have c0:LL Str.empty = []:=rfl
 have c1:LL (oS " (at ") ++ LL (oS "end of document") ++ LL (oS ")") = LL (oS " (at end of document)"):=by decide +kernel
 rw [← c1,c0]
 simp only [List.nil_append,List.append_assoc]
theorem Bk1 (l:List Nat) (c p:Nat):(sgs l c p).length ≤ p:=by
 unfold sgs
 exact Nat.le_trans (List.length_filter_le _ _) (by simp)
theorem Gn0 (a:Str) (p:Nat):Bn0 a p = (sgs (LL a) 10 (min p a.length)).length:=by
 unfold Bn0
 rw [Ef1,Ma1 a 10 _ (a.length + 1) (by lia)]
theorem Nf0 (a:Str) (p:Nat):Fy0 a p = (sgs (LL a) 10 (min p a.length)).getLast?:=by
 unfold Fy0
 rw [Ef1,Jz1]
theorem Vt0 (a:Str) (h:a.length ≤ 1000):SrcOk a where
 len:=h
 coord:=fun p hp=>by
  unfold Cc0
  split
  ·rw [show (oS "end of document").length = 15 from by decide +kernel]; exact Nat.le_add_left _ _
  ·rename_i hlt
   have e1:(Bn0 a p:Int) + 1 = ((Bn0 a p + 1:Nat):Int):=by rfl
   have h1:=Gn0 a p
   have h2:=Bk1 (LL a) 10 (min p a.length)
   have e2:∃ m:Nat,m ≤ 1001∧(if ((Bn0 a p:Int) + 1 == 1) then (p:Int) + 1 else (p:Int) - ((Fy0 a p).getD 0:Nat)) = (m:Int):=by
    split
    ·exact ⟨p + 1,by exact Nat.lt_succ_of_le ‹_›,by rfl⟩
    ·have hl:=Nf0 a p
     cases hq:Fy0 a p with
     | none=>exact ⟨p,by exact Nat.le_succ_of_le ‹_›,by simp⟩
     | some k =>
      rw [hq] at hl
      have:=Bg1 (List.mem_of_getLast? hl.symm)
      exact ⟨p - k,by lia,by simp only [Option.getD_some]; grind⟩
   obtain ⟨m,hm,e2⟩:=e2
   rw [e2,e1]
   have t1:=Eo0 (n:=Bn0 a p + 1) (by grind)
   have t2:=Eo0 (n:=m) (by exact Nat.lt_of_le_of_lt ‹_› (by decide))
   simp only [List.foldl,Str.length_append]
   have l1:(oS "line ").length = 5:=by decide +kernel
   have l2:(oS ", column ").length = 9:=by decide +kernel
   have l3:Str.empty.length = 0:=rfl
   rw [l1,l2,l3]
   lia
 na:=fun p hp=>by
  rw [Gn0]
  have:=Bk1 (LL a) 10 (min p a.length); grind
 last:=fun p hp hne=>by
  rw [Gn0] at hne
  rw [Nf0]
  cases hq:(sgs (LL a) 10 (min p a.length)).getLast? with
  | none=>rw [List.getLast?_eq_none_iff] at hq; rw [hq] at hne; exact absurd rfl hne
  | some k =>
   have:=Bg1 (List.mem_of_getLast? hq)
   exact ⟨k,rfl,by grind⟩
theorem Rx0 (x:Str) (w:Nat):∀ (cuts:List Nat) (a:Nat),∀ p ∈ StrLaws.partsFrom x w a cuts,∃ i j,p = strSub x i j
 | [],a,p,h=>⟨a,x.length,List.mem_singleton.mp h⟩
 | c :: r,a,p,h=>by
  rcases List.mem_cons.mp h with h | h
  ·exact ⟨a,c,h⟩
  ·exact Rx0 x w r (c + w) p h
theorem Hp0 (x y:Str):∀ p ∈ Txt.split x y,p.length ≤ x.length∧∀ c ∈ p.cps,c ∈ x.cps:=by
 intro p hp
 have key:∀ i j,(strSub x i j).length ≤ x.length∧∀ c ∈ (strSub x i j).cps,c ∈ x.cps:=fun i j=>by
  constructor
  ·show (x.cps.extract i j).size ≤ x.cps.size
   rw [Array.size_extract]; omega
  ·intro c hc
   have hc:c ∈ x.cps.extract i j:=hc
   have:=Array.mem_toList_iff.mpr hc
   rw [Array.toList_extract] at this
   exact Array.mem_toList_iff.mp (List.mem_of_mem_drop (List.mem_of_mem_take this))
 unfold Txt.split at hp
 split at hp
 ·rw [List.mem_singleton.mp hp]; exact ⟨Nat.le_refl _,fun c hc=>hc⟩
 ·split at hp
  ·rw [List.mem_singleton.mp hp]; exact ⟨Nat.le_refl _,fun c hc=>hc⟩
  ·rw [StrLaws.partsBetween_eq] at hp
   obtain ⟨i,j,hQ240⟩:=Rx0 x _ _ _ p hp; subst hQ240
   exact key i j
theorem Go0 (x y:Str):(Txt.split x y).length ≤ x.length + 2:=by
 unfold Txt.split
 split
 ·simp
 ·split
  ·simp
  ·rw [StrLaws.partsBetween_eq,La0]
   have:=StrLaws.occ_length_le x y 0 x.length (x.length + 1)
   exact Nat.lt_succ_of_le ‹_›
theorem Je0:∀ l:List Nat,(Eg0 l).length ≤ 5 * l.length
 | []=>Nat.le_refl _
 | c :: l=>by
  show (If0 c ++ Eg0 l).length ≤ _
  rw [List.length_append,List.length_cons]
  have:=Je0 l
  have:(If0 c).length ≤ 5:=by unfold If0; split <;> simp
  lia
theorem Ei1 (x:Str):(Ak0 x).length ≤ 5 * x.length + 2:=by
 show (LL (Ak0 x)).length ≤ 5 * (LL x).length + 2
 rw [Dn0]
 unfold Ow0
 split
 ·simp +arith
 ·rw [List.length_cons,List.length_append]
  have:=Je0 (LL x)
  simp; omega
theorem Ej1:∀ (l:List Nat),∀ c ∈ Eg0 l,c ∈ l ∨ c = 39 ∨ c = 34:=by
 intro l c hc
 obtain ⟨d,hd,h⟩:=List.mem_flatMap.mp hc
 unfold If0 at h
 split at h
 ·simp at h; lia
 ·rw [List.mem_singleton.mp h]; exact .inl hd
theorem Ek1 (x:Str):∀ c ∈ (Ak0 x).cps,c ∈ x.cps ∨ c = 39 ∨ c = 34:=by
 intro c hc
 have hc:c ∈ LL (Ak0 x):=Array.mem_toList_iff.mpr hc
 rw [Dn0] at hc
 unfold Ow0 at hc
 split at hc
 ·exact .inl (Array.mem_toList_iff.mp hc)
 ·rcases List.mem_cons.mp hc with h | h
  ·exact .inr (.inl h)
  ·rcases List.mem_append.mp h with h | h
   ·rcases Ej1 _ c h with h | h
    ·exact .inl (Array.mem_toList_iff.mp h)
    ·exact .inr h
   ·exact .inr (.inl (List.mem_singleton.mp h))
theorem Ud0 (x:Str):LL (Ak0 x) ≠ []:=by
 rw [Dn0]
 unfold Ow0
 split
 ·rename_i h
  obtain ⟨⟨y,b,e⟩,_⟩:=Ho0 h
  rw [e]; simp
 ·simp
end
section
open PySem.Builtin.Str
structure WordOk (x:Str):Prop where
 al:∀ a ∈ x.cps,Dr0 a
 len:x.length ≤ 100
theorem WordOk.asc (h:WordOk x):Asc x:=fun c hc=>by have:=h.al c hc; unfold Dr0 at this; lia
theorem WordOk.text (h:WordOk x):Asc (Ak0 x):=fun c hc=>by
 rcases Ek1 x c hc with q | q | q
 ·exact h.asc c q
 ·simp_all
 ·simp_all
theorem WordOk.tlen (h:WordOk x):(Ak0 x).length ≤ 502:=by have:=Ei1 x; have:=h.len; lia
theorem Ee0 (h1:PyData.strOk x = true) (h2:PyData.strOk y = true):PyData.strOk (x ++ y) = true:=by
 show (x.cps ++ y.cps).all _ = true
 have h1:x.cps.all (· < 0x110000) = true:=h1
 have h2:y.cps.all (· < 0x110000) = true:=h2
 rw [Array.all_append,h1,h2]; rfl
theorem Ew0 (s:String):PyData.strOk (oS s) = true:=by
 rw [Str.ofString_eq_toList]
 show (List.toArray (s.toList.map Char.toNat)).all (· < 0x110000) = true
 rw [List.all_toArray,List.all_map,List.all_eq_true]
 intro c _
 have:=c.valid
 simp only [Function.comp,decide_eq_true_eq]
 rcases this with h | ⟨h1,h2⟩
 ·show c.val.toNat < _
  have:c.val.toNat < 0xd800:=h
  exact Nat.lt_of_lt_of_le ‹_› (by decide)
 ·exact h2
theorem Xj0:∀ q ∈ [39,34],∀ c < 128,(reprChar q c).all (· < 0x110000) = true:=by decide +kernel
theorem Ry0 (q:Nat) (hq:q = 39 ∨ q = 34):∀ (l:List Nat) (acc:Array Nat),(∀ c ∈ l,c < 128)→acc.all (· < 0x110000) = true→(l.foldl (fun out c=>out ++ (reprChar q c).toArray) acc).all (· < 0x110000) = true
 | [],acc,_,h=>h
 | c :: r,acc,hl,h=>by
  refine Ry0 q hq r _ (fun d hd=>hl d (.tail _ hd)) ?_
  have:=Xj0 q (by rcases hq with rfl | rfl <;> simp) c (hl c (.head _))
  rw [Array.all_append,h,List.all_toArray,this]; rfl
theorem Xk0 (h:Asc x):PyData.strOk (reprText x) = true:=by
 unfold reprText
 show ((x.cps.foldl (fun out c=>out ++ (reprChar (reprQuote x) c).toArray) #[reprQuote x]).push (reprQuote x)).all (· < 0x110000) = true
 have hq:reprQuote x = 39 ∨ reprQuote x = 34:=by unfold reprQuote; split <;> simp
 have hql:reprQuote x < 0x110000:=by lia
 rw [← Array.foldl_toList]
 have:=Ry0 (reprQuote x) hq x.cps.toList #[reprQuote x] (fun c hc=>h c (Array.mem_toList_iff.mp hc)) (by simp; omega)
 rw [Array.all_push]
 simp only [Array.all_eq_true'] at this ⊢
 simp only [Bool.and_eq_true,Array.all_eq_true',decide_eq_true_eq]
 exact ⟨by simpa using this,hql⟩
theorem Kb1 (h:WordOk x):PyData.canLay0 (.str (Oa0 x)) = true:=Ee0 (Ee0 (Ew0 _) (Xk0 h.text)) (Ew0 _)
theorem Oz0 (h:WordOk x):(reprText (Ak0 x)).length ≤ 10000:=by
 have:=StrLaws.reprText_len (Ak0 x) fun c hc=>by have:=h.text c (Array.mem_toList_iff.mp hc); exact Nat.lt_of_lt_of_le ‹_› (by decide)
 have:=h.tlen; lia
theorem El1 (w:World) {x:Str} (h:WordOk x):FnD w 1 198 [.str x] (.str (Ak0 x)):=by
 rw [← Xh0 x h.al]
 refine Eb1 w x (by have:=h.len; exact Nat.le_trans ‹_› (by decide)) h.al ?_
 have e39:oS "'" = ⟨#[39]⟩:=Vn0
 have hz:LL (oS "'\"'\"'") = [39,34,39,34,39]:=by decide
 have h2:∀ p ∈ Txt.split x ⟨#[39]⟩,39 ∉ LL p:=fun p hp=>StrLaws.split_free x 39 p hp
 show (LL (Txt.replace x (oS "'") (oS "'\"'\"'"))).length ≤ _
 rw [e39,StrLaws.replace_one,← Jc0 hz _ h2,StrLaws.join_split]
 have:=Je0 (LL x)
 have h3:(LL x).length = x.length:=rfl
 have:=h.len; lia
theorem Xl0 (x:Str):((Bc0 x).map Fh0).flatMap LL = Eg0 (LL x):=by
 unfold Bc0 Eg0
 show (((LL x).map fun c=>(⟨#[c]⟩:Str)).map Fh0).flatMap LL = _
 rw [List.map_map,List.flatMap_map]
 congr 1
 funext c
 exact Ov0 c
theorem Bl1 (w:World) {x:Str} (h:WordOk x):FnD w 5 215 [.str x] (.str (Ak0 x)):=by
 have hl:=h.len
 refine Ge1 w x (by exact Nat.le_trans ‹_› (by decide)) h.asc ?_ ?_
 ·unfold JoinOk
  have hlen:((Bc0 x).map Fh0).length = x.length:=by simp [Bc0]; rfl
  have:=StrLaws.joinFits (sep:=oS "") (texts:=(Bc0 x).map Fh0) (B:=5) (fun y hy=>?_) (by rw [hlen,show (oS "").length = 0 from by decide]; lia)
  ·rw [this]; rfl
  ·obtain ⟨s,hs,hQ241⟩:=List.mem_map.mp hy; subst hQ241
   obtain ⟨c,hc,hQ242⟩:=List.mem_map.mp hs; subst hQ242
   show (LL (Fh0 ⟨#[c]⟩)).length ≤ 5
   rw [Ov0]; unfold If0; split <;> simp
 ·show (LL (glued (oS "") ((Bc0 x).map Fh0))).length ≤ 5000
  rw [Ir0,Xl0]
  have:=Je0 (LL x)
  have h3:(LL x).length = x.length:=rfl
  lia
theorem Bm1 (w:World) {p q:Str} (hp:WordOk p) (hq:WordOk q):FnD w 5 220 [.str p,.str q] (.list ((Al0 p q).map .int)):=by
 have h1:=hp.len; have h2:=hq.len
 have h3:=Go0 p apo; have h4:=Go0 q apo
 refine Yv0 w p q (by exact Nat.le_trans ‹_› (by decide)) (by exact Nat.le_trans ‹_› (by decide)) hp.asc hq.asc (by lia) (by lia) (fun y hy=>?_) (fun y hy c hc=>?_) (fun y hy c hc=>?_)
 ·have:=(Hp0 q apo y hy).1; exact Nat.le_trans (Nat.le_trans ‹_› ‹_›) (by decide)
 ·exact hp.asc c ((Hp0 p apo y hy).2 c hc)
 ·exact hq.asc c ((Hp0 q apo y hy).2 c hc)
theorem Hr1 (w:World) {a:Str} (ha:a.length ≤ 1000) (st:Int):FnD w 5 241 [.str a,.int st] (Bh0 a st):=by
 have:=Qu0 w a st (by exact Nat.le_trans ‹_› (by decide)) fun p=>by
  have h1:=Txt.slice_le a none (some p)
  have h2:=Go0 (Txt.slice a none (some p)) lf
  refine ⟨by lia,Vp0 _ _,fun y hy=>?_⟩
  have:=(Hp0 _ _ y hy).1; lia
 exact fun A fs X s vs am rv=>this A fs X s vs (am.down (by exact Nat.le_add_left _ _)) rv
theorem Kc1 (w:World) {words:List Str} (hn:words.length ≤ 100) (h:∀ x ∈ words,WordOk x):FnD w 6 251 [.list (words.map .str)] (Wt0 words) :=
 Ja1 w words hn (fun p hp=>Bl1 w (h p hp)) (fun p hp q hq=>Bm1 w (h p hp) (h q hq)) fun p hp=>by have:=Oz0 (h p hp); exact Nat.le_trans ‹_› (by decide)
noncomputable def Vu0 (a b:Str):PyData:=.tuple [.list ((Pg0 a b).map fun k=>.int (k:Nat)),.str (Qj0 a a.length (Yp0 b))]
theorem Em1 {p q:Str} (hp:WordOk p) (hq:WordOk q):Vu0 (Ak0 q) (Ak0 p) = .tuple [.list ((Al0 p q).map .int),.str (Oa0 p)]:=by
 unfold Vu0
 rw [Ky0 p q hp.al hq.al,← Ka1 p (Ak0 q),List.map_map]; rfl
theorem En1 (w:World) {p q:Str} (hp:WordOk p) (hq:WordOk q):FnD w 5 227 [.str (Ak0 q),.str (Ak0 p)] (Vu0 (Ak0 q) (Ak0 p)) :=
 Cx1 w (Ak0 q) (Ak0 p) _ _ (Vt0 _ (by have:=hq.tlen; exact Nat.le_trans ‹_› (by decide))) (by have:=Oz0 hp; exact Nat.le_trans ‹_› (by decide)) (Rv0 (Ud0 p))
theorem Eo1 (a b:Str):(Pg0 a b).length ≤ a.length + 1:=by
 unfold Pg0
 have key:∀ (l:List Nat) (n:Nat),(Dx0 (LL b) l n).length ≤ l.length + 1:=by
  intro l
  induction l with
  | nil=>intro n; show (if _ then [n] else []).length ≤ 1; split <;> simp
  | cons c l ih =>
   intro n
   have:=ih (n + 1)
   show (if (LL b).isPrefixOf (c :: l) then n :: Dx0 (LL b) l (n + 1) else Dx0 (LL b) l (n + 1)).length ≤ _
   rw [List.length_cons]
   split
   ·rw [List.length_cons]; exact Nat.lt_succ_of_le ‹_›
   ·exact Nat.le_succ_of_le ‹_›
 exact key (LL a) 0
theorem Kd1 (a:Str) (st:Int):(Bh0 a st).canLay0 = true∧(Bh0 a st).depth ≤ 5:=by
 unfold Bh0
 split
 ·exact ⟨rfl,Nat.zero_le _⟩
 ·refine ⟨?_,Nat.zero_le _⟩
  exact Ee0 (Ee0 (Ee0 (Ee0 (Ew0 _) (Ew0 _)) (Ew0 _)) (Ew0 _)) (Ew0 _)
theorem Bn1 (w:World) {words:List Str} (hn:words.length ≤ 100) (h:∀ x ∈ words,WordOk x):FnD w 6 246 [.list (words.map fun x=>.str (Ak0 x)),Wt0 words] (.bool true):=by
 have key:=Yx0 w (words.map Ak0) (words.map fun q=>words.map fun p=>(Pg0 (Ak0 q) (Ak0 p),Oa0 p)) (fun a b=>Bh0 a (Fa0 a (Pg0 a b))) Bh0 (by rw [List.length_map]; omega) (by rw [List.length_map,List.length_map])
  (fun a ha=>by obtain ⟨x,hx,hQ243⟩:=List.mem_map.mp ha; subst hQ243; have:=(h x hx).tlen; exact Nat.le_trans ‹_› (by decide))
  (fun row hrow=>by
   obtain ⟨q,hq,hQ244⟩:=List.mem_map.mp hrow; subst hQ244
   refine ⟨by rw [List.length_map]; exact Nat.le_trans ‹_› (by decide),fun pr hpr=>?_⟩
   obtain ⟨p,hp,hQ245⟩:=List.mem_map.mp hpr; subst hQ245
   have:=Eo1 (Ak0 q) (Ak0 p)
   have:=(h q hq).tlen
   show (Pg0 (Ak0 q) (Ak0 p)).length ≤ _
   lia)
  (fun a ha b hb=>Kd1 _ _)
  (fun a ha b hb=>by
   obtain ⟨x,hx,hQ246⟩:=List.mem_map.mp ha; subst hQ246
   obtain ⟨y,hy,hQ247⟩:=List.mem_map.mp hb; subst hQ247
   obtain ⟨o,h1,h2⟩:=Eh1 (Ak0 x) (Ak0 y) (Ud0 y)
   show FnD w 5 234 _ (Bh0 (Ak0 x) (Fa0 (Ak0 x) (Pg0 (Ak0 x) (Ak0 y))))
   rw [← h2]
   exact Cw1 w _ _ o (Vt0 _ (by have:=(h x hx).tlen; exact Nat.le_trans ‹_› (by decide))) (by have:=Oz0 (h y hy); exact Nat.le_trans ‹_› (by decide)) h1)
  (fun a ha st=>by obtain ⟨x,hx,hQ248⟩:=List.mem_map.mp ha; subst hQ248; exact Hr1 w (by have:=(h x hx).tlen; exact Nat.le_trans ‹_› (by decide)) st)
  (fun k j a row b pr h1 h2 h3 h4=>by
   rw [List.getElem?_map] at h1 h2 h3
   obtain ⟨q,hq,hQ249⟩:=Option.map_eq_some_iff.mp h1; subst hQ249
   obtain ⟨q',hq',hQ250⟩:=Option.map_eq_some_iff.mp h2; subst hQ250
   rw [hq] at hq'; cases hq'
   obtain ⟨p,hp,hQ251⟩:=Option.map_eq_some_iff.mp h3; subst hQ251
   rw [List.getElem?_map] at h4
   obtain ⟨p',hp',hQ252⟩:=Option.map_eq_some_iff.mp h4; subst hQ252
   rw [hp] at hp'; cases hp'
   rfl)
  (fun row hrow=>by obtain ⟨q,hq,hQ253⟩:=List.mem_map.mp hrow; subst hQ253; rw [List.length_map,List.length_map])
 have e1:(words.map Ak0).map PyData.str = words.map fun x=>.str (Ak0 x):=by rw [List.map_map]; rfl
 have e2:((words.map fun q=>words.map fun p=>(Pg0 (Ak0 q) (Ak0 p),Oa0 p)).map fun r=>PyData.list (Hy0 r)) = words.map fun q=>.list (Gb0 words q):=by
  rw [List.map_map]
  refine List.map_congr_left fun q hq=>?_
  show PyData.list (List.map _ (List.map _ words)) = _
  unfold Gb0
  rw [List.map_map]
  congr 1
  refine List.map_congr_left fun p hp=>?_
  show PyData.tuple [.list ((Pg0 (Ak0 q) (Ak0 p)).map fun k=>.int (k:Nat)),.str (Oa0 p)] = _
  rw [Ky0 p q (h p hp).al (h q hq).al,List.map_map]; rfl
 rw [e1,e2] at key
 exact key
end
noncomputable def Tb (ks:List Str) (np:Str→Int) (suc:Str→List Str):Ab:=ks.map fun n=>(n,np n,suc n)
theorem Lb0 (ks:List Str) (np:Str→Int) (suc:Str→List Str):(Tb ks np suc).map (·.1) = ks:=by
 unfold Tb; rw [List.map_map]; exact List.map_id' _
theorem Ct0 {ks:List Str} {np np':Str→Int} {suc suc':Str→List Str} (h1:∀ n ∈ ks,np n = np' n) (h2:∀ n ∈ ks,suc n = suc' n):Tb ks np suc = Tb ks np' suc':=by
 unfold Tb
 exact List.map_congr_left fun n hn=>by rw [h1 n hn,h2 n hn]
theorem Fk1 (ks:List Str) (np:Str→Int) (suc:Str→List Str) (k:Str) (f:Int × List Str→Int × List Str) :
  Iu0 (Tb ks np suc) k f = Tb ks (fun n=>if n = k then (f (np n,suc n)).1 else np n) (fun n=>if n = k then (f (np n,suc n)).2 else suc n):=by
 unfold Iu0 Tb
 rw [List.map_map]
 refine List.map_congr_left fun n _=>?_
 show (if n = k then (n,f (np n,suc n)) else (n,np n,suc n)) = (n,(if n = k then (f (np n,suc n)).1 else np n),(if n = k then (f (np n,suc n)).2 else suc n))
 by_cases h:n = k
 ·rw [if_pos h,if_pos h,if_pos h]
 ·rw [if_neg h,if_neg h,if_neg h]
theorem Pa0 (ks:List Str) (np:Str→Int) (suc:Str→List Str) (k:Str) (g:Int→Int):Iu0 (Tb ks np suc) k (fun q=>(g q.1,q.2)) = Tb ks (fun n=>if n = k then g (np n) else np n) suc:=by
 rw [Fk1]
 exact Ct0 (fun _ _=>rfl) fun n _=>by split <;> rfl
noncomputable def Rz0 (ks:List Str) (np:Str→Int) (suc:Str→List Str):Prop:=∀ k,k ∉ ks→np k = 0∧suc k = []
theorem Ex0 (s:List Str) (n:Str):(s.any (· == n) = true) ↔ n ∈ s:=by
 rw [List.any_eq_true]
 constructor
 ·rintro ⟨x,hx,h⟩; rw [← eq_of_beq h]; exact hx
 ·intro h; exact ⟨n,h,by simp⟩
theorem Fl1 {ks:List Str} {np:Str→Int} {suc:Str→List Str} (hd:Rz0 ks np suc) (k:Str):Xp0 (Tb ks np suc) k = Tb (An0 ks k) np suc:=by
 unfold Xp0 An0
 rw [Lb0]
 by_cases h:k ∈ ks
 ·rw [if_pos h,if_pos ((Ex0 _ _).mpr h)]
 ·rw [if_neg h,if_neg (fun q=>h ((Ex0 _ _).mp q))]
  unfold Tb
  rw [List.map_append,List.map_singleton,(hd k h).1,(hd k h).2]
theorem Cm0 (ks:List Str) (k n:Str):n ∈ An0 ks k ↔ n ∈ ks ∨ n = k:=by
 unfold An0
 split
 ·rename_i h
  have:=(Ex0 _ _).mp h
  exact ⟨.inl,fun q=>q.elim id fun e=>e ▸ this⟩
 ·rw [List.mem_append,List.mem_singleton]
theorem Vv0 {ks:List Str} {np:Str→Int} {suc:Str→List Str} (hd:Rz0 ks np suc) (k:Str):Rz0 (An0 ks k) np suc:=fun n hn=>hd n fun q=>hn ((Cm0 _ _ _).mpr (.inl q))
theorem Hs1 {ks:List Str} {np:Str→Int} {suc:Str→List Str} (hd:Rz0 ks np suc) (node p:Str):Wy0 node (Tb ks np suc) p = Tb (An0 ks p) np (fun n=>if n = p then suc n ++ [node] else suc n):=by
 unfold Wy0
 rw [Fl1 hd,Fk1]
 exact Ct0 (fun n _=>by split <;> rfl) fun _ _=>rfl
theorem Bo1 {ks:List Str} {np:Str→Int} {suc:Str→List Str} (hd:Rz0 ks np suc) (node p:Str):Rz0 (An0 ks p) np (fun n=>if n = p then suc n ++ [node] else suc n):=fun n hn=>by
 have h1:n ≠ p:=fun q=>hn ((Cm0 _ _ _).mpr (.inr q))
 dsimp only
 rw [if_neg h1]
 exact Vv0 hd p n hn
theorem Pb0 (node:Str):∀ (Bd0:List Str) {ks:List Str} {np:Str→Int} {suc:Str→List Str},Rz0 ks np suc →
  Bd0.foldl (Wy0 node) (Tb ks np suc) = Tb (Bd0.foldl An0 ks) np (fun n=>suc n ++ (Bd0.filter fun p=>decide (p = n)).map fun _=>node)
 | [],ks,np,suc,_=>by
  exact Ct0 (fun _ _=>rfl) fun n _=>by simp
 | p :: r,ks,np,suc,hd=>by
  rw [List.foldl_cons,Hs1 hd,Pb0 node r (Bo1 hd node p)]
  refine Ct0 (fun _ _=>rfl) fun n _=>?_
  rw [List.filter_cons]
  by_cases h:n = p
  ·subst h; simp
  ·rw [if_neg h,if_neg (by simpa using fun q:p = n=>h q.symm)]
theorem Xm0 (node:Str) (Bd0:List Str) {ks:List Str} {np:Str→Int} {suc:Str→List Str} (hd:Rz0 ks np suc):Rz0 (Bd0.foldl An0 ks) np (fun n=>suc n ++ (Bd0.filter fun p=>decide (p = n)).map fun _=>node):=by
 intro n hn
 have key:∀ (l s:List Str),n ∉ l.foldl An0 s→n ∉ s∧n ∉ l:=by
  intro l
  induction l with
  | nil=>intro s h; exact ⟨h,by simp⟩
  | cons p l ih =>
   intro s h
   obtain ⟨h1,h2⟩:=ih _ h
   refine ⟨fun q=>h1 ((Cm0 _ _ _).mpr (.inl q)),fun q=>?_⟩
   rcases List.mem_cons.mp q with e | q
   ·exact h1 ((Cm0 _ _ _).mpr (.inr e))
   ·exact h2 q
 obtain ⟨h1,h2⟩:=key _ _ hn
 obtain ⟨d1,d2⟩:=hd n h1
 refine ⟨d1,?_⟩
 dsimp only
 rw [d2,List.nil_append]
 rw [List.map_eq_nil_iff,List.filter_eq_nil_iff]
 intro p hp q
 exact h2 (of_decide_eq_true q ▸ hp)
noncomputable def Xn0 (node:Str) (m:Int) (np:Str→Int):Str→Int:=fun n=>if n = node then np n + m else np n
theorem Vw0 {ks:List Str} {np:Str→Int} {suc:Str→List Str} (hd:Rz0 ks np suc) (node:Str) (m:Int) :
  Iu0 (Xp0 (Tb ks np suc) node) node (fun q=>(q.1 + m,q.2)) = Tb (An0 ks node) (Xn0 node m np) suc∧Rz0 (An0 ks node) (Xn0 node m np) suc:=by
 rw [Fl1 hd,Pa0 _ _ _ _ fun i=>i + m]
 refine ⟨rfl,fun n hn=>?_⟩
 have h1:n ≠ node:=fun q=>hn ((Cm0 _ _ _).mpr (.inr q))
 unfold Xn0
 rw [if_neg h1]
 exact Vv0 hd node n hn
noncomputable def Ge0 (r:Str × List Str) (n:Str):List Str:=(r.2.filter fun p=>decide (p = n)).map fun _=>r.1
theorem Ke1 {ks:List Str} {np:Str→Int} {suc:Str→List Str} (hd:Rz0 ks np suc) (r:Str × List Str) :
  Ia1 (Tb ks np suc) r.1 r.2 = Tb (Aw0 ks r) (Xn0 r.1 r.2.length np) (fun n=>suc n ++ Ge0 r n)∧Rz0 (Aw0 ks r) (Xn0 r.1 r.2.length np) (fun n=>suc n ++ Ge0 r n):=by
 obtain ⟨h1,h2⟩:=Vw0 hd r.1 r.2.length
 unfold Ia1
 rw [h1,Pb0 r.1 r.2 h2]
 exact ⟨rfl,Xm0 r.1 r.2 h2⟩
theorem Ht1 {ks:List Str} {np:Str→Int} {suc:Str→List Str} (hd:Rz0 ks np suc) (r:Str × List Str) (j:Nat) :
  Xd0 (Tb ks np suc) r.1 r.2 j = Tb ((r.2.take j).foldl An0 (An0 ks r.1)) (Xn0 r.1 r.2.length np) (fun n=>suc n ++ ((r.2.take j).filter fun p=>decide (p = n)).map fun _=>r.1):=by
 obtain ⟨h1,h2⟩:=Vw0 hd r.1 r.2.length
 unfold Xd0
 rw [h1,Pb0 r.1 (r.2.take j) h2]
noncomputable def npF (rows:Bz0) (n:Str):Int:=rows.foldl (fun m r=>if n = r.1 then m + r.2.length else m) 0
noncomputable def Ey0 (rows:Bz0) (n:Str):List Str:=rows.flatMap fun r=>Ge0 r n
theorem Bp1:∀ (rows:Bz0) {ks:List Str} {np:Str→Int} {suc:Str→List Str},Rz0 ks np suc →
  rows.foldl (fun l r=>Ia1 l r.1 r.2) (Tb ks np suc) = Tb (rows.foldl Aw0 ks) (fun n=>rows.foldl (fun m r=>if n = r.1 then m + r.2.length else m) (np n)) (fun n=>suc n ++ Ey0 rows n) ∧
  Rz0 (rows.foldl Aw0 ks) (fun n=>rows.foldl (fun m r=>if n = r.1 then m + r.2.length else m) (np n)) (fun n=>suc n ++ Ey0 rows n)
 | [],ks,np,suc,hd=>by
  have e:(fun n=>suc n ++ Ey0 [] n) = suc:=by funext n; show suc n ++ [] = _; simp
  rw [e]
  exact ⟨rfl,hd⟩
 | r :: rows,ks,np,suc,hd=>by
  obtain ⟨h1,h2⟩:=Ke1 hd r
  obtain ⟨h3,h4⟩:=Bp1 rows h2
  have e:(fun n=>(suc n ++ Ge0 r n) ++ Ey0 rows n) = fun n=>suc n ++ Ey0 (r :: rows) n:=by
   funext n; show _ = suc n ++ (Ge0 r n ++ Ey0 rows n); rw [List.append_assoc]
  rw [e] at h3 h4
  rw [List.foldl_cons,h1]
  exact ⟨h3,h4⟩
theorem Sa0 (rows:Bz0):gOf rows = Tb (Af0 rows) (npF rows) (Ey0 rows)∧Rz0 (Af0 rows) (npF rows) (Ey0 rows):=by
 obtain ⟨h1,h2⟩:=Bp1 rows (ks:=[]) (np:=fun _=>0) (suc:=fun _=>[]) fun _ _=>⟨rfl,rfl⟩
 have e:(fun n=>([]:List Str) ++ Ey0 rows n) = Ey0 rows:=by funext n; rfl
 rw [e] at h1 h2
 exact ⟨h1,h2⟩
theorem Ng0:∀ (l s:List Str),(l.foldl An0 s).length ≤ s.length + l.length
 | [],s=>Nat.le_refl _
 | n :: l,s=>by
  have h1:=Ng0 l (An0 s n)
  have h2:=(Ie0 s n).2
  rw [List.foldl_cons,List.length_cons]; lia
theorem Bq1 (r:Str × List Str) (n:Str):(Ge0 r n).length ≤ r.2.length:=by
 unfold Ge0; rw [List.length_map]; exact List.length_filter_le _ _
theorem Br1 {m:Nat}:∀ (rows:Bz0) (n:Str),(∀ r ∈ rows,r.2.length ≤ m)→(Ey0 rows n).length ≤ rows.length * m
 | [],n,_=>by simp [Ey0]
 | r :: rows,n,h=>by
  have h1:=Br1 rows n fun q hq=>h q (.tail _ hq)
  have h2:=Bq1 r n
  have h3:=h r (.head _)
  show (Ge0 r n ++ Ey0 rows n).length ≤ _
  rw [List.length_append,List.length_cons,Nat.succ_mul]; lia
theorem Sb0 (rows:Bz0) (i:Nat):(Af0 (rows.take i)).length ≤ (Af0 rows).length:=by
 have:=Eu0 (rows.drop i) (Af0 (rows.take i))
 have e:(rows.drop i).foldl Aw0 (Af0 (rows.take i)) = Af0 rows:=by
  show List.foldl Aw0 (List.foldl Aw0 [] (rows.take i)) (rows.drop i) = List.foldl Aw0 [] rows
  rw [← List.foldl_append,List.take_append_drop]
 rw [e] at this; exact this
theorem Bs1 (ks:List Str) (np:Str→Int) (suc:Str→List Str):(Tb ks np suc).length = ks.length:=by unfold Tb; rw [List.length_map]
theorem Bt1 (rows:Bz0) (hl:rows.length ≤ 10) (hs:(Af0 rows).length ≤ 60) (hr:∀ r ∈ rows,r.2.length ≤ 20):∀ i row,rows[i]? = some row→row.2.length ≤ 900∧(gOf (rows.take i)).length ≤ 900∧∀ j,(Xd0 (gOf (rows.take i)) row.1 row.2 j).length ≤ 1000∧∀ p ∈ Xd0 (gOf (rows.take i)) row.1 row.2 j,p.2.2.length ≤ 1000:=by
 intro i row hrow
 have hrm:=hr row (List.mem_of_getElem? hrow)
 obtain ⟨g1,g2⟩:=Sa0 (rows.take i)
 have h1:=Sb0 rows i
 refine ⟨by exact Nat.le_trans ‹_› (by decide),by rw [g1,Bs1]; exact Nat.le_trans (Nat.le_trans ‹_› ‹_›) (by decide),fun j=>?_⟩
 rw [g1,Ht1 g2]
 constructor
 ·rw [Bs1]
  have h2:=Ng0 (row.2.take j) (An0 (Af0 (rows.take i)) row.1)
  have h3:=(Ie0 (Af0 (rows.take i)) row.1).2
  have h4:=List.length_take_le j row.2
  have h5:(row.2.take j).length ≤ row.2.length:=by rw [List.length_take]; exact Nat.min_le_right _ _
  lia
 ·intro p hp
  obtain ⟨n,_,hQ254⟩:=List.mem_map.mp hp; subst hQ254
  show (_ ++ _:List Str).length ≤ 1000
  rw [List.length_append,List.length_map]
  have h2:=Br1 (m:=20) (rows.take i) n fun r hr'=>hr r (List.mem_of_mem_take hr')
  have h3:(rows.take i).length ≤ 10:=by rw [List.length_take]; exact Mh1 ‹_›
  have h4:((row.2.take j).filter fun p=>decide (p = n)).length ≤ row.2.length:=Nat.le_trans (List.length_filter_le _ _) (by rw [List.length_take]; exact Nat.min_le_right _ _)
  have h5:(rows.take i).length * 20 ≤ 10 * 20:=Nat.mul_le_mul_right _ h3
  lia
section
variable {ks:List Str} {np:Str→Int} {suc:Str→List Str}
theorem Kf1 (hk:ks.Nodup) {k:Str} (h:k ∈ ks):aAt (Tb ks np suc) k = some (k,np k,suc k) :=
 Zj0 (l:=Tb ks np suc) (by rw [Lb0]; exact hk) (p:=(k,np k,suc k)) (List.mem_map.mpr ⟨k,h,rfl⟩)
theorem Mc1 (hk:ks.Nodup) {k:Str} (h:k ∈ ks):aNp (Tb ks np suc) k = np k:=by unfold aNp; rw [Kf1 hk h]; rfl
theorem Kg1 (hk:ks.Nodup) {k:Str} (h:k ∈ ks):Ez1 (Tb ks np suc) k = suc k:=by unfold Ez1; rw [Kf1 hk h]; rfl
theorem Hu1 (hk:ks.Nodup) {k:Str} (h:k ∈ ks) (rd:List Str):Fx0 (Tb ks np suc,rd) k = (Tb ks (fun n=>if n = k then np n - 1 else np n) suc,if np k - 1 = 0 then rd ++ [k] else rd):=by
 unfold Fx0
 dsimp only
 rw [Pa0 ks np suc k fun i=>i - 1,Mc1 hk h]
 simp
theorem Vx0 (hk:ks.Nodup):∀ (L:List Str) (np:Str→Int) (rd:List Str),L.Nodup→(∀ s ∈ L,s ∈ ks) →
  L.foldl Fx0 (Tb ks np suc,rd) = (Tb ks (fun n=>if n ∈ L then np n - 1 else np n) suc,rd ++ L.filter fun s=>decide (np s - 1 = 0))
 | [],np,rd,_,_=>by simp
 | k :: L,np,rd,hn,hl=>by
  rw [List.nodup_cons] at hn
  rw [List.foldl_cons,Hu1 hk (hl k (.head _)),Vx0 hk L _ _ hn.2 fun s hs=>hl s (.tail _ hs)]
  have e1:L.filter (fun s=>decide ((if s = k then np s - 1 else np s) - 1 = 0)) = L.filter fun s=>decide (np s - 1 = 0):=by
   refine List.filter_congr fun s hs=>?_
   rw [if_neg fun q:s = k=>hn.1 (q ▸ hs)]
  refine Prod.ext ?_ ?_
  ·refine Ct0 (fun n _=>?_) fun _ _=>rfl
   by_cases h:n = k
   ·subst h
    rw [if_neg hn.1,if_pos rfl,if_pos (.head _)]
   ·by_cases h2:n ∈ L
    ·rw [if_pos h2,if_neg h,if_pos (.tail _ h2)]
    ·rw [if_neg h2,if_neg h,if_neg fun q=>(List.mem_cons.mp q).elim h h2]
  ·show _ ++ L.filter _ = rd ++ (k :: L).filter _
   rw [e1,List.filter_cons]
   by_cases h:np k - 1 = 0
   ·rw [if_pos h,if_pos (decide_eq_true h)]; simp
   ·rw [if_neg h,if_neg (by simpa using h)]
theorem Bu1:∀ (R:List Str) (np:Str→Int),Uy0 (Tb ks np suc) R = Tb ks (fun n=>if n ∈ R then -1 else np n) suc
 | [],np=>by unfold Uy0; simp
 | k :: R,np=>by
  show Uy0 (Iu0 (Tb ks np suc) k fun q=>(-1,q.2)) R = _
  rw [Pa0 ks np suc k fun _=>-1,Bu1 R]
  refine Ct0 (fun n _=>?_) fun _ _=>rfl
  by_cases h2:n ∈ R
  ·rw [if_pos h2,if_pos (.tail _ h2)]
  ·rw [if_neg h2]
   by_cases h:n = k
   ·rw [if_pos h,if_pos (h ▸ .head _)]
   ·rw [if_neg h,if_neg fun q=>(List.mem_cons.mp q).elim h h2]
end
structure Gr (ks:List Str) (nd suc:Str→List Str):Prop where
 ksN:ks.Nodup
 sucN:∀ x,(suc x).Nodup
 sucK:∀ x,∀ s ∈ suc x,s ∈ ks
 edge:∀ x s,s ∈ suc x ↔ x ∈ nd s
 ndN:∀ n,(nd n).Nodup
noncomputable def npD (nd:Str→List Str) (D R:List Str) (n:Str):Int:=if n ∈ D then -2 else if n ∈ R then -1 else ((nd n).filter fun p=>decide (p ∉ D)).length
noncomputable def app (nd suc:Str→List Str) (D:List Str) (x:Str):List Str:=(suc x).filter fun s=>(nd s).all fun p=>decide (p ∈ D ++ [x])
theorem Sc0 {l D:List Str} (hl:l.Nodup) (hx:x ∉ D):((l.filter fun p=>decide (p ∉ D)).length:Int) = (l.filter fun p=>decide (p ∉ D ++ [x])).length + if x ∈ l then 1 else 0:=by
 induction l with
 | nil=>simp
 | cons a l ih =>
  rw [List.nodup_cons] at hl
  have ih:=ih hl.2
  rw [List.filter_cons,List.filter_cons]
  by_cases ha:a = x
  ·subst ha
   rw [if_pos (by simpa using hx),if_neg (by simp),if_pos (.head _)]
   rw [if_neg hl.1] at ih
   rw [List.length_cons]; lia
  ·have e1:(a ∉ D) ↔ a ∉ D ++ [x]:=by simp [ha]
   have e2:x ∈ a :: l ↔ x ∈ l:=⟨fun q=>(List.mem_cons.mp q).elim (fun e=>absurd e.symm ha) id,fun q=>.tail _ q⟩
   by_cases hD:a ∈ D
   ·rw [if_neg (by simpa using hD),if_neg (by simp [hD])]
    simp only [e2]; exact ih
   ·rw [if_pos (by simpa using hD),if_pos (by simpa using e1.mp hD)]
    simp only [e2,List.length_cons]; lia
theorem Bv1 {l D:List Str}:(l.filter fun p=>decide (p ∉ D)).length = 0 ↔ l.all (fun p=>decide (p ∈ D)) = true:=by
 rw [List.length_eq_zero_iff,List.filter_eq_nil_iff,List.all_eq_true]
 constructor
 ·intro h p hp; have:=h p hp; simpa using this
 ·intro h p hp; have:=h p hp; simpa using this
theorem Bw1 {ks:List Str} {nd suc:Str→List Str} (g:Gr ks nd suc) {D R:List Str} {x:Str} (hx:x ∈ R) (hxk:x ∈ ks) (hxD:x ∉ D) (hcl:∀ n ∈ D,∀ p ∈ nd n,p ∈ D) (hR:∀ n ∈ R,∀ p ∈ nd n,p ∈ D) (rd:List Str) :
  Dw0 (Tb ks (npD nd D R) suc,rd) x = (Tb ks (npD nd (D ++ [x]) R) suc,rd ++ app nd suc D x):=by
 have hnx:∀ s ∈ suc x,s ∉ D∧s ∉ R:=fun s hs=>by
  have h:=(g.edge x s).mp hs
  exact ⟨fun q=>hxD (hcl s q x h),fun q=>hxD (hR s q x h)⟩
 unfold Dw0
 dsimp only
 rw [Pa0 ks (npD nd D R) suc x fun _=>-2,Kg1 g.ksN hxk,Vx0 g.ksN _ _ _ (g.sucN x) (g.sucK x)]
 have hval:∀ s ∈ suc x,(if s = x then (-2:Int) else npD nd D R s) = ((nd s).filter fun p=>decide (p ∉ D ++ [x])).length + 1:=fun s hs=>by
  obtain ⟨h1,h2⟩:=hnx s hs
  rw [if_neg fun q:s = x=>h2 (q ▸ hx)]
  unfold npD
  rw [if_neg h1,if_neg h2,Sc0 (g.ndN s) hxD,if_pos ((g.edge x s).mp hs)]
 refine Prod.ext ?_ ?_
 ·refine Ct0 (fun n _=>?_) fun _ _=>rfl
  by_cases hs:n ∈ suc x
  ·obtain ⟨h1,h2⟩:=hnx n hs
   have hne:n ≠ x:=fun q=>h2 (q ▸ hx)
   rw [if_pos hs,hval n hs]
   unfold npD
   have hD':n ∉ D ++ [x]:=by simp [h1,hne]
   rw [if_neg hD',if_neg h2]; lia
  ·rw [if_neg hs]
   by_cases hne:n = x
   ·subst hne; rw [if_pos rfl]; unfold npD; rw [if_pos (by simp)]
   ·rw [if_neg hne]
    unfold npD
    by_cases h1:n ∈ D
    ·rw [if_pos h1,if_pos (by simp [h1])]
    ·have hD':n ∉ D ++ [x]:=by simp [h1,hne]
     rw [if_neg h1,if_neg hD']
     by_cases h2:n ∈ R
     ·rw [if_pos h2,if_pos h2]
     ·rw [if_neg h2,if_neg h2,Sc0 (g.ndN n) hxD,if_neg fun q=>hs ((g.edge x n).mpr q)]; rfl
 ·show rd ++ _ = rd ++ app nd suc D x
  congr 1
  refine List.filter_congr fun s hs=>?_
  rw [hval s hs]
  rw [Bool.eq_iff_iff,decide_eq_true_eq,← Bv1]
  simp +arith
noncomputable def Lc0 (nd suc:Str→List Str):List Str→List Str→List Str
 | _,[]=>[]
 | D,x :: R=>app nd suc D x ++ Lc0 nd suc (D ++ [x]) R
structure Inv (ks:List Str) (nd suc:Str→List Str) (D:List Str) (S:Ab × List Str):Prop where
 tb:S.1 = Tb ks (npD nd D []) suc
 rN:S.2.Nodup
 rm:∀ n,n ∈ S.2 ↔ n ∈ ks∧n ∉ D∧∀ p ∈ nd n,p ∈ D
 dN:D.Nodup
 dk:∀ n ∈ D,n ∈ ks
 cl:∀ n ∈ D,∀ p ∈ nd n,p ∈ D
theorem Ld0 {nd suc:Str→List Str} {D:List Str} {s:Str}:s ∈ app nd suc D x ↔ s ∈ suc x∧∀ p ∈ nd s,p ∈ D ++ [x]:=by
 unfold app
 rw [List.mem_filter,List.all_eq_true]
 exact ⟨fun h=>⟨h.1,fun p hp=>of_decide_eq_true (h.2 p hp)⟩,fun h=>⟨h.1,fun p hp=>decide_eq_true (h.2 p hp)⟩⟩
theorem Pc0 {nd suc:Str→List Str} {s:Str}:∀ (R D:List Str),s ∈ Lc0 nd suc D R ↔ ∃ P x Q,R = P ++ x :: Q∧s ∈ app nd suc (D ++ P) x
 | [],D=>⟨fun h=>(nomatch h),fun hh1=>by obtain ⟨P,x,Q,e,_⟩:=hh1; simp at e⟩
 | y :: R,D=>by
  show s ∈ app nd suc D y ++ Lc0 nd suc (D ++ [y]) R ↔ _
  rw [List.mem_append,Pc0 R (D ++ [y])]
  constructor
  ·rintro (h | ⟨P,x,Q,e,h⟩)
   ·exact ⟨[],y,R,rfl,by simpa using h⟩
   ·exact ⟨y :: P,x,Q,by rw [e]; rfl,by simpa using h⟩
  ·rintro ⟨P,x,Q,e,h⟩
   cases P with
   | nil =>
    have e:y :: R = x :: Q:=e
    cases e
    exact .inl (by simpa using h)
   | cons p P =>
    have e:y :: R = p :: (P ++ x :: Q):=e
    cases e
    exact .inr ⟨P,x,Q,rfl,by simpa using h⟩
theorem Sd0 {α:Type} {P:α→Prop} [DecidablePred P]:∀ (l:List α),(∃ x ∈ l,P x)→∃ A x B,l = A ++ x :: B∧P x∧∀ y ∈ B,¬ P y
 | [],h=>by obtain ⟨x,hx,_⟩:=h; cases hx
 | a :: l,h=>by
  by_cases q:∃ x ∈ l,P x
  ·obtain ⟨A,x,B,e,h1,h2⟩:=Sd0 l q
   exact ⟨a :: A,x,B,by rw [e]; rfl,h1,h2⟩
  ·obtain ⟨x,hx,hp⟩:=h
   rcases List.mem_cons.mp hx with rfl | hx
   ·exact ⟨[],x,l,rfl,hp,fun y hy hy'=>q ⟨y,hy,hy'⟩⟩
   ·exact absurd ⟨x,hx,hp⟩ q
section
variable {ks:List Str} {nd suc:Str→List Str} {D:List Str} {S:Ab × List Str}
theorem Inv.rk (v:Inv ks nd suc D S):∀ n ∈ S.2,n ∈ ks:=fun n h=>((v.rm n).mp h).1
theorem Inv.rd (v:Inv ks nd suc D S):∀ n ∈ S.2,n ∉ D:=fun n h=>((v.rm n).mp h).2.1
theorem Inv.rn (v:Inv ks nd suc D S):∀ n ∈ S.2,∀ p ∈ nd n,p ∈ D:=fun n h=>((v.rm n).mp h).2.2
theorem Inv.outs_eq (v:Inv ks nd suc D S):Uy0 S.1 S.2 = Tb ks (npD nd D S.2) suc:=by
 rw [v.tb,Bu1]
 refine Ct0 (fun n _=>?_) fun _ _=>rfl
 unfold npD
 by_cases h:n ∈ S.2
 ·rw [if_pos h,if_neg (v.rd n h),if_pos h]
 ·rw [if_neg h]
  by_cases h1:n ∈ D
  ·rw [if_pos h1,if_pos h1]
  ·rw [if_neg h1,if_neg (by simp),if_neg h1,if_neg h]
theorem Inv.steps (g:Gr ks nd suc) (v:Inv ks nd suc D S) (P Q:List Str) (e:S.2 = P ++ Q):P.foldl Dw0 (Uy0 S.1 S.2,[]) = (Tb ks (npD nd (D ++ P) S.2) suc,Lc0 nd suc D P):=by
 rw [v.outs_eq]
 have hcl:=v.cl
 have key:∀ (A B:List Str),P = A ++ B→B.foldl Dw0 (Tb ks (npD nd (D ++ A) S.2) suc,Lc0 nd suc D A) = (Tb ks (npD nd (D ++ P) S.2) suc,Lc0 nd suc D P):=by
  intro A B
  induction B generalizing A with
  | nil=>intro h; rw [List.append_nil] at h; subst h; rfl
  | cons x B ih =>
   intro h
   have hxR:x ∈ S.2:=by rw [e,h]; simp
   have hxA:x ∉ A:=fun q=>by
    have:=v.rN
    rw [e,h,List.append_assoc,List.nodup_append] at this
    exact this.2.2 x q x (by simp) rfl
   have hcl':∀ n ∈ D ++ A,∀ p ∈ nd n,p ∈ D ++ A:=fun n hn p hp=>by
    rcases List.mem_append.mp hn with q | q
    ·exact List.mem_append_left _ (v.cl n q p hp)
    ·exact List.mem_append_left _ (v.rn n (by rw [e,h]; simp [q]) p hp)
   rw [List.foldl_cons,Bw1 g hxR (v.rk x hxR) (fun q=>(List.mem_append.mp q).elim (v.rd x hxR) hxA) hcl' (fun n hn p hp=>List.mem_append_left _ (v.rn n hn p hp)),List.append_assoc D A [x]]
   have he:Lc0 nd suc D A ++ app nd suc (D ++ A) x = Lc0 nd suc D (A ++ [x]):=by
    have:∀ (A D:List Str),Lc0 nd suc D (A ++ [x]) = Lc0 nd suc D A ++ app nd suc (D ++ A) x:=by
     intro A
     induction A with
     | nil=>intro D; show app nd suc D x ++ [] = [] ++ app nd suc (D ++ []) x; simp
     | cons a A ih2 =>
      intro D
      show app nd suc D a ++ Lc0 nd suc (D ++ [a]) (A ++ [x]) = (app nd suc D a ++ Lc0 nd suc (D ++ [a]) A) ++ app nd suc (D ++ a :: A) x
      rw [ih2,List.append_assoc]
      simp
    exact (this A D).symm
   rw [he]
   exact ih (A ++ [x]) (by rw [h]; simp)
 have:=key [] P rfl
 simpa [Lc0] using this
theorem Inv.nxt_eq (g:Gr ks nd suc) (v:Inv ks nd suc D S):nxt S = (Tb ks (npD nd (D ++ S.2) []) suc,Lc0 nd suc D S.2):=by
 unfold nxt
 rw [v.steps g S.2 [] (by simp)]
 refine Prod.ext (Ct0 (fun n _=>?_) fun _ _=>rfl) rfl
 unfold npD
 by_cases h:n ∈ D ++ S.2
 ·rw [if_pos h,if_pos h]
 ·rw [if_neg h,if_neg h,if_neg fun q=>h (List.mem_append_right _ q),if_neg (by simp)]
theorem Inv.next (g:Gr ks nd suc) (v:Inv ks nd suc D S):Inv ks nd suc (D ++ S.2) (nxt S):=by
 rw [v.nxt_eq g]
 have hself:∀ x ∈ S.2,x ∉ nd x:=fun x hx q=>v.rd x hx (v.rn x hx x q)
 have hcl:∀ n ∈ D ++ S.2,∀ p ∈ nd n,p ∈ D:=fun n hn p hp=>(List.mem_append.mp hn).elim (fun q=>v.cl n q p hp) fun q=>v.rn n q p hp
 have hone:∀ P x Q,S.2 = P ++ x :: Q→x ∉ D∧x ∉ P∧x ∉ Q:=fun P x Q e=>by
  have hx:x ∈ S.2:=by rw [e]; simp
  have:=v.rN
  rw [e,List.nodup_append] at this
  exact ⟨v.rd x hx,fun q=>this.2.2 x q x (.head _) rfl,(List.nodup_cons.mp this.2.1).1⟩
 refine ⟨rfl,?_,fun n=>?_,?_,fun n hn=>(List.mem_append.mp hn).elim (v.dk n) (v.rk n),fun n hn p hp=>List.mem_append_left _ (hcl n hn p hp)⟩
 ·-- no name twice
  show (Lc0 nd suc D S.2).Nodup
  have key:∀ (Q P:List Str),S.2 = P ++ Q→(Lc0 nd suc (D ++ P) Q).Nodup:=by
   intro Q
   induction Q with
   | nil=>intro P _; exact List.nodup_nil
   | cons x Q ih =>
    intro P e
    show (app nd suc (D ++ P) x ++ Lc0 nd suc (D ++ P ++ [x]) Q).Nodup
    rw [List.nodup_append]
    refine ⟨List.Nodup.sublist List.filter_sublist (g.sucN x),?_,fun s hs s' hs' hss=>?_⟩
    ·rw [List.append_assoc]; exact ih (P ++ [x]) (by rw [e]; simp)
    ·subst hss
     obtain ⟨h1,h2⟩:=Ld0.mp hs
     obtain ⟨P',y,Q',e',h'⟩:=(Pc0 Q (D ++ P ++ [x])).mp hs'
     obtain ⟨h3,h4⟩:=Ld0.mp h'
     have hy:=h2 y ((g.edge y s).mp h3)
     have e2:S.2 = (P ++ x :: P') ++ y :: Q':=by rw [e,e']; simp
     obtain ⟨n1,n2,_⟩:=hone _ _ _ e2
     simp at hy n2
     rcases hy with q | q | q
     ·exact n1 q
     ·exact n2.1 q
     ·exact n2.2.1 q
  have:=key S.2 [] rfl
  simpa using this
 ·-- who is free
  show n ∈ Lc0 nd suc D S.2 ↔ _
  rw [Pc0]
  constructor
  ·rintro ⟨P,x,Q,e,h⟩
   obtain ⟨h1,h2⟩:=Ld0.mp h
   have hx:x ∈ S.2:=by rw [e]; simp
   have hxn:=(g.edge x n).mp h1
   refine ⟨g.sucK x n h1,fun q=>v.rd x hx (hcl n q x hxn),fun p hp=>?_⟩
   have:=h2 p hp
   rw [e]; simp at this ⊢
   rcases this with q | q | q
   ·exact .inl q
   ·exact .inr (.inl q)
   ·exact .inr (.inr (.inl q))
  ·rintro ⟨h1,h2,h3⟩
   have hex:∃ x ∈ S.2,x ∈ nd n:=by
    refine Classical.byContradiction fun q=>?_
    refine h2 (List.mem_append_right _ ((v.rm n).mpr ⟨h1,fun q'=>h2 (List.mem_append_left _ q'),fun p hp=>?_⟩))
    rcases List.mem_append.mp (h3 p hp) with h | h
    ·exact h
    ·exact absurd ⟨p,h,hp⟩ q
   obtain ⟨P,x,Q,e,hx,hq⟩:=Sd0 S.2 hex
   refine ⟨P,x,Q,e,Ld0.mpr ⟨(g.edge x n).mpr hx,fun p hp=>?_⟩⟩
   have h:=h3 p hp
   rw [e] at h
   simp at h ⊢
   rcases h with h | h | h | h
   ·exact .inl h
   ·exact .inr (.inl h)
   ·exact .inr (.inr h)
   ·exact absurd hp (hq p h)
 ·rw [List.nodup_append]
  exact ⟨v.dN,v.rN,fun a ha b hb q=>v.rd b hb (q ▸ ha)⟩
end
structure RG (rows:Bz0) (nd:Str→List Str) (kx:Str→Nat):Prop where
 gr:Gr (Af0 rows) nd (Ey0 rows)
 needs:∀ n ∈ Af0 rows,Ba0 rows n = (nd n).map fun p=>(p,kx n)
 kxl:∀ n,kx n < 1000
 asc:∀ x,(Ey0 rows x).Pairwise fun s s'=>kx s < kx s'
 np:∀ n ∈ Af0 rows,npF rows n = (nd n).length
 sl:(Af0 rows).length ≤ 60
section
variable {rows:Bz0} {nd:Str→List Str} {kx:Str→Nat} {D:List Str} {S:Ab × List Str}
theorem Pd0 (g:RG rows nd kx) {n:Str} (hn:n ∈ Af0 rows):Kn0 rows D n = true ↔ n ∉ D∧∀ p ∈ nd n,p ∈ D:=by
 unfold Kn0
 rw [Bool.and_eq_true,List.isEmpty_iff,List.filter_eq_nil_iff,g.needs n hn]
 constructor
 ·rintro ⟨h1,h2⟩
  refine ⟨fun q=>?_,fun p hp=>?_⟩
  ·rw [(Ex0 D n).mpr q] at h1; cases h1
  ·have:=h2 (p,kx n) (List.mem_map.mpr ⟨p,hp,rfl⟩)
   refine (Ex0 D p).mp ?_
   cases hq:D.any (· == p) with
   | true=>rfl
   | false=>rw [hq] at this; exact absurd rfl this
 ·rintro ⟨h1,h2⟩
  refine ⟨?_,fun q hq=>?_⟩
  ·cases hq:D.any (· == n) with
   | true=>exact absurd ((Ex0 D n).mp hq) h1
   | false=>rfl
  ·obtain ⟨p,hp,hQ255⟩:=List.mem_map.mp hq; subst hQ255
   rw [(Ex0 D p).mpr (h2 p hp)]; decide
noncomputable def Xs0 (rows:Bz0) (D:List Str) (s:Str):RkN:=(Ed0 rows D ((Af0 rows).idxOf s) s,s)
theorem Pe0 (hN:(Af0 rows).Nodup):∀ n,n ≤ (Af0 rows).length→Gm0 rows D n = (((Af0 rows).take n).filter (Kn0 rows D)).map (Xs0 rows D)
 | 0,_=>rfl
 | n + 1,h=>by
  have hn:n < (Af0 rows).length:=by assumption
  have e:(Af0 rows)[n]? = some (Af0 rows)[n]:=List.getElem?_eq_getElem hn
  have hi:(Af0 rows).idxOf (Af0 rows)[n] = n:=List.Nodup.idxOf_getElem hN n hn
  unfold Gm0
  rw [Pe0 hN n (by exact Nat.le_of_lt ‹_›),List.take_succ_eq_append_getElem hn,List.filter_append,List.map_append,e]
  dsimp only
  congr 1
  rw [List.filter_cons]
  by_cases q:Kn0 rows D (Af0 rows)[n] = true
  ·rw [if_pos q,if_pos q]
   show _ = [Xs0 rows D (Af0 rows)[n]]
   unfold Xs0; rw [hi]
  ·rw [if_neg q,if_neg q]; rfl
theorem Ep1 (g:RG rows nd kx) {P Q:List Str} {x s:Str} {i:Nat} (hi:i < 1000) (hs:s ∈ Af0 rows) (hx:x ∉ D ++ P) (hxs:x ∈ nd s) (hall:∀ p ∈ nd s,p ∈ D ++ P ++ [x]) :
  enc (Ed0 rows (D ++ P ++ x :: Q) i s).1 (Ed0 rows (D ++ P ++ x :: Q) i s).2 = 1000 * ((D ++ P).length:Int) + kx s:=by
 have hk:=g.kxl s
 unfold Ed0
 rw [g.needs s hs,List.map_map]
 obtain ⟨h1,h2⟩:=Hn0 (((nd s).map ((fun q:Str × Nat=>((Pf0 (D ++ P ++ x :: Q) q.1:Int),(q.2:Int))) ∘ fun p=>(p,kx s)))) (-1,(i:Int))
 generalize Xr0 (-1,(i:Int)) ((nd s).map ((fun q:Str × Nat=>((Pf0 (D ++ P ++ x :: Q) q.1:Int),(q.2:Int))) ∘ fun p=>(p,kx s))) = m at h1 h2
 have hix:Pf0 (D ++ P ++ x :: Q) x = (D ++ P).length:=by
  unfold Pf0
  rw [List.idxOf_append,if_neg hx,List.idxOf_cons_self]; exact Nat.add_comm _ _
 have hge:=h2 ((Pf0 (D ++ P ++ x :: Q) x:Int),(kx s:Int)) (.tail _ (List.mem_map.mpr ⟨x,hxs,rfl⟩))
 rw [hix] at hge
 rcases List.mem_cons.mp h1 with rfl | h1
 ·unfold enc at hge ⊢
  dsimp only at hge ⊢
  lia
 ·obtain ⟨p,hp,hQ256⟩:=List.mem_map.mp h1; subst hQ256
  have hpi:Pf0 (D ++ P ++ x :: Q) p ≤ (D ++ P).length:=by
   have hm:=hall p hp
   have e:D ++ P ++ x :: Q = (D ++ P ++ [x]) ++ Q:=by simp
   unfold Pf0
   rw [e,List.idxOf_append,if_pos hm]
   have:=List.idxOf_lt_length_of_mem hm
   rw [List.length_append,List.length_singleton] at this
   exact Nat.le_of_lt_succ ‹_›
  unfold enc at hge ⊢
  simp only [Function.comp] at hge ⊢
  lia
theorem Bx1 (g:RG rows nd kx) (v:Inv (Af0 rows) nd (Ey0 rows) D S):PlanStep rows (D ++ S.2) (nxt S).2:=by
 have v':=v.next g.gr
 rw [v.nxt_eq g.gr] at v' ⊢
 dsimp only at v' ⊢
 refine ⟨(Lc0 nd (Ey0 rows) D S.2).map (Xs0 rows (D ++ S.2)),?_,?_,?_⟩
 ·rw [List.map_map]; exact List.map_id' _
 ·rw [Pe0 g.gr.ksN _ (Nat.le_refl _),List.take_length]
  refine List.Perm.map _ ?_
  refine (List.perm_ext_iff_of_nodup v'.rN (List.Nodup.sublist List.filter_sublist g.gr.ksN)).mpr fun n=>?_
  rw [v'.rm,List.mem_filter]
  constructor
  ·rintro ⟨h1,h2⟩; exact ⟨h1,(Pd0 g h1).mpr h2⟩
  ·rintro ⟨h1,h2⟩; exact ⟨h1,(Pd0 g h1).mp h2⟩
 ·rw [List.pairwise_map]
  have hval:∀ P x Q,S.2 = P ++ x :: Q→∀ s ∈ app nd (Ey0 rows) (D ++ P) x,Hm0 (Xs0 rows (D ++ S.2) s) = 1000 * ((D ++ P).length:Int) + kx s:=by
   intro P x Q e s hs
   obtain ⟨h1,h2⟩:=Ld0.mp hs
   have hx:x ∈ S.2:=by rw [e]; simp
   have hN:=v.rN
   rw [e,List.nodup_append] at hN
   have hsk:=g.gr.sucK x s h1
   have hlt:(Af0 rows).idxOf s < 1000:=by
    have:=List.idxOf_lt_length_of_mem hsk
    have:=g.sl; exact Nat.le_trans (Nat.le_trans ‹_› ‹_›) (by decide)
   have:=Ep1 (Q:=Q) g hlt hsk (fun q=>(List.mem_append.mp q).elim (v.rd x hx) fun q=>hN.2.2 x q x (.head _) rfl) ((g.gr.edge x s).mp h1) h2
   unfold Hm0 Xs0
   rw [e,show D ++ (P ++ x :: Q) = D ++ P ++ x :: Q by simp]
   exact this
  have key:∀ (Q P:List Str),S.2 = P ++ Q→(Lc0 nd (Ey0 rows) (D ++ P) Q).Pairwise (fun a b=>Hm0 (Xs0 rows (D ++ S.2) a) < Hm0 (Xs0 rows (D ++ S.2) b))∧∀ s ∈ Lc0 nd (Ey0 rows) (D ++ P) Q,1000 * ((D ++ P).length:Int) ≤ Hm0 (Xs0 rows (D ++ S.2) s):=by
   intro Q
   induction Q with
   | nil=>intro P _; exact ⟨.nil,fun s hs=>(nomatch hs)⟩
   | cons x Q ih =>
    intro P e
    have ih:=ih (P ++ [x]) (by rw [e]; simp)
    rw [← List.append_assoc D P [x]] at ih
    obtain ⟨i1,i2⟩:=ih
    have hv:=hval P x Q e
    have hl:((D ++ P ++ [x]).length:Int) = ((D ++ P).length:Int) + 1:=by rw [List.length_append,List.length_singleton]; rfl
    constructor
    ·show (app nd (Ey0 rows) (D ++ P) x ++ Lc0 nd (Ey0 rows) (D ++ P ++ [x]) Q).Pairwise _
     rw [List.pairwise_append]
     refine ⟨?_,i1,fun a ha b hb=>?_⟩
     ·refine List.Pairwise.imp_of_mem (fun ha hb hab=>?_) (List.Pairwise.sublist List.filter_sublist (g.asc x))
      rw [hv _ ha,hv _ hb]; simp_all
     ·rw [hv a ha]
      have:=i2 b hb
      have:=g.kxl a
      lia
    ·intro s hs
     have hs:s ∈ app nd (Ey0 rows) (D ++ P) x ++ Lc0 nd (Ey0 rows) (D ++ P ++ [x]) Q:=hs
     rcases List.mem_append.mp hs with h | h
     ·rw [hv s h]; lia
     ·have:=i2 s h; lia
  have:=(key S.2 [] rfl).1
  simpa using this
theorem Le0 (g:RG rows nd kx):Inv (Af0 rows) nd (Ey0 rows) [] (gOf rows,By0 (gOf rows)):=by
 have e:gOf rows = Tb (Af0 rows) (npD nd [] []) (Ey0 rows):=by
  rw [(Sa0 rows).1]
  refine Ct0 (fun n hn=>?_) fun _ _=>rfl
  rw [g.np n hn]
  unfold npD
  rw [if_neg (by simp),if_neg (by simp),List.filter_eq_self.mpr (by simp)]
 have hr:By0 (gOf rows) = (Af0 rows).filter fun n=>decide (nd n = []):=by
  rw [e]
  unfold By0 Tb
  rw [List.filter_map,List.map_map]
  rw [show ((fun p:Str × Int × List Str=>p.1) ∘ fun n=>(n,npD nd [] [] n,Ey0 rows n)) = id from rfl,List.map_id]
  refine List.filter_congr fun n _=>?_
  show (npD nd [] [] n == 0) = _
  unfold npD
  rw [if_neg (by simp),if_neg (by simp),List.filter_eq_self.mpr (by simp)]
  rw [Bool.eq_iff_iff,beq_iff_eq,decide_eq_true_eq]
  rw [← List.length_eq_zero_iff]; simp +arith
 refine ⟨e,?_,fun n=>?_,List.nodup_nil,fun n hn=>(nomatch hn),fun n hn=>(nomatch hn)⟩
 ·show (By0 (gOf rows)).Nodup
  rw [hr]; exact List.Nodup.sublist List.filter_sublist g.gr.ksN
 ·show n ∈ By0 (gOf rows) ↔ _
  rw [hr,List.mem_filter,decide_eq_true_eq]
  constructor
  ·rintro ⟨h1,h2⟩; exact ⟨h1,by simp,by rw [h2]; simp⟩
  ·rintro ⟨h1,_,h2⟩
   refine ⟨h1,?_⟩
   cases h:nd n with
   | nil=>rfl
   | cons p r=>have:=h2 p (by rw [h]; simp); simp at this
theorem Xo0 (g:RG rows nd kx):PlanStep rows [] (By0 (gOf rows)):=by
 have v:=Le0 g
 have hrm:∀ n,n ∈ By0 (gOf rows) ↔ n ∈ Af0 rows∧n ∉ ([]:List Str)∧∀ p ∈ nd n,p ∈ ([]:List Str):=v.rm
 have hsub:By0 (gOf rows) = (Af0 rows).filter (Kn0 rows []):=by
  have h1:By0 (gOf rows) = (Af0 rows).filter fun n=>decide (npF rows n = 0):=by
   rw [(Sa0 rows).1]
   unfold By0 Tb
   rw [List.filter_map,List.map_map]
   rw [show ((fun p:Str × Int × List Str=>p.1) ∘ fun n=>(n,npF rows n,Ey0 rows n)) = id from rfl,List.map_id]
   rfl
  rw [h1]
  refine List.filter_congr fun n hn=>?_
  rw [Bool.eq_iff_iff,decide_eq_true_eq,Pd0 g hn,g.np n hn]
  constructor
  ·intro h
   have:nd n = []:=List.length_eq_zero_iff.mp (by simp_all)
   rw [this]; simp
  ·rintro ⟨_,h⟩
   cases hq:nd n with
   | nil=>rfl
   | cons p r=>have:=h p (by rw [hq]; simp); simp at this
 refine ⟨(By0 (gOf rows)).map (Xs0 rows []),?_,?_,?_⟩
 ·rw [List.map_map]; exact List.map_id' _
 ·rw [Pe0 g.gr.ksN _ (Nat.le_refl _),List.take_length,← hsub]
 ·rw [List.pairwise_map]
  have hval:∀ s ∈ By0 (gOf rows),Hm0 (Xs0 rows [] s) = -1000 + ((Af0 rows).idxOf s:Int):=fun s hs=>by
   obtain ⟨h1,_,h2⟩:=(hrm s).mp hs
   have hnil:nd s = []:=by
    cases h:nd s with
    | nil=>rfl
    | cons p r=>have:=h2 p (by rw [h]; simp); simp at this
   unfold Hm0 Xs0 Ed0
   rw [g.needs s h1,hnil]
   show enc (-1) ((Af0 rows).idxOf s:Int) = _
   unfold enc; rfl
  have hasc:(Af0 rows).Pairwise fun a b=>(Af0 rows).idxOf a < (Af0 rows).idxOf b:=by
   rw [List.pairwise_iff_getElem]
   intro i j hi hj hij
   rw [List.Nodup.idxOf_getElem g.gr.ksN i hi,List.Nodup.idxOf_getElem g.gr.ksN j hj]; exact hij
  have h3:(By0 (gOf rows)).Pairwise fun a b=>(Af0 rows).idxOf a < (Af0 rows).idxOf b:=by
   rw [hsub]; exact List.Pairwise.sublist List.filter_sublist hasc
  refine List.Pairwise.imp_of_mem (fun ha hb hab=>?_) h3
  rw [hval _ ha,hval _ hb]; simp_all
theorem Ue0 (g:RG rows nd kx):∀ t,Inv (Af0 rows) nd (Ey0 rows) (Dn (fun j=>(stN (gOf rows,By0 (gOf rows)) j).2) t) (stN (gOf rows,By0 (gOf rows)) t)
 | 0=>Le0 g
 | t + 1=>by rw [Oq0]; exact (Ue0 g t).next g.gr
theorem Eq1 (g:RG rows nd kx):∀ t,PlanStep rows (Dn (fun j=>(stN (gOf rows,By0 (gOf rows)) j).2) t) (stN (gOf rows,By0 (gOf rows)) t).2
 | 0=>Xo0 g
 | t + 1=>by rw [Oq0]; exact Bx1 g (Ue0 g t)
theorem Hv1 (g:RG rows nd kx) (hasc:∀ n ∈ Af0 rows,Asc n) (hl:∀ n,(Ey0 rows n).length ≤ 100) (v:Inv (Af0 rows) nd (Ey0 rows) D S):Good S where
 mem:=fun k hk=>by rw [v.tb,Lb0]; exact v.rk k hk
 len:=by
  have h0:S.2.Perm ((Af0 rows).filter fun n=>decide (n ∈ S.2)):=(List.perm_ext_iff_of_nodup v.rN (List.Nodup.sublist List.filter_sublist g.gr.ksN)).mpr fun n=>by
   rw [List.mem_filter,decide_eq_true_eq]; exact ⟨fun h=>⟨v.rk n h,h⟩,fun h=>h.2⟩
  have h1:S.2.length ≤ (Af0 rows).length:=by rw [h0.length_eq]; exact List.length_filter_le _ _
  have:=g.sl; exact Nat.le_trans (Nat.le_trans ‹_› ‹_›) (by decide)
 out:=fun i k hk=>by
  have hkm:=List.mem_of_getElem? hk
  rw [v.steps g.gr (S.2.take i) (S.2.drop i) (List.take_append_drop i S.2).symm]
  refine ⟨(k,npD nd (D ++ S.2.take i) S.2 k,Ey0 rows k),List.mem_map.mpr ⟨k,v.rk k hkm,rfl⟩,rfl,?_⟩
  show npD nd (D ++ S.2.take i) S.2 k = -1
  unfold npD
  have hi:i < S.2.length:=(List.getElem?_eq_some_iff.mp hk).1
  have hnt:k ∉ S.2.take i:=fun q=>by
   have hN:=v.rN
   rw [← List.take_append_drop i S.2,List.nodup_append] at hN
   have hd:k ∈ S.2.drop i:=by
    rw [List.drop_eq_getElem_cons hi]
    rw [List.getElem?_eq_getElem hi] at hk
    cases hk; exact .head _
   exact hN.2.2 k q k hd rfl
  rw [if_neg fun q=>(List.mem_append.mp q).elim (v.rd k hkm) hnt,if_pos hkm]
 asc:=fun k hk=>hasc k (v.rk k hk)
 suc:=fun e he=>by
  rw [v.outs_eq] at he ⊢
  obtain ⟨n,hn,hQ257⟩:=List.mem_map.mp he; subst hQ257
  exact ⟨hl n,fun s hs=>by rw [Lb0]; exact g.gr.sucK n s hs⟩
end
noncomputable def inn (y x:Str):Bool:=!(Al0 y x).isEmpty
noncomputable def Bd0 (words:List Str) (x:Str):List Str:=words.filter fun y=>(y != x) && inn y x
theorem Ez0 {α:Type} (l:List α) (d:α):((List.range l.length).map fun j=>l.getD j d) = l:=by
 have:=Mn0 l d id
 rw [List.map_id] at this
 exact this
theorem Lf0 (words:List Str) (hN:words.Nodup):Bb0 words = words.map fun x=>(x,Bd0 words x):=by
 unfold Bb0
 have key:∀ k,k < words.length→((List.range words.length).filter fun j=>(j != k) && !(Al0 (words.getD j Str.empty) (words.getD k Str.empty)).isEmpty).map (fun j=>words.getD j Str.empty) = Bd0 words (words.getD k Str.empty):=by
  intro k hk
  unfold Bd0
  conv=>rhs; rw [← Ez0 words Str.empty]
  rw [List.filter_map,Ez0 words Str.empty]
  congr 1
  refine List.filter_congr fun j hj=>?_
  have hj:=List.mem_range.mp hj
  show _ = ((words.getD j Str.empty != words.getD k Str.empty) && inn (words.getD j Str.empty) (words.getD k Str.empty))
  congr 1
  have e1:words.getD j Str.empty = words[j]:=by simp [List.getD,hj]
  have e2:words.getD k Str.empty = words[k]:=by simp [List.getD,hk]
  rw [e1,e2,Bool.eq_iff_iff,bne_iff_ne,bne_iff_ne]
  exact ⟨fun h q=>h ((List.getElem_inj hN).mp q),fun h q=>h (by subst q; rfl)⟩
 conv=>rhs; rw [← Ez0 words Str.empty]
 rw [List.map_map,Ez0 words Str.empty]
 refine List.map_congr_left fun k hk=>?_
 show (_,_) = (_,_)
 rw [key k (List.mem_range.mp hk)]
theorem Se0 {s:List Str} (h:s.Nodup) (n:Str):(An0 s n).Nodup:=by
 unfold An0
 split
 ·exact h
 ·rename_i hq
  rw [List.nodup_append]
  refine ⟨h,by simp,fun a ha b hb q=>?_⟩
  rw [List.mem_singleton.mp hb] at q
  subst q
  exact hq ((Ex0 _ _).mpr ha)
theorem Is0:∀ (l s:List Str),s.Nodup→(l.foldl An0 s).Nodup∧∀ n,n ∈ l.foldl An0 s ↔ n ∈ s ∨ n ∈ l
 | [],s,h=>⟨h,fun n=>by simp⟩
 | a :: l,s,h=>by
  obtain ⟨h1,h2⟩:=Is0 l (An0 s a) (Se0 h a)
  refine ⟨h1,fun n=>?_⟩
  rw [List.foldl_cons,h2,Cm0,List.mem_cons]
  constructor
  ·rintro ((h | h) | h)
   ·exact .inl h
   ·exact .inr (.inl h)
   ·exact .inr (.inr h)
  ·rintro (h | h | h)
   ·exact .inl (.inl h)
   ·exact .inl (.inr h)
   ·exact .inr h
theorem Sf0:∀ (rows:Bz0) (s:List Str),s.Nodup→(rows.foldl Aw0 s).Nodup∧∀ n,n ∈ rows.foldl Aw0 s ↔ n ∈ s ∨ ∃ r ∈ rows,n ∈ r.1 :: r.2
 | [],s,h=>⟨h,fun n=>by simp⟩
 | r :: rows,s,h=>by
  obtain ⟨h1,h2⟩:=Is0 (r.1 :: r.2) s h
  obtain ⟨h3,h4⟩:=Sf0 rows (Aw0 s r) h1
  refine ⟨h3,fun n=>?_⟩
  have h2:n ∈ Aw0 s r ↔ n ∈ s ∨ n ∈ r.1 :: r.2:=h2 n
  rw [List.foldl_cons,h4,h2]
  constructor
  ·rintro ((h | h) | ⟨q,hq,h⟩)
   ·exact .inl h
   ·exact .inr ⟨r,.head _,h⟩
   ·exact .inr ⟨q,.tail _ hq,h⟩
  ·rintro (h | ⟨q,hq,h⟩)
   ·exact .inl (.inl h)
   ·rcases List.mem_cons.mp hq with rfl | hq
    ·exact .inl (.inr h)
    ·exact .inr ⟨q,hq,h⟩
theorem Vy0 {α:Type} (h:Nat→List α) (i:Nat):∀ n,(∀ k,k < n→k ≠ i→h k = [])→(List.range n).flatMap h = if i < n then h i else []
 | 0,_=>by simp
 | n + 1,hn=>by
  rw [List.range_succ,List.flatMap_append,Vy0 h i n fun k hk=>hn k (by exact Nat.lt_succ_of_lt ‹_›)]
  by_cases q:i = n
  ·subst q
   rw [if_neg (Nat.lt_irrefl _),if_pos (Nat.lt_succ_self _)]; simp
  ·have:=hn n (Nat.lt_succ_self _) (fun e=>q e.symm)
   by_cases q2:i < n
   ·rw [if_pos q2,if_pos (by exact Nat.lt_succ_of_lt ‹_›)]; simp [this]
   ·rw [if_neg q2,if_neg (by lia)]; simp [this]
theorem By1 (words:List Str) (hN:words.Nodup) (f:Str→List Str) (n:Str) (hn:n ∈ words):Ba0 (words.map fun x=>(x,f x)) n = (f n).map fun p=>(p,words.idxOf n):=by
 unfold Ba0
 have hi:=List.idxOf_lt_length_of_mem hn
 rw [Vy0 _ (words.idxOf n) _ fun k hk hne=>?_]
 ·rw [if_pos (by rw [List.length_map]; exact hi),List.getElem?_map,List.getElem?_eq_getElem hi,List.getElem_idxOf]
  show (if (n == n) = true then _ else _) = _
  rw [if_pos (by simp)]
 ·rw [List.length_map] at hk
  rw [List.getElem?_map,List.getElem?_eq_getElem hk]
  show (if (words[k] == n) = true then _ else _) = _
  rw [if_neg]
  intro q
  have q:=eq_of_beq q
  apply hne
  rw [← q,List.Nodup.idxOf_getElem hN k hk]
theorem Fm1 (f:Str→List Str) (n:Str):∀ (words:List Str) (m:Int),words.Nodup→(words.map fun x=>(x,f x)).foldl (fun (m:Int) (r:Str × List Str)=>if n = r.1 then m + (r.2.length:Int) else m) m = if n ∈ words then m + ((f n).length:Int) else m
 | [],m,_=>by simp
 | x :: words,m,h=>by
  rw [List.nodup_cons] at h
  rw [List.map_cons,List.foldl_cons,Fm1 f n words _ h.2]
  by_cases q:n = x
  ·subst q
   rw [if_neg h.1,if_pos rfl,if_pos (.head _)]
  ·rw [if_neg q]
   by_cases q2:n ∈ words
   ·rw [if_pos q2,if_pos (.tail _ q2)]
   ·rw [if_neg q2,if_neg fun h=>(List.mem_cons.mp h).elim q q2]
theorem Bz1 (f:Str→List Str) (hf:∀ x,(f x).Nodup) (n:Str):∀ words:List Str,Ey0 (words.map fun x=>(x,f x)) n = words.filter fun y=>decide (n ∈ f y)
 | []=>rfl
 | x :: words=>by
  have ih:=Bz1 f hf n words
  show Ge0 (x,f x) n ++ Ey0 (words.map fun x=>(x,f x)) n = _
  rw [ih,List.filter_cons]
  have key:∀ l:List Str,l.Nodup→(l.filter fun p=>decide (p = n)).map (fun _=>x) = if n ∈ l then [x] else []:=by
   intro l
   induction l with
   | nil=>intro _; simp
   | cons a l ih =>
    intro h
    rw [List.nodup_cons] at h
    rw [List.filter_cons]
    by_cases q:a = n
    ·subst q
     rw [if_pos (by simp),if_pos (.head _),List.map_cons,ih h.2,if_neg h.1]
    ·rw [if_neg (by simpa using q),ih h.2]
     by_cases q2:n ∈ l
     ·rw [if_pos q2,if_pos (.tail _ q2)]
     ·rw [if_neg q2,if_neg fun h=>(List.mem_cons.mp h).elim (fun e=>q e.symm) q2]
  have:Ge0 (x,f x) n = if n ∈ f x then [x] else []:=key (f x) (hf x)
  rw [this]
  by_cases q:n ∈ f x
  ·rw [if_pos q,if_pos (decide_eq_true q)]; rfl
  ·rw [if_neg q,if_neg (by simpa using q)]; rfl
noncomputable def ndW (words:List Str) (n:Str):List Str:=if n ∈ words then Bd0 words n else []
theorem Lg0 {words:List Str} (hN:words.Nodup) (x:Str):(Bd0 words x).Nodup:=List.Nodup.sublist List.filter_sublist hN
theorem Lh0 {words:List Str}:y ∈ Bd0 words x ↔ y ∈ words∧y ≠ x∧inn y x = true:=by
 unfold Bd0
 rw [List.mem_filter,Bool.and_eq_true,bne_iff_ne]
theorem Ih0 {words:List Str} (hN:words.Nodup):(Af0 (Bb0 words)).Nodup∧∀ n,n ∈ Af0 (Bb0 words) ↔ n ∈ words:=by
 obtain ⟨h1,h2⟩:=Sf0 (Bb0 words) [] List.nodup_nil
 refine ⟨h1,fun n=>?_⟩
 have h2:n ∈ Af0 (Bb0 words) ↔ _:=h2 n
 rw [h2,Lf0 words hN]
 constructor
 ·rintro (h | ⟨r,hr,h⟩)
  ·cases h
  ·obtain ⟨x,hx,hQ258⟩:=List.mem_map.mp hr; subst hQ258
   rcases List.mem_cons.mp h with h | h
   ·have h:n = x:=h
    rw [h]; exact hx
   ·exact (Lh0.mp h).1
 ·intro h
  exact .inr ⟨_,List.mem_map.mpr ⟨n,h,rfl⟩,.head _⟩
theorem Vz0 {words:List Str} (hN:words.Nodup):(Af0 (Bb0 words)).length = words.length:=by
 obtain ⟨h1,h2⟩:=Ih0 hN
 exact ((List.perm_ext_iff_of_nodup h1 hN).mpr h2).length_eq
theorem Ef0 {words:List Str} (hN:words.Nodup) (n:Str):Ey0 (Bb0 words) n = words.filter fun y=>decide (n ∈ Bd0 words y):=by
 rw [Lf0 words hN]; exact Bz1 (Bd0 words) (Lg0 hN) n words
theorem Er1 {words:List Str} (hN:words.Nodup) (hl:words.length ≤ 10):RG (Bb0 words) (ndW words) (fun n=>words.idxOf n):=by
 obtain ⟨s1,s2⟩:=Ih0 hN
 refine ⟨⟨s1,fun x=>?_,fun x s hs=>?_,fun x s=>?_,fun n=>?_⟩,fun n hn=>?_,fun n=>?_,fun x=>?_,fun n hn=>?_,by rw [Vz0 hN]; exact Nat.le_trans ‹_› (by decide)⟩
 ·rw [Ef0 hN]; exact List.Nodup.sublist List.filter_sublist hN
 ·rw [Ef0 hN] at hs; exact (s2 s).mpr (List.mem_filter.mp hs).1
 ·rw [Ef0 hN,List.mem_filter,decide_eq_true_eq]
  unfold ndW
  by_cases q:s ∈ words
  ·rw [if_pos q]; exact ⟨fun h=>h.2,fun h=>⟨q,h⟩⟩
  ·rw [if_neg q]; exact ⟨fun h=>absurd h.1 q,fun h=>(nomatch h)⟩
 ·unfold ndW
  split
  ·exact Lg0 hN n
  ·exact List.nodup_nil
 ·have hw:=(s2 n).mp hn
  rw [Lf0 words hN,By1 words hN (Bd0 words) n hw]
  unfold ndW; rw [if_pos hw]
 ·have:words.idxOf n ≤ words.length:=List.idxOf_le_length
  show words.idxOf n < 1000
  exact Nat.lt_of_le_of_lt (Nat.le_trans ‹_› ‹_›) (by decide)
 ·rw [Ef0 hN]
  refine List.Pairwise.sublist List.filter_sublist ?_
  rw [List.pairwise_iff_getElem]
  intro i j hi hj hij
  show words.idxOf _ < words.idxOf _
  rw [List.Nodup.idxOf_getElem hN i hi,List.Nodup.idxOf_getElem hN j hj]; exact hij
 ·have hw:=(s2 n).mp hn
  unfold npF
  rw [Lf0 words hN,Fm1 (Bd0 words) n words 0 hN,if_pos hw]
  unfold ndW; rw [if_pos hw]; simp +arith
structure WsOk (ws:List Str):Prop where
 nd:ws.Nodup
 al:∀ y ∈ ws,∀ a ∈ y.cps,Dr0 a
theorem Md1:WsOk w0:=by
 refine ⟨by decide +kernel,?_⟩
 have:∀ y ∈ w0,∀ a ∈ y.cps.toList,(a == 97 || a == 98 || a == 32 || a == 39 || a == 35 || a == 10) = true:=by decide +kernel
 intro y hy a ha
 have:=this y hy a (Array.mem_toList_iff.mpr ha)
 unfold Dr0; simp at this; lia
theorem Ca1:∀ y ∈ Lt0,∀ a ∈ y.cps,Dr0 a:=by
 have:∀ y ∈ Lt0,∀ a ∈ y.cps.toList,(a == 97 || a == 98 || a == 32 || a == 39 || a == 35 || a == 10) = true:=by decide +kernel
 intro y hy a ha
 have:=this y hy a (Array.mem_toList_iff.mpr ha)
 unfold Dr0; simp at this; lia
theorem Fn1 (hx:∀ a ∈ x.cps,Dr0 a) (hy:∀ a ∈ y.cps,Dr0 a):∀ a ∈ (x ++ y).cps,Dr0 a:=fun a ha=>by
 have ha:a ∈ x.cps ++ y.cps:=ha
 rcases Array.mem_append.mp ha with h | h
 ·exact hx a h
 ·exact hy a h
theorem Hw1 {ws:List Str} (h:WsOk ws) (hp:0 < ws.length) (n:Int):WsOk (Et0 ws n):=by
 unfold Et0
 split
 ·exact h
 ·rename_i hq
  obtain ⟨b,hb,_,eb⟩:=Kk0 ws n hp
  obtain ⟨p,hp',_,ep⟩:=Kl0 n
  refine ⟨?_,fun y hy=>?_⟩
  ·rw [List.nodup_append]
   refine ⟨h.nd,by simp,fun a ha c hc q=>?_⟩
   rw [List.mem_singleton.mp hc] at q
   subst q
   exact hq ((Ex0 _ _).mpr ha)
  ·rcases List.mem_append.mp hy with q | q
   ·exact h.al y q
   ·rw [List.mem_singleton.mp q]
    unfold Lu0
    rw [eb,ep]
    dsimp only
    split
    ·exact Fn1 (h.al b hb) (Ca1 p hp')
    ·exact Fn1 (Ca1 p hp') (h.al b hb)
theorem Cb1:∀ (l:List Int) (i:Nat) (ws:List Str),WOk i ws→WsOk ws→WsOk (l.foldl Et0 ws)
 | [],_,_,_,h=>h
 | n :: l,i,ws,hw,h=>Cb1 l (i + 1) _ (hw.step n) (Hw1 h hw.pos n)
theorem Es1 (script:List Int):WsOk (Gl0 script)∧(Gl0 script).length ≤ 8∧∀ x ∈ Gl0 script,WordOk x:=by
 have h1:=Cb1 (script.take 4) 0 w0 .zero Md1
 have h2:=WOk.fold (script.take 4) 0 w0 .zero
 have h3:(script.take 4).length ≤ 4:=by rw [List.length_take]; exact Nat.min_le_left _ _
 have h4:=h2.len
 have h5:Gl0 script = (script.take 4).foldl Et0 w0:=rfl
 refine ⟨h1,by rw [h5]; lia,fun x hx=>⟨h1.al x hx,?_⟩⟩
 have:=h2.each x hx
 lia
theorem Wa0:∀ l m:List Nat,34 ∉ l→34 ∉ m→Eg0 l = Eg0 m→l = m
 | [],[],_,_,_=>rfl
 | [],d :: m,_,_,h=>by
  have:Eg0 (d :: m) = If0 d ++ Eg0 m:=rfl
  rw [this] at h
  unfold If0 at h
  split at h <;> cases h
 | c :: l,[],_,_,h=>by
  have:Eg0 (c :: l) = If0 c ++ Eg0 l:=rfl
  rw [this] at h
  unfold If0 at h
  split at h <;> cases h
 | c :: l,d :: m,h1,h2,h=>by
  have e1:Eg0 (c :: l) = If0 c ++ Eg0 l:=rfl
  have e2:Eg0 (d :: m) = If0 d ++ Eg0 m:=rfl
  rw [e1,e2] at h
  have ih:=Wa0 l m (fun q=>h1 (.tail _ q)) (fun q=>h2 (.tail _ q))
  by_cases hc:c = 39
  ·by_cases hd:d = 39
   ·subst hc; subst hd
    rw [ih (List.append_cancel_left h)]
   ·exfalso
    unfold If0 at h
    rw [if_pos hc,if_neg hd] at h
    have:(39:Nat) = d:=(List.cons.inj h).1
    exact hd this.symm
  ·by_cases hd:d = 39
   ·exfalso
    unfold If0 at h
    rw [if_neg hc,if_pos hd] at h
    have:c = (39:Nat):=(List.cons.inj h).1
    exact hc this
   ·unfold If0 at h
    rw [if_neg hc,if_neg hd] at h
    obtain ⟨h3,h4⟩:=List.cons.inj h
    rw [h3,ih h4]
theorem Et1 (hx:WordOk x) (hy:WordOk y) (h:Ak0 x = Ak0 y):x = y:=by
 have h:LL (Ak0 x) = LL (Ak0 y):=by rw [h]
 rw [Dn0,Dn0] at h
 refine Fo0 ?_
 unfold Ow0 at h
 cases hbx:Ig0 (LL x) with
 | true =>
  cases hby:Ig0 (LL y) with
  | true=>simpa [hbx,hby] using h
  | false =>
   rw [hbx,hby] at h
   simp only [if_true,Bool.false_eq_true,if_false] at h
   exact absurd (by rw [h]; exact .head _) (Ho0 hbx).2.1
 | false =>
  cases hby:Ig0 (LL y) with
  | true =>
   rw [hbx,hby] at h
   simp only [if_true,Bool.false_eq_true,if_false] at h
   exact absurd (by rw [← h]; exact .head _) (Ho0 hby).2.1
  | false =>
   rw [hbx,hby] at h
   simp only [Bool.false_eq_true,if_false] at h
   have:=List.append_cancel_right (List.cons.inj h).2
   exact Wa0 _ _ (Ox0 hx.al) (Ox0 hy.al) this
theorem Kh1 (hx:WordOk x) (hy:WordOk y) (hne:x ≠ y) (h:inn x y = true):(Ak0 x).length < (Ak0 y).length:=by
 unfold inn at h
 rw [Ky0 x y hx.al hy.al] at h
 have hocc:Pg0 (Ak0 y) (Ak0 x) ≠ []:=fun q=>by rw [q] at h; cases h
 obtain ⟨k,hk⟩:=List.exists_mem_of_ne_nil _ hocc
 obtain ⟨_,h2,h3⟩:=Jd0 (Ud0 x) _ _ k hk
 rw [Nat.sub_zero] at h3
 obtain ⟨t,ht⟩:=List.isPrefixOf_iff_prefix.mp h3
 have hl:=congrArg List.length ht
 rw [List.length_append,List.length_drop] at hl
 have l1:(LL (Ak0 x)).length = (Ak0 x).length:=rfl
 have l2:(LL (Ak0 y)).length = (Ak0 y).length:=rfl
 by_cases q:(Ak0 x).length = (Ak0 y).length
 ·exfalso
  have hk0:k = 0:=by grind
  have ht0:t = []:=List.length_eq_zero_iff.mp (by grind)
  rw [hk0,ht0,List.append_nil,List.drop_zero] at ht
  exact hne (Et1 hx hy (Fo0 ht))
 ·grind
theorem Wb0:∀ n S,(Ts0 n S).length ≤ n
 | 0,_=>Nat.le_refl _
 | n + 1,S=>by
  have:=Wb0 n (nxt S)
  show (S.2 :: if S.2 = [] then [] else Ts0 n (nxt S)).length ≤ _
  rw [List.length_cons]
  split
  ·simp
  ·exact Nat.lt_succ_of_le ‹_›
theorem Wc0 {P:List Str→Prop}:∀ n S,(∀ j,P (stN S j).2)→∀ g ∈ Ts0 n S,P g
 | 0,_,_,g,hg=>by cases hg
 | n + 1,S,h,g,hg=>by
  have hg:g ∈ S.2 :: if S.2 = [] then [] else Ts0 n (nxt S):=hg
  rcases List.mem_cons.mp hg with rfl | hg
  ·exact h 0
  ·split at hg
   ·cases hg
   ·exact Wc0 n (nxt S) (fun j=>by rw [Fl0]; exact h (j + 1)) g hg
set_option tactic.hygienic true in
theorem Hx1 (w:World) (script:List Int) (hn:script.length ≤ 63):Kn1 w 10 268 [.list (script.map .int)] (.bool true):=by
 obtain ⟨wo,hwl,hwk⟩:=Es1 script
 have hN:=wo.nd
 have hW:=Dp1 w script (by exact Nat.le_trans ‹_› (by decide))
 generalize Gl0 script = words at *
 have g:=Er1 hN (by exact Nat.le_trans ‹_› (by decide))
 obtain ⟨s1,s2⟩:=Ih0 hN
 have hsl:=Vz0 hN
 have hre:=Lf0 words hN
 have hrlen:(Bb0 words).length = words.length:=by rw [hre,List.length_map]
 have hpl:∀ x,(Bd0 words x).length ≤ 8:=fun x=>Nat.le_trans (List.length_filter_le _ _) hwl
 have hr2:∀ r ∈ Bb0 words,r.2.length ≤ 8:=fun r hr=>by
  rw [hre] at hr
  obtain ⟨x,hx,hQ259⟩:=List.mem_map.mp hr; subst hQ259
  exact hpl x
 have hrm:∀ r ∈ Bb0 words,∀ y ∈ r.1 :: r.2,y ∈ words:=fun r hr y hy=>by
  rw [hre] at hr
  obtain ⟨x,hx,hQ260⟩:=List.mem_map.mp hr; subst hQ260
  rcases List.mem_cons.mp hy with h | h
  ·have h:y = x:=h
   rw [h]; exact hx
  ·exact (Lh0.mp h).1
 have hsuc:∀ n,(Ey0 (Bb0 words) n).length ≤ 8:=fun n=>by
  rw [Ef0 hN]; exact Nat.le_trans (List.length_filter_le _ _) hwl
 have hascS:∀ n ∈ Af0 (Bb0 words),Asc n:=fun n h=>(hwk n ((s2 n).mp h)).asc
 let S0:Ab × List Str:=(gOf (Bb0 words),By0 (gOf (Bb0 words)))
 have hRo:=Ab1 w (Bb0 words) words.length (by exact Nat.le_trans ‹_› (by decide)) (by lia) (fun S=>∃ D,Inv (Af0 (Bb0 words)) (ndW words) (Ey0 (Bb0 words)) D S) ⟨[],Le0 g⟩
  (fun S hh1=>by obtain ⟨D,v⟩:=hh1; exact ⟨Hv1 g hascS (fun n=>by have:=hsuc n; exact Nat.le_trans ‹_› (by decide)) v,_,v.next g.gr⟩) (fun x=>(Ak0 x).length)
  (fun e he=>by
   rw [(Sa0 (Bb0 words)).1] at he ⊢
   obtain ⟨n,hn',hQ261⟩:=List.mem_map.mp he; subst hQ261
   refine ⟨fun k hk=>?_,by have:=hsuc n; show (Ey0 (Bb0 words) n).length ≤ 100; exact Nat.le_trans ‹_› (by decide)⟩
   have hk:k ∈ Ey0 (Bb0 words) n:=hk
   rw [Lb0]
   rw [Ef0 hN,List.mem_filter,decide_eq_true_eq] at hk
   obtain ⟨h1,h2,h3⟩:=Lh0.mp hk.2
   exact ⟨Kh1 (hwk n h1) (hwk k hk.1) h2 h3,(s2 k).mpr hk.1⟩)
  (by rw [(Sa0 (Bb0 words)).1,Bs1]; lia)
  (Bt1 (Bb0 words) (by lia) (by lia) fun r hr=>by have:=hr2 r hr; exact Nat.le_trans ‹_› (by decide))
 have hPl:=Hh1 w (Bb0 words) (fun j=>(stN S0 j).2) (by lia) (fun r hr=>by have:=hr2 r hr; exact Nat.le_trans ‹_› (by decide)) (by lia)
  (fun name=>by
   have key:∀ n,((List.range n).flatMap fun k=>match (Bb0 words)[k]? with | some r=>if r.1 == name then r.2.map fun n=>(n,k) else [] | none=>([]:List (Str × Nat))).length ≤ n * 8:=by
    intro n
    induction n with
    | zero=>simp
    | succ n ih =>
     rw [List.range_succ,List.flatMap_append,List.length_append,Nat.succ_mul]
     refine Nat.add_le_add ih ?_
     rw [List.flatMap_cons,List.flatMap_nil,List.append_nil]
     split
     ·rename_i r hr
      split
      ·rw [List.length_map]; exact hr2 r (List.mem_of_getElem? hr)
      ·simp
     ·simp
   have:=key (Bb0 words).length
   show (List.flatMap _ _).length ≤ 900
   refine Nat.le_trans this ?_
   rw [hrlen]; lia)
  (fun r hr y hy=>(hwk y (hrm r hr y hy)).asc) (fun t _ _=>Eq1 g t)
 rw [hsl,← Ap1] at hPl
 refine Jv1 w script words (Ts0 (words.length + 1) S0) Vu0 (fun p hp q hq=>Em1 (hwk p hp) (hwk q hq)) (by exact Nat.le_trans ‹_› (by decide)) (by exact Nat.le_trans ‹_› (by decide)) hW (fun x hx=>El1 w (hwk x hx)) (fun x hx=>Bl1 w (hwk x hx))
  (fun p hp q hq=>En1 w (hwk p hp) (hwk q hq)) (Kc1 w (by exact Nat.le_trans ‹_› (by decide)) hwk) (Bn1 w (by exact Nat.le_trans ‹_› (by decide)) hwk) hRo hPl ?_ ?_ (fun x hx=>(hwk x hx).text) fun x hx=>Kb1 (hwk x hx)
 ·have:=Wb0 (words.length + 1) S0; lia
 ·exact Wc0 (P:=fun g=>∀ y ∈ g,Asc y) _ _ fun j y hy=>hascS y ((Ue0 g j).rk y hy)
theorem holds_all:PySem.Challenge.rw_ny0267_01.Holds:=Hk1 Hx1
end Mine
theorem PySem.Challenge.cw_ny0267_01_holds : PySem.Challenge.rw_ny0267_01.Holds := by
  exact Mine.holds_all
