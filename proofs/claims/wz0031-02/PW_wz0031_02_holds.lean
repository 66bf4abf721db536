import PyProof.Rows.All
import Wide.All
import OpenK.AllK
import Wide.FinOn
import Lean
import PySem.Challenge.RW_wz0031_02
set_option Elab.async false
set_option maxRecDepth 100000
set_option linter.all false
set_option exponentiation.threshold 600
set_option genSizeOf false
set_option genInjectivity false
set_option bootstrap.genMatcherCode false
set_option compiler.extract_closed false
set_option tactic.hygienic false
namespace Mine
section
open PySem PySem.W PyProof.Rows
section
set_option maxHeartbeats 8000000
theorem two {a b:Prop}(_:a) (h:b):b:=h
noncomputable def P1:Program:=PySem.Challenge.rw_wz0031_02.row.toRowW.prog
noncomputable def JBa:Program:={ P1 with main:={ P1.main with body:=[0,2,3,4,5,6,8,9,10,11,12,13,14,16,18,19,20,21,22,23,24].filterMap fun i=>P1.main.body[i]? } }
noncomputable abbrev kd (P:Params) (x:String) (t:Tok) (v:Value):DictEntry:={ hash:=PyData.keyHash P (Str.ofString x),key:=.str (Str.ofString x) t,val:=v }
noncomputable def H0 (P:Params):Heap:=⟨#[boot_o_0 P,
 { cls:=.type "dict",data:=.dict #[kd P "builtins" 162 (.ref 4),kd P "__main__" 163 (.ref 5),kd P "_sre" 244 (.ref 12)] 3 },
 { cls:=.none,data:=.dict #[kd P "\x69mport.loaded._sre" 183 (.bool true),kd P "class._frozen_importlib.BuiltinImporter" 185 (.ref 14),kd P "watched.\x69mport" 206 (.ref 18),kd P "class._frozen_importlib.ModuleSpec" 216 (.ref 22),kd P "sys.modules.booked-epoch" 245 (.int 3 0),kd P "\x69mport.later-laid._sre" 270 (.bool true),kd P "watched.library" 272 (.ref 27),kd P "watched.library-objects" 0 (.str "\x0c" 0),kd P "watched.library-deep._sre" 273 (.str "\x04\x00\x00\x0b\x04\x00\x00\x0b\x04\x00\x00\x03\x04\x00\x00\x0b\x08\x04dict\x02" 0)] 9 },
 { cls:=.type "dict",data:=.dict #[kd P "__name__" 165 (.str "__main__" 164),kd P "__doc__" 166 .none,kd P "__package__" 167 .none,kd P "__loader__" 168 (.builtin "__main__.__loader__#opaque"),kd P "__spec__" 169 .none,kd P "__annotations__" 170 (.ref 6),kd P "__builtins__" 171 (.ref 4),kd P "__file__" 173 (.str "/claim/cut.py" 172),kd P "__cached__" 174 .none,kd P "_sre" 275 (.ref 12)] 10 },
 boot_o_4 P,
 boot_o_5 P,
 boot_o_6 P,
 boot_o_7 P,
 boot_o_8 P,
 boot_o_9 P,
 boot_o_10 P,
 { cls:=.type "dict",data:=.dict #[kd P "__name__" 247 (.str "_sre" 246),kd P "__doc__" 248 .none,kd P "__package__" 250 (.str "" 249),kd P "__loader__" 251 (.builtin "off-the-table:_sre.__loader__:shared#opaque"),kd P "__spec__" 252 (.builtin "off-the-table:_sre.__spec__:shared#opaque"),kd P "compile" 253 (.builtin "_sre.compile"),kd P "template" 254 (.builtin "off-the-table:_sre.template:shared#opaque"),kd P "getcodesize" 255 (.builtin "off-the-table:_sre.getcodesize:shared#opaque"),kd P "ascii_iscased" 256 (.builtin "off-the-table:_sre.ascii_iscased:shared#opaque"),kd P "unicode_iscased" 257 (.builtin "off-the-table:_sre.unicode_iscased:shared#opaque"),kd P "ascii_tolower" 258 (.builtin "off-the-table:_sre.ascii_tolower:shared#opaque"),kd P "unicode_tolower" 259 (.builtin "off-the-table:_sre.unicode_tolower:shared#opaque"),kd P "MAGIC" 261 (.int 20230612 260),kd P "CODESIZE" 263 (.int 4 262),kd P "MAXREPEAT" 265 (.int 4294967295 264),kd P "MAXGROUPS" 267 (.int 1073741823 266),kd P "copyright" 269 (.str " SRE 2.2.2 Copyright (c) 1997-2002 by Secret Labs AB " 268)] 17 },
 { cls:=.type "module",dict:=some 11 },
 { cls:=.type "dict",data:=.dict #[kd P "__module__" 189 (.str "_frozen_importlib" 186),kd P "__firstlineno__" 190 (.int 971 187),kd P "__doc__" 191 (.builtin "_frozen_importlib.BuiltinImporter.__doc__:str#opaque"),kd P "_ORIGIN" 192 (.str "built-in" 188),kd P "find_spec" 193 (.builtin "_frozen_importlib.BuiltinImporter.find_spec#opaque"),kd P "create_module" 194 (.builtin "_frozen_importlib.BuiltinImporter.create_module#opaque"),kd P "exec_module" 195 (.builtin "_frozen_importlib.BuiltinImporter.exec_module#opaque"),kd P "get_code" 196 (.builtin "_frozen_importlib.BuiltinImporter.get_code#opaque"),kd P "get_source" 197 (.builtin "_frozen_importlib.BuiltinImporter.get_source#opaque"),kd P "is_package" 198 (.builtin "_frozen_importlib.BuiltinImporter.is_package#opaque"),kd P "load_module" 199 (.builtin "_frozen_importlib.BuiltinImporter.load_module#opaque"),kd P "__static_attributes__" 200 (.ref 15),kd P "__dict__" 202 (.ref 16),kd P "__weakref__" 204 (.ref 17)] 14 },
 { cls:=.type "type",data:=.cls { name := "BuiltinImporter",bases:=[.type "object"],mro:=[.ref 14,.type "object"],ns:=13,qualname := "BuiltinImporter" } },
 { cls:=.type "tuple",data:=.seq #[] },
 { cls:=.type "getset_descriptor",data:=.fields #[.str "__dict__" 201,.ref 14,.builtin "function.__dict__",.builtin "function.__dict__#set"] },
 { cls:=.type "getset_descriptor",data:=.fields #[.str "__weakref__" 203,.ref 14,.builtin "ExceptionGroup.__weakref__",.none] },
 { cls:=.none,data:=.seq #[.int 13 0,.str "\x06½\n__module__\x06º\x11_frozen_importlib\x06¾\x0f__firstlineno__\x04»\x00ϋ\x06¿\x07__doc__\t4_frozen_importlib.BuiltinImporter.__doc__:str#opaque\x06À\x07_ORIGIN\x06¼\x08built-in\x06Á\tfind_spec\t2_frozen_importlib.BuiltinImporter.find_spec#opaque\x06Â\x0dcreate_module\t6_frozen_importlib.BuiltinImporter.create_module#opaque\x06Ã\x0bexec_module\t4_frozen_importlib.BuiltinImporter.exec_module#opaque\x06Ä\x08get_code\t1_frozen_importlib.BuiltinImporter.get_code#opaque\x06Å\nget_source\t3_frozen_importlib.BuiltinImporter.get_source#opaque\x06Æ\nis_package\t3_frozen_importlib.BuiltinImporter.is_package#opaque\x06Ç\x0bload_module\t4_frozen_importlib.BuiltinImporter.load_module#opaque\x06È\x15__static_attributes__\x04\x00\x00\x0f\x06Ê\x08__dict__\x04\x00\x00\x10\x06Ì\x0b__weakref__\x04\x00\x00\x11" 0,.bool true,.bool true,.str "" 205,.int 21 0,.str "\x06ã\n__module__\x06Ù\x11_frozen_importlib\x06ä\x0f__firstlineno__\x04Ú\x00Ȳ\x06å\x07__doc__\t/_frozen_importlib.ModuleSpec.__doc__:str#opaque\x06æ\x08__init__\t,_frozen_importlib.ModuleSpec.__init__#opaque\x06ç\x08__repr__\t,_frozen_importlib.ModuleSpec.__repr__#opaque\x06è\x06__eq__\t*_frozen_importlib.ModuleSpec.__eq__#opaque\x06é\x06cached\t*_frozen_importlib.ModuleSpec.cached#opaque\x06ê\x06parent\t*_frozen_importlib.ModuleSpec.parent#opaque\x06ë\x0chas_location\t0_frozen_importlib.ModuleSpec.has_location#opaque\x06ì\x15__static_attributes__\x04\x00\x00\x17\x06î\x08__dict__\x04\x00\x00\x18\x06ð\x0b__weakref__\x04\x00\x00\x19\x06ñ\x08__hash__\x00" 0,.bool true,.bool true,.str "" 242] 1 },
 { cls:=.type "list",data:=.seq #[] },
 { cls:=.type "dict",data:=.dict #[kd P "name" 208 (.str "_sre" 207),kd P "loader" 209 (.ref 14),kd P "origin" 210 (.str "built-in" 184),kd P "loader_state" 211 .none,kd P "submodule_search_locations" 212 .none,kd P "_uninitialized_submodules" 213 (.ref 19),kd P "_set_fileattr" 214 (.bool false),kd P "_cached" 215 .none,kd P "_initializing" 243 (.bool false)] 9 },
 { cls:=.type "dict",data:=.dict #[kd P "__module__" 227 (.str "_frozen_importlib" 217),kd P "__firstlineno__" 228 (.int 562 218),kd P "__doc__" 229 (.builtin "_frozen_importlib.ModuleSpec.__doc__:str#opaque"),kd P "__init__" 230 (.builtin "_frozen_importlib.ModuleSpec.__init__#opaque"),kd P "__repr__" 231 (.builtin "_frozen_importlib.ModuleSpec.__repr__#opaque"),kd P "__eq__" 232 (.builtin "_frozen_importlib.ModuleSpec.__eq__#opaque"),kd P "cached" 233 (.builtin "_frozen_importlib.ModuleSpec.cached#opaque"),kd P "parent" 234 (.builtin "_frozen_importlib.ModuleSpec.parent#opaque"),kd P "has_location" 235 (.builtin "_frozen_importlib.ModuleSpec.has_location#opaque"),kd P "__static_attributes__" 236 (.ref 23),kd P "__dict__" 238 (.ref 24),kd P "__weakref__" 240 (.ref 25),kd P "__hash__" 241 .none] 13 },
 { cls:=.type "type",data:=.cls { name := "ModuleSpec",bases:=[.type "object"],mro:=[.ref 22,.type "object"],ns:=21,qualname := "ModuleSpec" } },
 { cls:=.type "tuple",data:=.seq #[.str "_cached" 219,.str "_set_fileattr" 220,.str "_uninitialized_submodules" 221,.str "loader" 222,.str "loader_state" 223,.str "name" 224,.str "origin" 225,.str "submodule_search_locations" 226] },
 { cls:=.type "getset_descriptor",data:=.fields #[.str "__dict__" 237,.ref 22,.builtin "function.__dict__",.builtin "function.__dict__#set"] },
 { cls:=.type "getset_descriptor",data:=.fields #[.str "__weakref__" 239,.ref 22,.builtin "ExceptionGroup.__weakref__",.none] },
 { cls:=.ref 22,dict:=some 20 },
 { cls:=.none,data:=.seq #[.int 11 0,.str { cps := #[6,247,8,95,95,110,97,109,101,95,95,6,246,4,95,115,114,101,6,248,7,95,95,100,111,99,95,95,0,6,250,11,95,95,112,97,99,107,97,103,101,95,95,6,249,0,6,251,10,95,95,108,111,97,100,101,114,95,95,4,0,0,14,6,252,8,95,95,115,112,101,99,95,95,4,0,0,26,6,253,7,99,111,109,112,105,108,101,9,12,95,115,114,101,46,99,111,109,112,105,108,101,6,254,8,116,101,109,112,108,97,116,101,9,13,95,115,114,101,46,116,101,109,112,108,97,116,101,6,255,11,103,101,116,99,111,100,101,115,105,122,101,9,16,95,115,114,101,46,103,101,116,99,111,100,101,115,105,122,101,6,256,13,97,115,99,105,105,95,105,115,99,97,115,101,100,9,18,95,115,114,101,46,97,115,99,105,105,95,105,115,99,97,115,101,100,6,257,15,117,110,105,99,111,100,101,95,105,115,99,97,115,101,100,9,20,95,115,114,101,46,117,110,105,99,111,100,101,95,105,115,99,97,115,101,100,6,258,13,97,115,99,105,105,95,116,111,108,111,119,101,114,9,18,95,115,114,101,46,97,115,99,105,105,95,116,111,108,111,119,101,114,6,259,15,117,110,105,99,111,100,101,95,116,111,108,111,119,101,114,9,20,95,115,114,101,46,117,110,105,99,111,100,101,95,116,111,108,111,119,101,114,6,261,5,77,65,71,73,67,4,260,0,20230612,6,263,8,67,79,68,69,83,73,90,69,4,262,0,4,6,265,9,77,65,88,82,69,80,69,65,84,4,264,0,4294967295,6,267,9,77,65,88,71,82,79,85,80,83,4,266,0,1073741823,6,269,9,99,111,112,121,114,105,103,104,116,6,268,53,32,83,82,69,32,50,46,50,46,50,32,67,111,112,121,114,105,103,104,116,32,40,99,41,32,49,57,57,55,45,50,48,48,50,32,98,121,32,83,101,99,114,101,116,32,76,97,98,115,32,65,66,32] } 0,.bool true,.bool false,.str "_sre" 271] }],{}⟩
theorem Jiz {p q:Program}{loose:List Str}{Xt:Shared->Bool}{α:Type}{Yf:Shared->α}{Ya:World->α}{N:Nat}{g0:Bool}{HZ:Params->Heap}{gs0:Array GenState}{dZ:Drawn}{k0:Nat}
  (open_:∀ w:World,(fencedOpening treeTable p w N).map (fun s=>(s.heap,s.gens,s.drawn,s.toks))=some (HZ w.params,gs0,dZ,k0))
  (h:∀ w:World,(fun os=>(topFrom treeTable p w N ⟨HZ w.params,gs0,dZ,k0,os⟩).map (fun s=>(openSeen q loose (importedModules p.main.body) Xt g0 s,Yf s)))=fun V=>some (openGood q loose,Ya w)) :
  LeftO p q loose Xt Yf Ya N g0:=fun w=>by
 obtain ⟨⟨hh,gs,d,k,os⟩,e,e'⟩:=Option.map_eq_some_iff.mp (open_ w)
 obtain ⟨rfl,rfl,rfl,rfl⟩:hh=HZ w.params/\gs=gs0/\d=dZ/\k=k0:=by simpa using e'
 unfold openEnds
 rw [e]
 exact congrFun (h w) os
theorem JFy:∀ w:World,(fencedOpening treeTable P1 w 3298).map (fun s=>(s.heap,s.gens,s.drawn,s.toks))=some (H0 w.params, #[],{},276):=fun w=>by kernel_rfl
end
section
set_option maxHeartbeats 0
theorem lwS:PySem.Challenge.rw_wz0031_02.wellSaid=true:=by kernel_rfl
section
local macro_rules | `(tactic| o_law) => `(tactic| refine holds_law Mine.lwS fun said=> ?_)
local macro_rules | `(tactic| o_head (kmHook $K $as $e $ts)) => do
 match ts with
 | `($_ :: $_) =>
  let hw:=Lean.mkIdent `hw
  let hc:=Lean.mkIdent `hc
  `(tactic| refine two (a:=RowW.promised (OpenRow.toRowW PySem.Challenge.rw_wz0031_02.row)) ?$hw ?$hc)
 | _=>Lean.Macro.throwUnsupported
open_top hk for PySem.Challenge.rw_wz0031_02
end
noncomputable abbrev Jzi:Hook:=kmHook hk.heap_1 [2,3,35,36,44,46,47,49,50,51,53,54,56,57,58,60,61,63,64,65,67,68,70,71,72,74,75,77,78,79,81,82,84,85,86,88,89,91,92,93,95,96,98,99,100,102,103,105,106,107,108,109,110,111,114,117,122,123,124,126,127,129,130,131,133,134,136,137,138,139,141,142,144,145,146,147,149,150,152,153,154,156,157,159,160,161,163,164,166,167,168,169,171,172,174,175,176,178,179,181,182,183,184,186,187,189,190,191,192,193,194,195,198,200,201,203,204,205,207,208,210,211,212,214,215,217,218,219,221,222,224,225,226,228,229,231,232,233,235,236,238,239,240,242,243,245,246,247,250,251,252,254,255,257,258,259,261,262,264,265,266,269,270,271,273,274,276,277,278,281,282,283,286,287] (fun V=>by kernel_rfl) [213,220,155,162,260]
end
section
set_option maxHeartbeats 0
theorem JEy:LeftO P1 JBa [Str.ofString "_twin_re_1",Str.ofString "_Accumulator"] (fun s=>xlAt JBa [] s&&recOk (RowW.records PySem.Challenge.rw_wz0031_02.row.toRowW) s) Jzi.obs Jzi.val 3298:=Jiz JFy fun w=>by kernel_rfl
end
end
section
open PySem PySem.Spec PySem.Calls PyProof.Rows PySem.W
section
inductive D where
 | any | adr (a:Addr) | none | bool (b:Bool) | int (i:Int) | str (s:Str) | bytes (b:Array UInt8) | tup (l:List D) | lst (l:List D)
 deriving Inhabited
noncomputable abbrev Jom (vs:List Value) (n:Nat):Obj:={ cls:=.type "tuple",data:=.seq vs.toArray n }
noncomputable abbrev Jb0 (vs:List Value) (n:Nat):Obj:={ cls:=.type "list",data:=.seq vs.toArray n }
mutual
inductive VD (av:List Addr) (h:Heap):Value->D->Prop
 | any (a:Addr):VD av h (.ref a) .any
 | adr (a:Addr):VD av h (.ref a) (.adr a)
 | none:VD av h .none .none
 | bool (b:Bool):VD av h (.bool b) (.bool b)
 | int (i:Int) (t:Tok):VD av h (.int i t) (.int i)
 | str (s:Str) (t:Tok):VD av h (.str s t) (.str s)
 | bytes (b:Array UInt8) (t:Tok):VD av h (.bytes b t) (.bytes b)
 | tup {a:Addr}{vs:List Value}{n:Nat}{ds:List D}:a∉av->h.get? a=some (Jom vs n)->VDs av h vs ds->VD av h (.ref a) (.tup ds)
 | lst {a:Addr}{vs:List Value}{n:Nat}{ds:List D}:a∉av->h.get? a=some (Jb0 vs n)->VDs av h vs ds->VD av h (.ref a) (.lst ds)
inductive VDs (av:List Addr) (h:Heap):List Value->List D->Prop
 | nil:VDs av h [] []
 | cons {v:Value}{vs:List Value}{d:D}{ds:List D}:VD av h v d->VDs av h vs ds->VDs av h (v::vs) (d::ds)
end
noncomputable def Jaq (o:Obj):Prop:=∃ vs n,o=Jom vs n\/o=Jb0 vs n
noncomputable def Ja9 (av:List Addr) (h h':Heap):Prop:=∀ b o,h.get? b=some o->Jaq o->b∉av->h'.get? b=some o
theorem Ja9.of_keeps {av:List Addr}{h h':Heap}(k:∀ b o,h.get? b=some o->h'.get? b=some o):Ja9 av h h':=fun b o e V V=>k b o e
theorem VD.mono {av av':List Addr}{h h':Heap}(k:Ja9 av h h') (ha:∀ b o,h.get? b=some o->Jaq o->b∉av->b∉av') {v:Value}{d:D}(x:VD av h v d):VD av' h' v d :=
 VD.rec (motive_1:=fun v d V=>VD av' h' v d) (motive_2:=fun vs ds V=>VDs av' h' vs ds) .any .adr .none .bool .int .str .bytes
  (fun n e V r=>.tup (ha _ _ e ⟨_,_,.inl rfl⟩ n) (k _ _ e ⟨_,_,.inl rfl⟩ n) r) (fun n e V r=>.lst (ha _ _ e ⟨_,_,.inr rfl⟩ n) (k _ _ e ⟨_,_,.inr rfl⟩ n) r) .nil (fun V V a r=>.cons a r) x
theorem VDs.ind {av:List Addr}{h:Heap}{P:List Value->List D->Prop}(h0:P [] []) (h1:∀ {v vs d ds},VD av h v d->VDs av h vs ds->P vs ds->P (v::vs) (d::ds)) {vs:List Value}{ds:List D}(x:VDs av h vs ds):P vs ds :=
 VDs.rec (motive_1:=fun V V V=>True) (motive_2:=fun vs ds V=>P vs ds) (fun V=>⟨⟩) (fun V=>⟨⟩) ⟨⟩ (fun V=>⟨⟩) (fun V V=>⟨⟩) (fun V V=>⟨⟩) (fun V V=>⟨⟩) (fun V V V V=>⟨⟩) (fun V V V V=>⟨⟩) h0 (fun a r V p=>h1 a r p) x
theorem VDs.mono {av av':List Addr}{h h':Heap}(k:Ja9 av h h') (ha:∀ b o,h.get? b=some o->Jaq o->b∉av->b∉av') {vs:List Value}{ds:List D}(x:VDs av h vs ds):VDs av' h' vs ds :=
 x.ind (P:=VDs av' h') .nil fun a V r=>.cons (a.mono k ha) r
theorem VD.keep {av:List Addr}{h h':Heap}(k:Ja9 av h h') {v:Value}{d:D}(x:VD av h v d):VD av h' v d:=x.mono k fun V V V V n=>n
theorem VDs.keep {av:List Addr}{h h':Heap}(k:Ja9 av h h') {vs:List Value}{ds:List D}(x:VDs av h vs ds):VDs av h' vs ds:=x.mono k fun V V V V n=>n
theorem VDs.avoid {av:List Addr}{h:Heap}{a:Addr}(hn:h.get? a=Option.none) {vs:List Value}{ds:List D}(x:VDs av h vs ds):VDs (a::av) h vs ds :=
 x.mono (fun V V e V V=>e) fun b o e V n hm=>(List.mem_cons.mp hm).elim (fun q=>by subst q; rw [hn] at e; cases e) n
theorem VD.sub {av av':List Addr}{h:Heap}(hs:∀ a∈av',a∈av) {v:Value}{d:D}(x:VD av h v d):VD av' h v d :=
 x.mono (fun V V e V V=>e) fun V V V V n hm=>n (hs _ hm)
theorem VDs.sub {av av':List Addr}{h:Heap}(hs:∀ a∈av',a∈av) {vs:List Value}{ds:List D}(x:VDs av h vs ds):VDs av' h vs ds :=
 x.mono (fun V V e V V=>e) fun V V V V n hm=>n (hs _ hm)
section
variable {av:List Addr}{h:Heap}{v:Value}{d:D}{vs ws:List Value}{ds es:List D}
theorem VDs.length (x:VDs av h vs ds):vs.length=ds.length:=x.ind (P:=fun vs ds=>vs.length=ds.length) rfl fun V V e=>congrArg (· + 1) e
theorem VDs.append (x:VDs av h vs ds) (y:VDs av h ws es):VDs av h (vs++ws) (ds++es):=x.ind (P:=fun vs ds=>VDs av h (vs++ws) (ds++es)) y fun a V r=>.cons a r
theorem VDs.one (x:VD av h v d):VDs av h [v] [d]:=.cons x .nil
theorem VDs.get (x:VDs av h vs ds):∀ (k:Nat) (v:Value),vs[k]?=some v->∃ d,ds[k]?=some d/\VD av h v d :=
 x.ind (P:=fun vs ds=>∀ (k:Nat) (v:Value),vs[k]?=some v->∃ d,ds[k]?=some d/\VD av h v d) (fun V V e=>nomatch e)
  fun a V ih k v e=>k.casesOn (motive:=fun k=>(_::_)[k]?=some v->∃ d,(_::_)[k]?=some d/\VD av h v d) (fun e=>⟨_,rfl,Option.some.inj e▸a⟩) (fun k e=>ih k v e) e
theorem VDs.get' (x:VDs av h vs ds):∀ (k:Nat) (d:D),ds[k]?=some d->∃ v,vs[k]?=some v/\VD av h v d :=
 x.ind (P:=fun vs ds=>∀ (k:Nat) (d:D),ds[k]?=some d->∃ v,vs[k]?=some v/\VD av h v d) (fun V V e=>nomatch e)
  fun a V ih k d e=>k.casesOn (motive:=fun k=>(_::_)[k]?=some d->∃ v,(_::_)[k]?=some v/\VD av h v d) (fun e=>⟨_,rfl,Option.some.inj e▸a⟩) (fun k e=>ih k d e) e
theorem VDs.reverse (x:VDs av h vs ds):VDs av h vs.reverse ds.reverse :=
 x.ind (P:=fun vs ds=>VDs av h vs.reverse ds.reverse) .nil fun a V r=>by rw [List.reverse_cons,List.reverse_cons]; exact r.append (.one a)
theorem VDs.take (x:VDs av h vs ds):∀ k:Nat,VDs av h (vs.take k) (ds.take k) :=
 x.ind (P:=fun vs ds=>∀ k:Nat,VDs av h (vs.take k) (ds.take k)) (fun k=>by rw [List.take_nil,List.take_nil]; exact .nil) fun a V ih k=>k.casesOn (motive:=fun k=>VDs av h (List.take k _) (List.take k _)) .nil fun k=>.cons a (ih k)
end
end
section
theorem Jbe {α:Type}(f:α->Nat) {a b:α}(e:a=b) (h:Nat.beq (f a) (f b)=false):False:=by
 subst e
 exact absurd rfl (Nat.ne_of_beq_eq_false h)
theorem nos {α:Type}{x:Option α}{o:α}(a:x=none) (b:x=some o):False:=nomatch a.symm.trans b
theorem Jav {α:Type}{x:Option α}{o o':α}(a:x=some o) (b:x=some o'):o=o':=Option.some.inj (a.symm.trans b)
noncomputable def tgT (t:String):Nat:=if t == "list" then 1 else if t == "tuple" then 2 else if t == "code" then 3 else 4
noncomputable def tgV:Value->Nat
 | .none=>1 | .bool true=>2 | .bool false=>3 | .int .. => 4 | .str .. => 5 | .bytes .. => 6 | .ref _=>7 | .builtin _=>8 | .type t=>10+tgT t | _=>0
noncomputable def tgB:Data->Nat
 | .seq .. => 1 | .fields .. => 2 | .dict .. => 3 | .cell .. => 4 | .func .. => 5 | _=>6
noncomputable def tgO (o:Obj):Nat:=100*tgB o.data+tgV o.cls
noncomputable def tgP:Option Obj->Nat
 | .none=>0 | .some o=>1+tgO o
noncomputable def tgN {α:Type}:Option α->Nat
 | .none=>0 | .some _=>1
noncomputable def tgS:Bool->Nat
 | false=>0 | true=>1
section
variable {av:List Addr}{h:Heap}{v:Value}{vs:List Value}{c:Addr}{b:Bool}{i:Int}{x:Str}{y:Array UInt8}{l:List D}
theorem VD.i1 (r:VD av h v (.adr c)):v=.ref c:=by cases r; rfl
theorem VD.i2 (r:VD av h v .none):v=.none:=by cases r; rfl
theorem VD.i3 (r:VD av h v (.bool b)):v=.bool b:=by cases r; rfl
theorem VD.i4 (r:VD av h v (.int i)):∃ t,v=.int i t:=by cases r; exact ⟨_,rfl⟩
theorem VD.i5 (r:VD av h v (.str x)):∃ t,v=.str x t:=by cases r; exact ⟨_,rfl⟩
theorem VD.i6 (r:VD av h v (.bytes y)):∃ t,v=.bytes y t:=by cases r; exact ⟨_,rfl⟩
inductive JGx (av:List Addr) (h:Heap) (l:List D):Value->Prop
 | mk {a:Addr}{vs:List Value}{n:Nat}(na:a∉av) (e:h.get? a=some (Jom vs n)) (r:VDs av h vs l):JGx av h l (.ref a)
inductive JGy (av:List Addr) (h:Heap) (l:List D):Value->Prop
 | mk {a:Addr}{vs:List Value}{n:Nat}(na:a∉av) (e:h.get? a=some (Jb0 vs n)) (r:VDs av h vs l):JGy av h l (.ref a)
theorem VD.i7 (r:VD av h v (.tup l)):JGx av h l v:=by cases r with | tup na e r=>exact ⟨na,e,r⟩
theorem VD.i8 (r:VD av h v (.lst l)):JGy av h l v:=by cases r with | lst na e r=>exact ⟨na,e,r⟩
theorem VDs.i0 (r:VDs av h vs []):vs=[]:=by cases r; rfl
inductive JDq (av:List Addr) (h:Heap) (d:D) (l:List D):List Value->Prop
 | mk {v:Value}{vs:List Value}(x:VD av h v d) (r:VDs av h vs l):JDq av h d l (v::vs)
theorem VDs.i1 {d:D}(r:VDs av h vs (d::l)):JDq av h d l vs:=by cases r with | cons x r=>exact ⟨x,r⟩
end
end
section
structure Ja3 where
 tabs:List (Addr×Str)
 gens:List (Nat×GenState)
structure JI8 (T:Ja3) (gs:Array GenState):Prop where
 bare:AllBare gs
 keep:∀ i st,(i,st)∈T.gens->gs[i]?=some st
noncomputable def Jla (h:Heap) (P:Addr) (q:Str):Prop :=
 ∃ ps,h.get? P=some (tabObj ps)/\TriplesOk ps.toList/\∀ pos cv,codeAmong pos ps.toList=some cv->h.CodeRec cv q
structure GK (g:Heap) (T:Ja3) (s:Shared):Prop where
 keep:∀ b o,g.get? b=some o->s.heap.get? b=some o
 tabs:∀ p∈T.tabs,Jla s.heap p.1 p.2
 off:∀ p∈T.tabs,g.get? p.1=Option.none
 bare:JI8 T s.gens
theorem Jla.keeps {h h':Heap}{P:Addr}{q:Str}(x:Jla h P q) (k:∀ b o,h.get? b=some o->h'.get? b=some o):Jla h' P q :=
 let ⟨ps,e,t,c⟩:=x; ⟨ps,k _ _ e,t,fun pos cv hc=>(c pos cv hc).keeps k⟩
noncomputable def Off (T:Ja3) (b:Addr):Prop:=∀ p∈T.tabs,p.1≠b
structure Ext (g:Heap) (T:Ja3) (s s':Shared):Prop where
 dr:s'.drawn=s.drawn
 os:s'.os=s.os
 keep:∀ b o,s.heap.get? b=some o->Off T b->s'.heap.get? b=some o
 gk:GK g T s->GK g T s'
noncomputable abbrev NT (o:Obj):Prop:=∀ ps,o≠tabObj ps
section
variable {g:Heap}{T:Ja3}{s s' s'':Shared}
theorem Ext.refl:Ext g T s s:=⟨rfl,rfl,fun V V e V=>e,id⟩
theorem Ext.trans (x:Ext g T s s') (y:Ext g T s' s''):Ext g T s s'':=⟨y.dr.trans x.dr,y.os.trans x.os,fun b o e n=>y.keep b o (x.keep b o e n) n,fun q=>y.gk (x.gk q)⟩
theorem GK.up (q:GK g T s) (k:∀ b o,s.heap.get? b=some o->s'.heap.get? b=some o) (e:s'.gens=s.gens):GK g T s':=⟨fun b o e=>k b o (q.keep b o e),fun p hp=>(q.tabs p hp).keeps k,q.off,e▸q.bare⟩
theorem Ext.of (h':Heap) (tk:Nat) (k:∀ b o,s.heap.get? b=some o->h'.get? b=some o):Ext g T s { s with heap:=h',toks:=tk }:=⟨rfl,rfl,fun b o e V=>k b o e,fun q=>q.up k rfl⟩
theorem Ext.tok (tk:Nat):Ext g T s { s with toks:=tk }:=.of s.heap tk fun V V e=>e
theorem Ext.push (o:Obj):Ext g T s { s with heap:=s.heap.push o }:=.of (s.heap.push o) s.toks fun V V e=>Heap.get?_push_of_some _ e
theorem GK.away (q:GK g T s) {b:Addr}{o:Obj}(e:s.heap.get? b=some o) (n:NT o):Off T b:=fun p hp h=>by
 obtain ⟨ps,e',_⟩:=q.tabs p hp
 exact n ps (Option.some.inj (e.symm.trans (h▸e')))
theorem Ext.get' (x:Ext g T s s') (q:GK g T s) {b:Addr}{o:Obj}(e:s.heap.get? b=some o) (n:NT o):s'.heap.get? b=some o:=x.keep b o e (q.away e n)
theorem Jdm (vs:List Value) (n:Nat):NT (Jom vs n):=fun V h=>Jbe tgO h rfl
theorem Jai (vs:List Value) (n:Nat):NT (Jb0 vs n):=fun V h=>Jbe tgO h rfl
theorem Jaq.nt {o:Obj}(h:Jaq o):NT o:=let ⟨vs,n,h⟩:=h; h.elim (fun e=>e▸Jdm vs n) fun e=>e▸Jai vs n
theorem Ext.seq (x:Ext g T s s') (q:GK g T s) (av:List Addr):Ja9 av s.heap s'.heap:=fun V V e ho V=>x.get' q e ho.nt
theorem Ext.vd (x:Ext g T s s') (q:GK g T s) {av:List Addr}{v:Value}{d:D}(r:VD av s.heap v d):VD av s'.heap v d:=r.keep (x.seq q av)
theorem Ext.vds (x:Ext g T s s') (q:GK g T s) {av:List Addr}{vs:List Value}{ds:List D}(r:VDs av s.heap vs ds):VDs av s'.heap vs ds:=r.keep (x.seq q av)
theorem Jfl {h h':Heap}{L:Addr}{m:Str->Option Value}(r:h.Ns L m) (k:∀ o,h.get? L=some o->NT o->h'.get? L=some o):h'.Ns L m:=by
 obtain ⟨o,es,ep,e,hd,rest⟩:=r
 exact ⟨o,es,ep,k o e (by rintro ps rfl; cases hd),hd,rest⟩
theorem Jbf {h h':Heap}{c:Addr}{v:Option Value}(r:h.IsCell c v) (k:∀ o,h.get? c=some o->NT o->h'.get? c=some o):h'.IsCell c v:=by
 obtain ⟨o,e,hd⟩:=r
 exact ⟨o,k o e (by rintro ps rfl; cases hd),hd⟩
theorem Ext.ns (x:Ext g T s s') (q:GK g T s) {L:Addr}{m:Str->Option Value}(r:s.heap.Ns L m):s'.heap.Ns L m:=Jfl r fun V e n=>x.get' q e n
theorem Ext.cell (x:Ext g T s s') (q:GK g T s) {c:Addr}{v:Option Value}(r:s.heap.IsCell c v):s'.heap.IsCell c v:=Jbf r fun V e n=>x.get' q e n
end
noncomputable def Jdk (av:List Addr) (h:Heap):Prop:=∀ a∈av,∃ o,h.get? a=some o/\NT o
theorem Jdk.ext {g:Heap}{T:Ja3}{s s':Shared}{av:List Addr}(x:Ext g T s s') (q:GK g T s) (r:Jdk av s.heap):Jdk av s'.heap:=fun a ha=>(r a ha).imp fun V e=>⟨x.get' q e.1 e.2,e.2⟩
structure Rm (n:Nat) (A:Around):Prop where
 depth:A.depth+n<recursionLimit
 units:A.units+100*n<cLine
 hand:A.handled=Option.none
theorem Rm.le {n m:Nat}{A:Around}(r:Rm n A) (h:m<=n):Rm m A:=⟨Nat.lt_of_le_of_lt (Nat.add_le_add_left h _) r.depth,Nat.lt_of_le_of_lt (Nat.add_le_add_left (Nat.mul_le_mul_left _ h) _) r.units,r.hand⟩
theorem Rm.deeper {n:Nat}{A:Around}{env:Env}(r:Rm (n+1) A):Rm n (A.deeper env):=⟨by have:=r.depth; show A.depth+1+n<_; lia,by have:=r.units; show A.units+3+100*n<_; lia,r.hand⟩
theorem Rm.in1 {n:Nat}{A:Around}(r:Rm (n+1) A):Rm n A.in1:=⟨by have:=r.depth; show A.depth+n<_; lia,by have:=r.units; show A.units+1+100*n<_; lia,r.hand⟩
noncomputable def Jay (x:Str):Bool := !(x==("__debug__" : Str)) && !(x==("__classdict__" : Str))
inductive Jat (env:Env) (h:Heap) (x:Str) (v:Value):Prop
 | loc (o:Jay x=true) (k:env.kindOf x=some .local) (m:Str->Option Value) (n:h.Ns env.locals m) (e:m x=some v)
 | cel (o:Jay x=true) (k:env.kindOf x=some .cell\/env.kindOf x=some .free) (c:Addr) (e:env.cells.lookup x=some c) (n:h.IsCell c (some v))
theorem Jat.ok {env:Env}{h:Heap}{x:Str}{v:Value}:Jat env h x v->Jay x=true
 | .loc o .. => o
 | .cel o .. => o
theorem Jat.to {env:Env}{h h':Heap}{x:Str}{v:Value}(l:Jat env h x v) (kn:∀ {m},h.Ns env.locals m->h'.Ns env.locals m) (kc:∀ {c u},env.cells.lookup x=some c->h.IsCell c u->h'.IsCell c u):Jat env h' x v:=by
 cases l with
 | loc o k m n e=>exact .loc o k m (kn n) e
 | cel o k c e n=>exact .cel o k c e (kc e n)
inductive Sl where
 | val (d:D)
 | own (ds:List D)
 deriving Inhabited
noncomputable abbrev Sto:=List (Str×Sl)
inductive JH3 (av:List Addr) (h:Heap) (ds:List D):Value->Prop
 | mk {a:Addr}{vs:List Value}{n:Nat}(m:a∈av) (e:h.get? a=some (Jb0 vs n)) (r:VDs av h vs ds):JH3 av h ds (.ref a)
noncomputable def Jgc (av:List Addr) (h:Heap) (v:Value):Sl->Prop
 | .val d=>VD av h v d
 | .own ds=>JH3 av h ds v
inductive JI1 (av:List Addr) (env:Env) (h:Heap) (x:Str) (sl:Sl):Prop
 | mk (v:Value) (l:Jat env h x v) (r:Jgc av h v sl)
structure EC (av:List Addr) (env:Env) (σ:Sto) (h:Heap):Prop where
 kind:env.scope.kind=.function
 glob:env.globals=mainGlobals
 blt:env.builtins=builtinsNs
 avok:Jdk av h
 vars:∀ x sl,σ.lookup x=some sl->JI1 av env h x sl
 cells:∀ x,env.kindOf x=some .cell\/env.kindOf x=some .free->∃ c,env.cells.lookup x=some c/\∃ v,h.IsCell c v
section
variable {g:Heap}{T:Ja3}{s s':Shared}{av:List Addr}{env:Env}{σ:Sto}{x:Str}{v:Value}{sl:Sl}
theorem Jat.ext (e:Ext g T s s') (q:GK g T s) (r:Jat env s.heap x v):Jat env s'.heap x v:=r.to (e.ns q) fun V=>e.cell q
theorem Jgc.ext (e:Ext g T s s') (q:GK g T s) (r:Jgc av s.heap v sl):Jgc av s'.heap v sl:=by
 cases sl with
 | val d=>exact e.vd q r
 | own ds=>cases r with | mk ha ho hd=>exact ⟨ha,e.get' q ho (Jai _ _),e.vds q hd⟩
theorem EC.ext (c:EC av env σ s.heap) (e:Ext g T s s') (q:GK g T s):EC av env σ s'.heap :=
 ⟨c.kind,c.glob,c.blt,c.avok.ext e q,fun x sl h=>(c.vars x sl h).rec fun v l r=>⟨v,l.ext e q,r.ext e q⟩,fun x h=>(c.cells x h).imp fun V p=>⟨p.1,p.2.imp fun V hv=>e.cell q hv⟩⟩
theorem EC.adr {h:Heap}(c:EC av env σ h) {a:Addr}(e:σ.lookup x=some (.val (.adr a))):Jat env h x (.ref a):=(c.vars x _ e).rec fun V l r=>VD.i1 r▸l
theorem EC.txt {h:Heap}(c:EC av env σ h) {y:Str}(e:σ.lookup x=some (.val (.str y))):∃ t,Jat env h x (.str y t):=(c.vars x _ e).rec fun V l r=>(VD.i5 r).elim fun t e=>⟨t,e▸l⟩
end
section
variable {M:Model}{A:Around}{E:Value->Shared->Prop}{s:Shared}{env:Env}{x:Str}{v:Value}
theorem Jfk (o:Jay x=true):(x==("__debug__" : Str))=false/\(x==("__classdict__" : Str))=false :=
 ⟨(Bool.not_eq_true' _).mp (Bool.and_eq_true_iff.mp o).1,(Bool.not_eq_true' _).mp (Bool.and_eq_true_iff.mp o).2⟩
theorem Jab {pos:Pos}{Q:Value->Shared->Prop}(hk:env.scope.kind=.function) (l:Jat env s.heap x v) (h:Q v s):wpAny M A (eval (.Name x pos) env) Q E s:=by
 refine wpAny_Name ?_ (Jfk l.ok).1
 cases l with
 | loc o k m n hv=>exact wpAny_loadName_local hk k n hv h
 | cel o k c hc hv=>exact k.elim (fun k=>wpAny_loadName_cell hk k hc hv h) fun k=>wpAny_loadName_free hk k hc hv h (Jfk o).2
end
inductive Glb (g:Heap) (x:Str) (v:Value):Prop
 | glob (o:Jay x=true) (m:Str->Option Value) (n:g.Ns mainGlobals m) (e:m x=some v)
 | blt (o:Jay x=true) (m b:Str->Option Value) (n:g.Ns mainGlobals m) (e:m x=Option.none) (n':g.Ns builtinsNs b) (e':b x=some v)
theorem Jbk {M:Model}{A:Around}{E:Value->Shared->Prop}{s:Shared}{env:Env}{x:Str}{v:Value}{g:Heap}{pos:Pos}{Q:Value->Shared->Prop}(hk:env.scope.kind=.function)
  (hg:env.globals=mainGlobals) (hb:env.builtins=builtinsNs) (hx:env.kindOf x=some .globalImplicit) (k:∀ b o,g.get? b=some o->s.heap.get? b=some o) (l:Glb g x v) (h:Q v s) :
  wpAny M A (eval (.Name x pos) env) Q E s:=by
 cases l with
 | glob o m n e=>exact Name_function_global hk hx (loadGlobal_global (env:=env) (hg▸n.keeps k) e h) (Jfk o).1
 | blt o m b n e n' e'=>exact Name_function_global hk hx (loadGlobal_builtin (env:=env) (hg▸n.keeps k) e (hb▸n'.keeps k) e' h) (Jfk o).1
end
section
noncomputable def Out (g:Heap) (T:Ja3) (av:List Addr) (s:Shared) (d:D) (v:Value) (s':Shared):Prop:=Ext g T s s'/\VD av s'.heap v d
noncomputable def NoE (_:Value) (_:Shared):Prop:=False
noncomputable def sm (i:Int):Bool:=decide (i.natAbs<2 ^ 500)
noncomputable def lim:Nat:=1048576
theorem Je8:lim+lim<=sizeLine:=by decide
section
variable {g:Heap}{T:Ja3}{av:List Addr}{s:Shared}
theorem Jao {i:Int}{tk t:Tok}:Out g T av s (.int i) (.int i t) { s with toks:=tk }:=⟨.tok tk,.int i t⟩
theorem Jal {b:Bool}:Out g T av s (.bool b) (.bool b) s:=⟨.refl,.bool b⟩
theorem Jck {x:Str}{tk t:Tok}:Out g T av s (.str x) (.str x t) { s with toks:=tk }:=⟨.tok tk,.str x t⟩
theorem Jfj {x:Array UInt8}{tk t:Tok}:Out g T av s (.bytes x) (.bytes x t) { s with toks:=tk }:=⟨.tok tk,.bytes x t⟩
theorem Jae (s:Shared) (o:Obj):∀ b o',s.heap.get? b=some o'->(s.heap.push o).get? b=some o':=fun V V e=>Heap.get?_push_of_some _ e
theorem Ja8 (h:Heap):h.get? h.objs.size=Option.none:=by
 cases e:h.get? h.objs.size with
 | none=>rfl
 | some o=>exact absurd (Heap.lt_size e) (Nat.lt_irrefl _)
theorem Jmh (a:Jdk av s.heap):s.heap.objs.size∉av:=fun hm=>by
 obtain ⟨o,e,_⟩:=a _ hm
 rw [Ja8] at e; exact (Jbe tgN e rfl).elim
theorem Jhh {vs:List Value}{ds:List D}{n:Nat}{tk:Tok}(a:Jdk av s.heap) (r:VDs av s.heap vs ds):Out g T av s (.lst ds) (.ref s.heap.objs.size) { s with heap:=s.heap.push (Jb0 vs n),toks:=tk } :=
 ⟨.of _ tk (Jae s _),.lst (Jmh a) (Heap.get?_push_size _ rfl) (r.keep (.of_keeps (Jae s _)))⟩
theorem Jpl {vs:List Value}{ds:List D}{n:Nat}{tk:Tok}(a:Jdk av s.heap) (r:VDs av s.heap vs ds):Out g T av s (.tup ds) (.ref s.heap.objs.size) { s with heap:=s.heap.push (Jom vs n),toks:=tk } :=
 ⟨.of _ tk (Jae s _),.tup (Jmh a) (Heap.get?_push_size _ rfl) (r.keep (.of_keeps (Jae s _)))⟩
end
theorem Jcf {a:Int}(h:sm a=true):Builtin.Int.intBits a<=500:=by
 unfold Builtin.Int.intBits
 have ha:a.natAbs<2 ^ 500:=of_decide_eq_true h
 by_cases z:a=0
 ·subst z; decide
 ·have:(a==0)=false:=by simpa using z
  rw [this]
  simp only [Bool.false_eq_true,if_false]
  have:a.natAbs≠0:=by lia
  exact (Nat.log2_lt this).mpr ha
theorem JEw {a b:Int}(ha:sm a=true) (hb:sm b=true):IntMulOk a b :=
 IntMulOk.of_bits (Nat.le_trans (Jcf ha) (by decide)) (Nat.le_trans (Jcf hb) (by decide))
theorem Jfn {a b:Int}(hb:sm b=true):¬ (Builtin.divisionGoesByPylong a b)=true:=by
 have h:=Jcf hb
 unfold Builtin.Int.intBits at h
 intro q
 simp only [Builtin.divisionGoesByPylong,Bool.and_eq_true,decide_eq_true_eq] at q
 have q1:=q.1
 by_cases z:b=0
 ·subst z; simp at q1
 ·have e:(b==0)=false:=by simpa using z
  rw [e] at q1 h
  simp only [Bool.false_eq_true,if_false] at q1 h
  omega
theorem Jkk (n:Nat):(-1:Int) ^ n=if n % 2=0 then 1 else -1:=by
 induction n with
 | zero=>rfl
 | succ n ih=>rw [Int.pow_succ,ih]; split <;> split <;> lia
section
variable (prog:Program) (w:World) (g:Heap) (T:Ja3)
noncomputable def Jib (op:Operator) (a b d:D):Prop :=
 ∀ (A:Around) (s:Shared) (av:List Addr) (u v:Value),Jdk av s.heap->VD av s.heap u a->VD av s.heap v b->wpAny (model prog w) A (binaryOp op u v) (Out g T av s d) NoE s
end
section
variable {prog:Program}{w:World}{g:Heap}{T:Ja3}{a b:Int}{d:D}{op:Operator}
theorem Jib.ints (h:∀ (A:Around) (s:Shared) (av:List Addr) (t t':Tok),wpAny (model prog w) A (binaryOp op (.int a t) (.int b t')) (Out g T av s d) NoE s):Jib prog w g T op (.int a) (.int b) d:=fun A s av u v V hu hv=>by
 obtain ⟨t,rfl⟩:=hu.i4
 obtain ⟨t',rfl⟩:=hv.i4
 exact h A s av t t'
theorem Jag:Jib prog w g T .Add (.int a) (.int b) (.int (a+b)):=.ints fun A s av t t'=>add_int Jao
theorem Jap:Jib prog w g T .Sub (.int a) (.int b) (.int (a - b)):=.ints fun A s av t t'=>sub_int Jao
theorem JAk:Jib prog w g T .BitXor (.int a) (.int b) (.int (Builtin.bitXor a b)):=.ints fun A s av t t'=>xor_int Jao
theorem Jbw (ha:sm a=true) (hb:sm b=true):Jib prog w g T .Mult (.int a) (.int b) (.int (a*b)):=.ints fun A s av t t'=>mul_int Jao (JEw ha hb)
theorem Jct (h:b≠0):Jib prog w g T .Mod (.int a) (.int b) (.int (a.fmod b)):=.ints fun A s av t t'=>AutoIntOps.mod_1 (by simpa using h) Jao
theorem Jep (h:b≠0) (hb:sm b=true):Jib prog w g T .FloorDiv (.int a) (.int b) (.int (a.fdiv b)):=.ints fun A s av t t'=>AutoIntOps.floordiv_1 (by simpa using h) (Jfn hb) Jao
theorem Jl2 (h0:0<=b) (h1:b<=500) (ha:sm a=true):Jib prog w g T .LShift (.int a) (.int b) (.int (a*2 ^ b.toNat)):=.ints fun A s av t t'=>lshift_int h0 (by have:=Jcf ha; lia) Jao
theorem Jl1 {b:Nat}:Jib prog w g T .RShift (.int a) (.int (b:Int)) (.int (a.fdiv (2 ^ b))):=.ints fun A s av t t'=>rshift_int (Int.natCast_nonneg b) Jao
theorem Jy6 (c:(a==0||a==1)=true):∀ n:Nat,n≠0->a ^ n=a
 | 0,h=>absurd rfl h
 | n+1,_=>by
  rcases (Bool.or_eq_true _ _).mp c with c | c
  ·rw [eq_of_beq c,Int.pow_succ,Int.mul_zero]
  ·rw [eq_of_beq c]; exact Int.one_pow
theorem Jrs (h0:0<=b) (h1:b<=500) (ha:sm a=true):Jib prog w g T .Pow (.int a) (.int b) (.int (a ^ b.toNat)):=.ints fun A s av t t'=>by
 by_cases c1:b=0
 ·subst c1; refine AutoIntOps.pow_0 (Int.le_refl 0) rfl ?_; rw [show a ^ (0:Int).toNat=1 from Int.pow_zero a]; exact Jao
 ·have c1':¬ (b==0)=true:=fun q=>c1 (eq_of_beq q)
  by_cases c2:(a==0||a==1)=true
  ·refine AutoIntOps.pow_1 h0 c1' c2 ?_
   rw [Jy6 c2 _ (by lia)]; exact Jao
  ·by_cases c3:(a == -1)=true
   ·refine AutoIntOps.pow_2 h0 c1' c2 c3 ?_
    rw [eq_of_beq c3,Jkk]
    have:(b % 2==0)=decide (b.toNat % 2=0):=by rw [Bool.eq_iff_iff,beq_iff_eq,decide_eq_true_eq]; lia
    rw [this]
    by_cases q:b.toNat % 2=0
    ·rw [decide_eq_true q,if_pos q]; exact Jao
    ·rw [decide_eq_false q,if_neg q]; exact Jao
   ·refine AutoIntOps.pow_4 h0 c1' c2 c3 ?_ Jao
    have hb:=Jcf ha
    refine fun q=>?_
    have q:=of_decide_eq_true q
    have:((Builtin.Int.intBits a:Nat):Int)*b<=500*500:=Int.mul_le_mul (by lia) h1 h0 (by lia)
    have h27:(bitsLine:Int)=134217728:=by decide
    lia
theorem Ji6 {a b:Str}(ha:a.length<=lim) (hb:b.length<=lim):Jib prog w g T .Add (.str a) (.str b) (.str (a++b)):=fun A s av u v V hu hv=>by
 obtain ⟨t,rfl⟩:=hu.i5
 obtain ⟨t',rfl⟩:=hv.i5
 exact KXadd.add ha hb Je8 fun t' k V=>Jck
theorem Jrt {a b:Array UInt8}(ha:a.size<=lim) (hb:b.size<=lim):Jib prog w g T .Add (.bytes a) (.bytes b) (.bytes (a++b)):=fun A s av u v V hu hv=>by
 obtain ⟨t,rfl⟩:=hu.i6
 obtain ⟨t',rfl⟩:=hv.i6
 refine KBy.add_bytes ?_ fun t' k=>Jfj
 have:=Je8
 have h2:sizeLine=16777216:=by decide
 lia
end
end
end
section
open PySem PySem.Spec PySem.Calls PyProof.Rows PyProof.V PySem.W
section
noncomputable def Dp (k:Nat) (d:D) (p:PyData):Prop:=(∀ (av:List Addr) (h:Heap) (v:Value),VD av h v d->∃ as,Reads h v p as)/\p.canLay0=true/\p.depth<=k
noncomputable def Dps (k:Nat) (ds:List D) (ps:List PyData):Prop:=(∀ (av:List Addr) (h:Heap) (vs:List Value),VDs av h vs ds->∃ as,ReadsAll h vs ps as)/\PyData.canLayAll0 ps=true/\PyData.depthAll ps<=k
section
variable {k:Nat}{i:Int}{x:Str}{d:D}{p:PyData}{ds:List D}{ps:List PyData}
theorem Dp.int:Dp k (.int i) (.int i):=⟨fun V V V r=>r.i4.elim fun t q=>q▸⟨_,Reads.int _ t⟩,rfl,Nat.zero_le _⟩
theorem Dp.str (e:PyData.strOk x=true):Dp k (.str x) (.str x):=⟨fun V V V r=>r.i5.elim fun t q=>q▸⟨_,Reads.str _ t⟩,e,Nat.zero_le _⟩
theorem Dp.tup (r:Dps k ds ps):Dp (k+1) (.tup ds) (.tuple ps):=⟨fun V V V x=>by cases x.i7 with | mk _ e y=>exact (r.1 _ _ _ y).imp fun V q=>reads_tuple_at e rfl rfl q,r.2.1,Nat.succ_le_succ r.2.2⟩
theorem Dp.lst (r:Dps k ds ps):Dp (k+1) (.lst ds) (.list ps):=⟨fun V V V x=>by cases x.i8 with | mk _ e y=>exact (r.1 _ _ _ y).elim fun V q=>⟨_,reads_list_at e rfl rfl q⟩,r.2.1,Nat.succ_le_succ r.2.2⟩
theorem Dps.nil:Dps k [] []:=⟨fun V V V x=>x.i0.symm▸⟨_,ReadsAll.nil⟩,rfl,Nat.zero_le _⟩
theorem Dps.cons (a:Dp k d p) (r:Dps k ds ps):Dps k (d::ds) (p::ps):=⟨fun V V V z=>by cases z.i1 with | mk x y=>exact (a.1 _ _ _ x).elim fun V p=>(r.1 _ _ _ y).elim fun V q=>⟨_,ReadsAll.cons p q⟩,Bool.and_eq_true_iff.mpr ⟨a.2.1,r.2.1⟩,Nat.max_le.mpr ⟨a.2.2,r.2.2⟩⟩
theorem Dp.reads {av:List Addr}{h:Heap}{v:Value}(a:Dp k d p) (x:VD av h v d):∃ as,Reads h v p as:=a.1 _ _ _ x
theorem Dp.lay (a:Dp k d p):p.canLay0=true/\p.depth<=k:=a.2
theorem Dps.lay (a:Dps k ds ps):PyData.canLayAll0 ps=true/\PyData.depthAll ps<=k:=a.2
theorem Dps.map {α:Type}{f:α->D}{p:α->PyData}{l:List α}(h:∀ x∈l,Dp k (f x) (p x)):Dps k (l.map f) (l.map p):=by
 induction l with
 | nil=>exact .nil
 | cons a l ih=>exact .cons (h _ (.head _)) (ih fun y m=>h y (.tail _ m))
theorem Dp.shaped (h:Dp k d p) (hk:k<=64):SeqAt.shaped p=true:=Bool.and_eq_true_iff.mpr ⟨h.lay.1,decide_eq_true (Nat.le_trans h.lay.2 hk)⟩
end
section
variable (prog:Program) (w:World) (g:Heap) (T:Ja3)
noncomputable def Jg5 (op:CmpOp) (a b:D) (c:Bool):Prop :=
 ∀ (A:Around) (s:Shared) (av:List Addr) (u v:Value),Rm 1 A->VD av s.heap u a->VD av s.heap v b->wpAny (model prog w) A (compareOp op u v) (Out g T av s (.bool c)) NoE s
end
section
variable {prog:Program}{w:World}{g:Heap}{T:Ja3}{op:CmpOp}{a b:Int}{x y:Str}{l:List D}{d e:D}{p q:PyData}{ps:List PyData}{c:Bool}
theorem Jg5.ints (h:∀ (A:Around) (s:Shared) (av:List Addr) (t t':Tok),wpAny (model prog w) A (compareOp op (.int a t) (.int b t')) (Out g T av s (.bool c)) NoE s):Jg5 prog w g T op (.int a) (.int b) c:=fun A s av u v V hu hv=>by
 obtain ⟨t,rfl⟩:=hu.i4
 obtain ⟨t',rfl⟩:=hv.i4
 exact h A s av t t'
theorem Jcd:Jg5 prog w g T .Eq (.int a) (.int b) (a==b):=.ints fun V V V V V=>eq_int Jal
theorem Jww:Jg5 prog w g T .NotEq (.int a) (.int b) (a != b):=.ints fun V V V V V=>ne_int Jal
theorem Jgu:Jg5 prog w g T .Lt (.int a) (.int b) (decide (a<b)):=.ints fun V V V V V=>lt_int Jal
theorem Jwx:Jg5 prog w g T .LtE (.int a) (.int b) (decide (a<=b)):=.ints fun V V V V V=>le_int Jal
theorem Jwy:Jg5 prog w g T .Gt (.int a) (.int b) (decide (a>b)):=.ints fun V V V V V=>gt_int Jal
theorem JA7:Jg5 prog w g T .Eq (.str x) (.str y) (x==y):=fun A s av u v V hu hv=>by
 obtain ⟨t,rfl⟩:=hu.i5
 obtain ⟨t',rfl⟩:=hv.i5
 exact eq_str Jal
theorem Jrc:Jg5 prog w g T .NotEq (.str x) (.str y) (x != y):=fun A s av u v V hu hv=>by
 obtain ⟨t,rfl⟩:=hu.i5
 obtain ⟨t',rfl⟩:=hv.i5
 exact ne_str Jal
theorem JA5:Jg5 prog w g T .Is .none .none true:=fun A s av u v V hu hv=>by
 rw [hu.i2,hv.i2]; exact wpAny_is_self rfl Jal
theorem JBe {A:Around}(hr:Rm 1 A):A.units+64<cLine:=Nat.lt_of_le_of_lt (Nat.add_le_add_left (by decide) _) hr.units
theorem Jrd (hd:Dp 9 d p) (he:Dp 9 e q):Jg5 prog w g T .Eq d e (p.eqv q):=fun A s av u v hr hu hv=>
 (hd.reads hu).elim fun V ra=>(he.reads hv).elim fun V rb=>eq_dataH ra rb (hd.shaped (by decide)) (he.shaped (by decide)) (JBe hr) Jal
theorem JA4 (hd:Dp 9 d p) (he:Dp 9 e q):Jg5 prog w g T .NotEq d e (!p.eqv q):=fun A s av u v hr hu hv=>
 (hd.reads hu).elim fun V ra=>(he.reads hv).elim fun V rb=>ne_dataH ra rb (hd.shaped (by decide)) (he.shaped (by decide)) (JBe hr) Jal
theorem Jkt {A:Around}(hr:Rm 1 A) (hl:Dps 9 l ps):A.units+1+min (PyData.depthAll ps) p.depth<cLine:=by
 refine Nat.lt_of_le_of_lt ?_ hr.units
 rw [Nat.add_assoc]
 exact Nat.add_le_add_left (Nat.le_trans (Nat.add_le_add_left (Nat.le_trans (Nat.min_le_left _ _) hl.lay.2) 1) (by decide)) _
theorem JD7 (hd:Dp 9 d p) (hl:Dps 9 l ps):Jg5 prog w g T .In d (.lst l) (ps.any fun y=>y.eqv p):=fun A s av u v hr hu hv=>
 (hd.reads hu).elim fun V ra=>((Dp.lst hl).reads hv).elim fun V rb=>SeqAt.in_list_reads rb ra hl.lay.1 hd.lay.1 (Jkt hr hl) Jal
theorem JA3 (hd:Dp 9 d p) (hl:Dps 9 l ps):Jg5 prog w g T .NotIn d (.lst l) (!ps.any fun y=>y.eqv p):=fun A s av u v hr hu hv=>
 (hd.reads hu).elim fun V ra=>((Dp.lst hl).reads hv).elim fun V rb=>SeqAt.notIn_list_reads rb ra hl.lay.1 hd.lay.1 (Jkt hr hl) Jal
end
end
section
section
variable (prog:Program) (w:World) (g:Heap) (T:Ja3)
noncomputable def Ev (n:Nat) (sc:Scope) (σ:Sto) (e:Expr) (d:D):Prop :=
 ∀ (A:Around) (s:Shared) (av:List Addr) (env:Env),env.scope=sc->Rm n A->GK g T s->EC av env σ s.heap->wpAny (model prog w) A (eval e env) (Out g T av s d) NoE s
noncomputable def EvT (n:Nat) (sc:Scope) (σ:Sto) (e:Expr) (b:Bool):Prop :=
 ∀ (A:Around) (s:Shared) (av:List Addr) (env:Env),env.scope=sc->Rm n A->GK g T s->EC av env σ s.heap->wpAny (model prog w) A (isTrue e env (eval e env)) (fun c s'=>c=b/\Ext g T s s') NoE s
noncomputable def Ji9:List Expr->Prop
 | []=>True
 | e::es=>(∀ env,starEach (e::es) env=(false,eval e env)::starEach es env)/\Ji9 es
structure EvL (n:Nat) (sc:Scope) (σ:Sto) (es:List Expr) (ds:List D):Prop where
 plain:Ji9 es
 run:∀ (A:Around) (s:Shared) (av:List Addr) (env:Env) (pos:Pos),env.scope=sc->Rm n A->GK g T s->EC av env σ s.heap->wpAny (model prog w) A (spliced (backTo pos (starEach es env))) (fun vs s'=>Ext g T s s'/\VDs av s'.heap vs ds) NoE s
inductive Jf7:Value->Prop
 | bi (id:String):Jf7 (.builtin id)
 | ty (t:String):Jf7 (.type t)
 | fn {a:Addr}{o:Obj}{fd:FuncData}(e:g.get? a=some o) (h:o.data=.func fd):Jf7 (.ref a)
inductive ClV (n:Nat) (x:Str) (ds:List D) (d:D):Prop
 | mk (fv:Value) (hg:Glb g x fv) (c:Jf7 g fv)
  (run:∀ (A:Around) (s:Shared) (av:List Addr) (vs:List Value),Rm n A->GK g T s->Jdk av s.heap->VDs av s.heap vs ds->wpAny (model prog w) A (call fv vs) (Out g T av s d) NoE s)
end
section
variable {prog:Program}{w:World}{g:Heap}{T:Ja3}{n:Nat}{sc:Scope}{σ:Sto}{av:List Addr}{s s' s'':Shared}
theorem Out.trans {d:D}{v:Value}(x:Ext g T s s') (y:Out g T av s' d v s''):Out g T av s d v s'':=⟨x.trans y.1,y.2⟩
theorem Ja0 {α:Type}{A:Around}{t:Sem α}{Q Q':α->Shared->Prop}(h:wpAny (model prog w) A t Q NoE s) (k:∀ a s',Q a s'->Q' a s'):wpAny (model prog w) A t Q' NoE s:=wpAny_mono h k fun V V x=>x
theorem Ev.int {i:Int}{k:Nat}{pos:Pos}:Ev prog w g T n sc σ (.Constant (.int i) k pos) (.int i):=fun V V V V V V V V=>wpAny_Constant_int Jao
theorem Ev.str {x:Str}{k:Nat}{pos:Pos}:Ev prog w g T n sc σ (.Constant (.str x) k pos) (.str x):=fun V V V V V V V V=>wpAny_Constant_str Jck
theorem Ev.bool {b:Bool}{k:Nat}{pos:Pos}:Ev prog w g T n sc σ (.Constant (.bool b) k pos) (.bool b):=fun V V V V V V V V=>wpAny_Constant_bool Jal
theorem Ev.none {k:Nat}{pos:Pos}:Ev prog w g T n sc σ (.Constant .none k pos) .none:=fun V V V V V V V V=>wpAny_Constant_none ⟨.refl,.none⟩
theorem Ev.name {x:Str}{pos:Pos}{d:D}(h:σ.lookup x=some (.val d)):Ev prog w g T n sc σ (.Name x pos) d:=fun A s av env he hr hg hc=>by
 cases hc.vars x _ h with | mk v l r=>exact Jab hc.kind l ⟨.refl,r⟩
theorem Ev.globInt {x:Str}{pos:Pos}{i:Int}{t:Tok}(hx:sc.names.lookup x=some .globalImplicit) (h:Glb g x (.int i t)):Ev prog w g T n sc σ (.Name x pos) (.int i):=fun A s av env he hr hg hc=>
 Jbk hc.kind hc.glob hc.blt (by show env.scope.names.lookup x=_; rw [he]; exact hx) hg.keep h ⟨.refl,.int i t⟩
section
variable {A:Around}{env:Env}{l r e:Expr}{op:Operator}{cop:CmpOp}{pos:Pos}{a b d:D}{c:Bool}{i:Int}{es:List Expr}{ds:List D}
theorem Ev.two {Q:Value->Value->Shared->Prop}(hl:Ev prog w g T n sc σ l a) (hr:Ev prog w g T n sc σ r b) (he:env.scope=sc) (rm:Rm n A) (hg:GK g T s) (hc:EC av env σ s.heap)
  (k:∀ u v s2,Ext g T s s2->Jdk av s2.heap->VD av s2.heap u a->VD av s2.heap v b->Q u v s2):wpAny (model prog w) A (eval l env) (fun u sA=>wpAny (model prog w) A (eval r env) (Q u) NoE sA) NoE s :=
 Ja0 (hl A s av env he rm hg hc) fun u sA h₁=>Ja0 (hr A sA av env he rm (h₁.1.gk hg) (hc.ext h₁.1 hg)) fun v s2 h₂=>k u v s2 (h₁.1.trans h₂.1) ((hc.ext h₁.1 hg).avok.ext h₂.1 (h₁.1.gk hg)) (h₂.1.vd (h₁.1.gk hg) h₁.2) h₂.2
theorem Ev.bin (hl:Ev prog w g T n sc σ l a) (hr:Ev prog w g T n sc σ r b) (e:Jib prog w g T op a b d):Ev prog w g T n sc σ (.BinOp l op r pos) d:=fun A s av env he rm hg hc=>
 wpAny_BinOp (hl.two hr he rm hg hc fun u v s2 x o hu hv=>Ja0 (e A s2 av u v o hu hv) fun V V h=>Out.trans x h)
theorem Ev.neg (h:Ev prog w g T n sc σ e (.int i)):Ev prog w g T n sc σ (.UnaryOp .USub e pos) (.int (-i)):=fun A s av env he rm hg hc=>
 wpAny_UnaryOp (Ja0 (h A s av env he rm hg hc) fun u sA h₁=>by obtain ⟨_,rfl⟩:=VD.i4 h₁.2; exact neg_int (Out.trans h₁.1 Jao))
theorem Ev.inv (h:Ev prog w g T n sc σ e (.int i)):Ev prog w g T n sc σ (.UnaryOp .Invert e pos) (.int (Builtin.bitNot i)):=fun A s av env he rm hg hc=>
 wpAny_UnaryOp (Ja0 (h A s av env he rm hg hc) fun u sA h₁=>by obtain ⟨_,rfl⟩:=VD.i4 h₁.2; exact invert_int (Out.trans h₁.1 Jao))
theorem EvL.nil:EvL prog w g T n sc σ [] []:=⟨⟨⟩,fun A s av env pos he rm hg hc=>wpAny_items_nil ⟨.refl,.nil⟩⟩
theorem EvL.more (hst:∀ env,starEach (e::es) env=(false,eval e env)::starEach es env) (h:Ev prog w g T n sc σ e d) (hs:EvL prog w g T n sc σ es ds):EvL prog w g T n sc σ (e::es) (d::ds):=⟨⟨hst,hs.plain⟩,fun A s av env pos he rm hg hc=>
 wpAny_items_cons (Ja0 (h A s av env he rm hg hc) fun v sA h₁=>Ja0 (hs.run A sA av env pos he rm (h₁.1.gk hg) (hc.ext h₁.1 hg)) fun vs s2 h₂=>⟨h₁.1.trans h₂.1,.cons (h₂.1.vd (h₁.1.gk hg) h₁.2) h₂.2⟩) (hst env)⟩
theorem JB3 {vs:List Value}(r:VDs av s.heap vs ds) (hz:ds.length<=lim):vs.length<=sizeLine:=r.length▸Nat.le_trans hz (by decide)
theorem Ev.list (h:EvL prog w g T n sc σ es ds) (hz:ds.length<=lim):Ev prog w g T n sc σ (.List es pos) (.lst ds):=fun A s av env he rm hg hc=>
 wpAny_List (Ja0 (h.run A s av env pos he rm hg hc) fun vs sA h₁=>⟨JB3 h₁.2 hz,Out.trans h₁.1 (Jhh (n:=0) (tk:=sA.toks) (hc.ext h₁.1 hg).avok h₁.2)⟩)
theorem Ev.tup {k:Nat}(h:EvL prog w g T n sc σ es ds) (hz:ds.length<=lim):Ev prog w g T n sc σ (.Tuple es k pos) (.tup ds):=fun A s av env he rm hg hc=>
 wpAny_Tuple (Ja0 (h.run A s av env pos he rm hg hc) fun vs sA h₁=>⟨JB3 h₁.2 hz,Out.trans h₁.1 (Jpl (n:=0) (tk:=sA.toks) (hc.ext h₁.1 hg).avok h₁.2)⟩)
theorem Ev.cmp (hl:Ev prog w g T (n+1) sc σ l a) (hr:Ev prog w g T (n+1) sc σ r b) (hm:behindInMarks cop r=false) (e:Jg5 prog w g T cop a b c):Ev prog w g T (n+1) sc σ (.Compare l [cop] [r] pos) (.bool c):=fun A s av env he rm hg hc=>
 wpAny_Compare1 (hl.two hr he rm hg hc fun u v s2 x V hu hv=>Ja0 (e A s2 av u v (rm.le (Nat.le_add_left 1 n)) hu hv) fun V V h=>Out.trans x h) hm
theorem EvT.cmp (hl:Ev prog w g T (n+1) sc σ l a) (hr:Ev prog w g T (n+1) sc σ r b) (hm:behindInMarks cop r=false) (e:Jg5 prog w g T cop a b c):EvT prog w g T (n+1) sc σ (.Compare l [cop] [r] pos) c:=fun A s av env he rm hg hc=>
 wpAny_isTrue_Compare1 (hl.two hr he rm hg hc fun u v s2 x V hu hv=>Ja0 (e A s2 av u v (rm.le (Nat.le_add_left 1 n)) hu hv) fun v' s3 h=>VD.i3 h.2▸wpAny_truthy_bool ⟨rfl,x.trans h.1⟩) hm
theorem Ev.ite {t:Expr}{x y:Expr}(ht:EvT prog w g T n sc σ t c) (h:Ev prog w g T n sc σ (if c then x else y) d):Ev prog w g T n sc σ (.IfExp t x y pos) d:=fun A s av env he rm hg hc=>
 wpAny_IfExp (Ja0 (ht A s av env he rm hg hc) fun c' sA h₁=>by
  obtain ⟨rfl,eA⟩:=h₁
  cases c' <;> exact Ja0 (h A sA av env he rm (eA.gk hg) (hc.ext eA hg)) fun v s2 h₂=>Out.trans eA h₂)
theorem EvT.not (h:EvT prog w g T n sc σ e c):EvT prog w g T n sc σ (.UnaryOp .Not e pos) (!c):=fun A s av env he rm hg hc=>
 wpAny_isTrue_Not (Ja0 (h A s av env he rm hg hc) fun c' sA h₁=>⟨congrArg _ h₁.1,h₁.2⟩)
end
end
end
section
noncomputable def Jgk (i:Int):Bool:=decide (-(2 ^ 62)<=i)&&decide (i<2 ^ 62)
noncomputable def Jbl (n:Nat) (lo hi st:Option Int):List Nat:=sliceRange (sliceBounds lo hi st n).1 (sliceBounds lo hi st n).2.1 (sliceBounds lo hi st n).2.2
noncomputable def Jy9 (ds:List D) (lo hi st:Option Int):List D:=(Jbl ds.length lo hi st).filterMap (ds[·]?)
noncomputable def Jfh (x:Str) (lo hi st:Option Int):Str :=
 if (st.getD 1==1&&(Builtin.Str.strSliceIndices lo hi (st.getD 1) x.length).length==x.length)=true then x else ⟨((Builtin.Str.strSliceIndices lo hi (st.getD 1) x.length).filterMap (x.cps[·]?)).toArray⟩
section
variable (prog:Program) (w:World) (g:Heap) (T:Ja3)
noncomputable def JEf (d:D) (b:Bool):Prop:=∀ (A:Around) (s:Shared) (av:List Addr) (v:Value),VD av s.heap v d->wpAny (model prog w) A (truthy v) (fun c s'=>c=b/\Ext g T s s') NoE s
inductive Js9 (s:Shared) (o:Value):Prop
 | mk (T id:String) (hT:s.TypeIs o T) (hl:typeLookup (.type T) "__getitem__" = pure (some (.builtin id)))
structure Jw1 (dd:D) (i:Int) (d:D):Prop where
 ok:∀ (s:Shared) (av:List Addr) (o:Value),VD av s.heap o dd->Js9 s o
 run:∀ (A:Around) (s:Shared) (av:List Addr) (o:Value) (t:Tok),VD av s.heap o dd->wpAny (model prog w) A (getItem o (.int i t)) (Out g T av s d) NoE s
end
section
variable {prog:Program}{w:World}{g:Heap}{T:Ja3}{n:Nat}{sc:Scope}{σ:Sto}{av:List Addr}{s:Shared}{A:Around}{ds:List D}{d dd:D}{b:Bool}{i:Int}{x:Str}{k:Nat}{o:Value}
theorem Jh5:JEf prog w g T (.bool b) b:=fun A s av v hv=>by rw [hv.i3]; exact wpAny_truthy_bool ⟨rfl,.refl⟩
theorem Jh4:JEf prog w g T (.int i) (i != 0):=fun A s av v hv=>by obtain ⟨_,rfl⟩:=hv.i4; exact truthy_int ⟨rfl,.refl⟩
theorem Ju4 {n:Nat}(h:n<=lim):(n:Int)<2 ^ 63:=Int.lt_of_le_of_lt (Int.ofNat_le.mpr h) (by decide)
theorem Jon (h:ds.length<=lim):JEf prog w g T (.lst ds) (!ds.isEmpty):=fun A s av v hv=>by
 cases hv.i8 with | mk _ eo r=>exact wpAny_truthy_list ⟨_,eo,rfl,_,rfl⟩ (by rw [List.size_toArray,r.length]; exact Ju4 h) ⟨by cases r <;> rfl,.tok _⟩
theorem VDs.filterMap {h:Heap}{vs:List Value}{ds:List D}(r:VDs av h vs ds):∀ ks:List Nat,VDs av h (ks.filterMap (vs[·]?)) (ks.filterMap (ds[·]?))
 | []=>.nil
 | k::ks=>by
  rw [List.filterMap_cons,List.filterMap_cons]
  cases e:vs[k]? with
  | none=>rw [List.getElem?_eq_none (r.length▸List.getElem?_eq_none_iff.mp e)]; exact VDs.filterMap r ks
  | some v =>
   obtain ⟨d,ed,hd⟩:=r.get k v e
   rw [ed]; exact .cons hd (VDs.filterMap r ks)
theorem Jln (h:Jgk i=true) : -(2 ^ 63)<=i/\i<2 ^ 63:=by
 have:=Bool.and_eq_true_iff.mp h
 exact ⟨Int.le_trans (by decide) (of_decide_eq_true this.1),Int.lt_trans (of_decide_eq_true this.2) (by decide)⟩
theorem Jqh (ho:VD av s.heap o (.lst ds)):Js9 s o:=by cases ho.i8 with | mk _ eo _=>exact ⟨"list",_,⟨_,eo,rfl⟩,F.slot_list_getitem.lookup⟩
theorem Jqg (ho:VD av s.heap o (.str x)):Js9 s o:=by obtain ⟨_,rfl⟩:=ho.i5; exact ⟨"str",_,typeIs_str _ _ _,F.slot_str_getitem.lookup⟩
theorem Jzl {x:Array UInt8}(ho:VD av s.heap o (.bytes x)):Js9 s o:=by obtain ⟨_,rfl⟩:=ho.i6; exact ⟨"bytes",_,typeIs_bytes _ _ _,FB.slot_bytes_getitem.lookup⟩
theorem JCi (hk:k<2 ^ 62) (hd:ds[k]?=some d):Jw1 prog w g T (.lst ds) (k:Int) d:=⟨fun V V V=>Jqh,fun A s av o t ho=>by
 cases ho.i8 with | mk _ eo r =>
 obtain ⟨v,hv,rv⟩:=r.get' k d hd
 exact wpAny_getItem_list ⟨_,eo,rfl,_,rfl⟩ (Int.natCast_nonneg k) (Int.ofNat_lt.mpr (Nat.lt_trans hk (by decide))) (x:=v) (by simpa using hv) ⟨.refl,rv⟩⟩
theorem Jwj {c:Nat}(hs:Jgk i=true) (hc:(seqIndex? i x.length).bind (x.cps[·]?)=some c):Jw1 prog w g T (.str x) i (.str ⟨#[c]⟩):=⟨fun V V V=>Jqg,fun A s av o t ho=>by
 obtain ⟨_,rfl⟩:=ho.i5
 exact P.getItem_str (by rw [Bool.or_eq_false_iff,decide_eq_false_iff_not,decide_eq_false_iff_not]; exact ⟨Int.not_lt.mpr (Jln hs).1,Int.not_le.mpr (Jln hs).2⟩) hc Jck⟩
noncomputable abbrev JI6 (sl:Expr):Prop:=∀ o i,subscripted sl false o i=operate [o,i] (getItem o i)
theorem Ev.item {ve se:Expr}{pos:Pos}(hv:Ev prog w g T n sc σ ve dd) (hs:Ev prog w g T n sc σ se (.int i)) (hn:JI6 se) (e:Jw1 prog w g T dd i d):Ev prog w g T n sc σ (.Subscript ve se pos) d:=fun A s av env he rm hg hc=>
 Subscript_ (hv.two hs he rm hg hc fun o iv s2 x V ho hi=>by
  obtain ⟨t,rfl⟩:=hi.i4
  cases e.ok s2 av o ho with | mk Ty id hT hl=>exact tail_any hT hl (Ja0 (e.run A s2 av o t ho) fun V V h=>Out.trans x h) (hn _ _))
end
end
section
section
variable (prog:Program) (w:World) (g:Heap) (T:Ja3)
inductive EvP (n:Nat) (sc:Scope) (σ:Sto):Option Expr->Option Int->Prop
 | none':EvP n sc σ none none
 | some' {e:Expr}{i:Int}:Ev prog w g T n sc σ e (.int i)->EvP n sc σ (some e) (some i)
inductive JDv (oi:Option Int) (s:Shared):Value->Shared->Prop
 | mk {s':Shared}(t:Option (Int×Tok)) (e:t.map (·.1)=oi) (x:Ext g T s s'):JDv oi s (partValue t) s'
structure JDt (dd:D) (l u k:Option Int) (d:D):Prop where
 ok:∀ (s:Shared) (av:List Addr) (o:Value),VD av s.heap o dd->Js9 s o
 run:∀ (A:Around) (s:Shared) (av:List Addr) (o:Value) (a:Addr) (p q r:Option (Int×Tok)),Jdk av s.heap->VD av s.heap o dd->s.heap.IsSlice a p q r->p.map (·.1)=l->q.map (·.1)=u->r.map (·.1)=k->wpAny (model prog w) A (getItem o (.ref a)) (Out g T av s d) NoE s
end
section
variable {prog:Program}{w:World}{g:Heap}{T:Ja3}{n:Nat}{sc:Scope}{σ:Sto}{av:List Addr}{s:Shared}{A:Around}{x:Str}{ds:List D}{d dd:D}{l u k:Option Int}
theorem Jh2 {oe:Option Expr}{oi:Option Int}{env:Env}(h:EvP prog w g T n sc σ oe oi) (he:env.scope=sc) (rm:Rm n A) (hg:GK g T s) (hc:EC av env σ s.heap):wpAny (model prog w) A (evalPart oe env) (JDv g T oi s) NoE s:=by
 cases h with
 | none'=>exact wpAny_pure (.mk none rfl .refl)
 | some' h=>exact Ja0 (h A s av env he rm hg hc) fun v sA h₁=>by obtain ⟨t,rfl⟩:=VD.i4 h₁.2; exact .mk (some (_,t)) rfl h₁.1
theorem Jel (t:Option (Int×Tok)):IsPart (partValue t) (t.map (·.1)):=by
 cases t with
 | none=>exact .none
 | some p=>exact .int p.1 p.2
theorem Jin (vs:List Value) (lo hi st:Option Int):slicePick vs.toArray lo hi st=((Jbl vs.length lo hi st).filterMap (vs[·]?)).toArray:=by simp [slicePick,Jbl]
theorem Jp0 (hs:(k==some 0)=false) (h:ds.length<=lim):JDt prog w g T (.lst ds) l u k (.lst (Jy9 ds l u k)):=⟨fun V V V=>Jqh,fun A s av o a p q r hav ho hs' e1 e2 e3=>by
 subst e1 e2 e3
 cases ho.i8 with | mk _ eo x =>
 refine wpAny_getItem_list_slice ⟨_,eo,rfl,_,rfl⟩ hs' (Jel p) (Jel q) (Jel r) (by simpa using hs) ?_ (JB3 x h)
 rw [Jin,x.length]
 exact Jhh (g:=g) (T:=T) (n:=0) (tk:=s.toks) hav (x.filterMap _)⟩
theorem Jtp {y:Str}{t:Tok}{c:Bool}(h:(if c=true then x else y).length<=lim):(if c=true then Made.val (.str x t) else Made.str y).post (Out g T av s (.str (if c=true then x else y))) s:=by
 cases c with
 | true=>exact ⟨.refl,.str x t⟩
 | false=>exact ⟨Nat.le_trans h (by decide),Jck⟩
theorem Jbg (hs:(k==some 0)=false) (h:(Jfh x l u k).length<=lim):JDt prog w g T (.str x) l u k (.str (Jfh x l u k)):=⟨fun V V V=>Jqg,fun A s av o a p q r hav ho hs' e1 e2 e3=>by
 subst e1 e2 e3
 obtain ⟨t,rfl⟩:=ho.i5
 exact wpAny_getItem_str_slice hs' (by cases r with
  | none=>rfl
  | some p=>exact hs) (Jtp h)⟩
theorem Jk4 {b:Array UInt8}(h:(KBy.picked b l u).size<=lim):JDt prog w g T (.bytes b) l u none (.bytes (KBy.picked b l u)):=⟨fun V V V=>Jzl,fun A s av o a p q r hav ho hs' e1 e2 e3=>by
 subst e1 e2
 obtain ⟨t,rfl⟩:=ho.i6
 cases r with
 | none=>exact getItem_meets (typeIs_bytes _ _ _) (by decide) FB.slot_bytes_getitem FB.entry_bytes_getitem (FB.args_bytes_getitem_2 _ _) (KBc.meets_slice2 b t _ (Jel p) (Jel q)) ⟨hs',Nat.le_trans h (by decide),fun t' k=>Jfj⟩
 | some _=>cases e3⟩
theorem Jej (lo hi st:Option Expr) (p:Pos) (o i:Value):∃ ops,subscripted (.Slice lo hi st p) false o i=operate ops (getItem o i):=by cases st <;> exact ⟨_,rfl⟩
theorem Ev.slice {ve:Expr}{lo hi st:Option Expr}{p pos:Pos}(hv:Ev prog w g T n sc σ ve dd) (hl:EvP prog w g T n sc σ lo l) (hu:EvP prog w g T n sc σ hi u) (hk:EvP prog w g T n sc σ st k) (e:JDt prog w g T dd l u k d) :
  Ev prog w g T n sc σ (.Subscript ve (.Slice lo hi st p) pos) d:=fun A s av env he rm hg hc=>by
 refine Subscript_ (Ja0 (hv A s av env he rm hg hc) fun o sA h₁=>wpAny_Slice ?_)
 have gA:=h₁.1.gk hg
 have cA:=hc.ext h₁.1 hg
 refine Ja0 (Jh2 hl he rm gA cA) fun vA s2 h₂=>?_
 cases h₂ with | mk tA eA x =>
 refine Ja0 (Jh2 hu he rm (x.gk gA) (cA.ext x gA)) fun vB s3 h₃=>?_
 cases h₃ with | mk tB eB y =>
 have x:=x.trans y
 refine Ja0 (Jh2 hk he rm (x.gk gA) (cA.ext x gA)) fun v3 s4 h₄=>?_
 cases h₄ with | mk t3 eC y =>
 have x:=(x.trans y).trans (.push { cls:=.type "slice",data:=.fields #[partValue tA,partValue tB,partValue t3] })
 have ho:=x.vd gA h₁.2
 cases e.ok _ _ _ ho with | mk Ty id hT hl' =>
 obtain ⟨ops,hs⟩:=Jej lo hi st p o (.ref s4.heap.objs.size)
 exact tail_any hT hl' (Ja0 (e.run A _ av o _ tA tB t3 (cA.avok.ext x gA) ho ⟨_,Heap.get?_push_size _ rfl,rfl,rfl⟩ eA eB eC) fun v s6 h₆=>Out.trans (h₁.1.trans x) h₆) hs
end
end
section
theorem Ji9.any {env:Env}{pos:Pos}:∀ {es:List Expr},Ji9 es->(backTo pos (starEach es env)).any (·.1)=false
 | [],_=>rfl
 | e::es,h=>by rw [h.1 env]; exact Ji9.any h.2
theorem Ji9.all {env:Env}{pos:Pos}:∀ {es:List Expr},Ji9 es->(backTo pos (starEach es env)).all (fun x=> !x.1)=true
 | [],_=>rfl
 | e::es,h=>by rw [h.1 env]; exact Ji9.all h.2
section
variable (prog:Program) (w:World) (g:Heap) (T:Ja3)
inductive Jw0 (s:Shared) (ov:Value) (ty:String):Prop
 | mk (hT:s.TypeIs ov ty) (hR:∀ a,ov=.ref a->∃ ob,s.heap.get? a=some ob/\ob.dict=none)
inductive MtV (n:Nat) (m:Str) (d0:D) (ds:List D) (d:D):Prop
 | mk (ty id:String) (pa:PlainAttrs ty) (slot:Slot ty m id) (md:typeOf (.builtin id)=pure (.type "method_descriptor")) (recv:∀ (s:Shared) (av:List Addr) (ov:Value),VD av s.heap ov d0->Jw0 s ov ty)
  (run:∀ (A:Around) (s:Shared) (av:List Addr) (ov:Value) (vs:List Value),Rm n A->GK g T s->Jdk av s.heap->VD av s.heap ov d0->VDs av s.heap vs ds->wpAny (model prog w) A (call (.builtin id) (ov::vs)) (Out g T av s d) NoE s)
end
section
variable {prog:Program}{w:World}{g:Heap}{T:Ja3}{n:Nat}{sc:Scope}{σ:Sto}{av:List Addr}{s:Shared}{ov:Value}{e o:Expr}{es:List Expr}{d d0:D}{ds:List D}{m f:Str}{pos p apos:Pos}
theorem Jho {x:Str}(r:VD av s.heap ov (.str x)):Jw0 s ov "str" := by obtain ⟨_,rfl⟩:=r.i5; exact ⟨typeIs_str _ _ _,fun a h=>nomatch h⟩
theorem Jue {i:Int}(r:VD av s.heap ov (.int i)):Jw0 s ov "int" := by obtain ⟨_,rfl⟩:=r.i4; exact ⟨typeIs_int _ _ _,fun a h=>nomatch h⟩
theorem Juf {x:Array UInt8}(r:VD av s.heap ov (.bytes x)):Jw0 s ov "bytes" := by obtain ⟨_,rfl⟩:=r.i6; exact ⟨typeIs_bytes _ _ _,fun a h=>nomatch h⟩
theorem ClV.mono {k:Nat}(h:ClV prog w g T n f ds d) (hk:n<=k):ClV prog w g T k f ds d:=h.rec fun fv hg c run=>.mk fv hg c fun A s av vs rm=>run A s av vs (rm.le hk)
theorem Ev.call (hx:sc.names.lookup f=some .globalImplicit) (ha:EvL prog w g T n sc σ (e::es) ds) (h:ClV prog w g T n f ds d):Ev prog w g T n sc σ (.Call (.Name f p) (e::es) [] pos) d:=fun A s av env he rm hg hc=>by
 cases h with | mk fv hgl c run =>
 refine wpAny_Call_NameR (Jbk hc.kind hc.glob hc.blt (by rw [Env.kindOf,he]; exact hx) hg.keep hgl ?_)
 have go:=Ja0 (ha.run A s av env pos he rm hg hc) (Q':=fun vs sA=>GK g T sA/\wpAny (model prog w) A (PySem.call fv vs) (Out g T av s d) NoE sA) fun vs sA h₁=>⟨h₁.1.gk hg,Ja0 (run A sA av vs rm (h₁.1.gk hg) (hc.ext h₁.1 hg).avok h₁.2) fun v s2 h₂=>Out.trans h₁.1 h₂⟩
 cases c with
 | bi id=>exact callWith_builtin1 (Ja0 go fun vs sA h=>h.2) (ha.plain.1 _) ha.plain.2.any
 | ty t=>exact PyProof.Rows.callWith_type1 (Ja0 go fun vs sA h=>h.2) (ha.plain.1 _) ha.plain.2.any
 | fn ho hdat=>exact callWith_def hdat (Ja0 go fun vs sA h=>⟨h.1.keep _ _ ho,h.2⟩) (ha.plain.1 _)
theorem Ev.meth0 (hb:∀ env,attributeBase o m env (eval o env)=eval o env) (hln:(apos.endLine==pos.line)=true) (ho:Ev prog w g T n sc σ o d0) (h:MtV prog w g T n m d0 [] d):Ev prog w g T n sc σ (.Call (.Attribute o m apos) [] [] pos) d:=fun A s av env he rm hg hc=>by
 cases h with | mk ty id pa slot md recv run =>
 refine wpAny_Call_method_late (hb env) rfl hln rfl (Ja0 (ho A s av env he rm hg hc) fun ov sA h₁=>?_)
 cases recv _ _ _ h₁.2 with | mk hT hR =>
 exact ⟨ty,id,pa,slot,md,hT,hR,callWith_builtin rfl (PySem.evalArgs_none (Ja0 (run A sA av ov [] rm (h₁.1.gk hg) (hc.ext h₁.1 hg).avok h₁.2 .nil) fun v s2 h₂=>Out.trans h₁.1 h₂))⟩
theorem Ev.methG (hb:∀ env,attributeBase o m env (eval o env)=eval o env) (hln:(apos.endLine==pos.line)=true) (hlen:es.length<20) (ho:Ev prog w g T n sc σ o d0) (ha:EvL prog w g T n sc σ (e::es) ds) (h:MtV prog w g T n m d0 ds d) :
  Ev prog w g T n sc σ (.Call (.Attribute o m apos) (e::es) [] pos) d:=fun A s av env he rm hg hc=>by
 cases h with | mk ty id pa slot md recv run =>
 refine wpAny_Call_method_late (hb env) (Bool.and_eq_true_iff.mpr ⟨Bool.and_eq_true_iff.mpr ⟨ha.plain.all,rfl⟩,decide_eq_true (Nat.lt_of_lt_of_le (Nat.succ_lt_succ hlen) (by decide))⟩) hln rfl (Ja0 (ho A s av env he rm hg hc) fun ov sA h₁=>?_)
 cases recv _ _ _ h₁.2 with | mk hT hR =>
 have gA:=h₁.1.gk hg
 have cA:=hc.ext h₁.1 hg
 exact ⟨ty,id,pa,slot,md,hT,hR,callWith_method1 (Ja0 (ha.run A sA av env pos he rm gA cA) fun vs s2 h₂=>Ja0 (run A s2 av ov vs rm (h₂.1.gk gA) (cA.avok.ext h₂.1 gA) (h₂.1.vd gA h₁.2) h₂.2) fun v s3 h₃=>Out.trans (h₁.1.trans h₂.1) h₃) (ha.plain.1 _) ha.plain.2.any⟩
end
end
section
structure Ow where
 l:List (Str×Addr)
 c:List Str
noncomputable def Ow.adr (ow:Ow):List Addr:=ow.l.map (·.2)
noncomputable def Ow.drop (x:Str) (ow:Ow):Ow:=⟨ow.l.filter fun p=> !(p.1==x),ow.c⟩
noncomputable def Ow.add (x:Str) (a:Addr) (ow:Ow):Ow:=⟨(x,a)::(ow.drop x).l,ow.c⟩
noncomputable def Wr (env:Env) (ow:Ow) (b:Addr):Prop:=b=env.locals\/(∃ x∈ow.c,env.kindOf x=some .cell/\env.cells.lookup x=some b)\/b∈ow.adr
structure Mv (g:Heap) (T:Ja3) (W:Addr->Prop) (s s':Shared):Prop where
 dr:s'.drawn=s.drawn
 os:s'.os=s.os
 keep:∀ b o,s.heap.get? b=some o->¬ W b->Off T b->s'.heap.get? b=some o
 gk:GK g T s->GK g T s'
noncomputable def Jdd (o:Obj):Prop:=(∀ vs q t,o.data=.fields vs->vs[1]?≠some (.str q t))/\NT o
section
variable {g:Heap}{T:Ja3}{s s' s'':Shared}{W W':Addr->Prop}{b:Addr}{o:Obj}
theorem Ext.mv (x:Ext g T s s'):Mv g T W s s':=⟨x.dr,x.os,fun b o e V f=>x.keep b o e f,x.gk⟩
theorem Mv.refl:Mv g T W s s:=Ext.mv .refl
theorem Mv.trans (x:Mv g T W s s') (y:Mv g T W' s' s'') (h:∀ b,W' b->W b\/s.heap.get? b=none):Mv g T W s s'' :=
 ⟨y.dr.trans x.dr,y.os.trans x.os,fun b o e n f=>y.keep b o (x.keep b o e n f) (fun hw=>(h b hw).elim n fun q=>nos q e) f,fun q=>y.gk (x.gk q)⟩
theorem Mv.sub (x:Mv g T W' s s') (h:∀ b,W' b->W b\/s.heap.get? b=none):Mv g T W s s':=Mv.trans .refl x h
theorem Mv.ext (x:Mv g T W s s') (h:∀ b,W b->s.heap.get? b=none):Ext g T s s':=⟨x.dr,x.os,fun b o e f=>x.keep b o e (fun hw=>nos (h b hw) e) f,x.gk⟩
theorem Mv.get (x:Mv g T W s s') (e:s.heap.get? b=some o) (n:¬ W b) (f:Off T b):s'.heap.get? b=some o:=x.keep b o e n f
theorem Mv.get' (x:Mv g T W s s') (q:GK g T s) (e:s.heap.get? b=some o) (n:¬ W b) (nt:NT o):s'.heap.get? b=some o:=x.keep b o e n (q.away e nt)
theorem Mv.of {h':Heap}{tk:Nat}(k:∀ b o,s.heap.get? b=some o->¬ W b->h'.get? b=some o)
  (hw:∀ b,W b->g.get? b=none/\∀ o,s.heap.get? b=some o->Jdd o):Mv g T W s { s with heap:=h',toks:=tk }:=by
 refine ⟨rfl,rfl,fun b o e n V=>k b o e n,fun q=>⟨fun b o e=>k b o (q.keep b o e) fun w=>nos (hw b w).1 e,fun p hp=>?_,q.off,q.bare⟩⟩
 obtain ⟨ps,e,t,c⟩:=q.tabs p hp
 refine ⟨ps,k _ _ e fun w=>((hw _ w).2 _ e).2 ps rfl,t,fun pos cv hc=>?_⟩
 obtain ⟨c,o,vs,u,e1,e2,e3,e4⟩:=c pos cv hc
 exact ⟨c,o,vs,u,e1,k _ _ e2 fun w=>((hw _ w).2 _ e2).1 vs _ _ e3 e4,e3,e4⟩
theorem Mv.one {a:Addr}{h':Heap}{tk:Nat}(hs:Heap.SameBut a s.heap h') (ho:s.heap.get? a=some o) (hn:Jdd o) (hg:g.get? a=none) (hw:W a):Mv g T W s { s with heap:=h',toks:=tk } :=
 Mv.sub (W':=fun b=>b=a) (Mv.of (fun b o e n=>(hs.2 b n).trans e) fun b hb=>hb▸⟨hg,fun o' e=>Jav ho e▸hn⟩) fun b hb=>.inl (hb▸hw)
theorem Mv.seq (x:Mv g T W s s') (q:GK g T s) {av:List Addr}(h:∀ b o,s.heap.get? b=some o->Jaq o->W b->b∈av):Ja9 av s.heap s'.heap:=fun b o e ho hn=>x.get' q e (fun w=>hn (h b o e ho w)) ho.nt
end
section
variable {h:Heap}{a:Addr}{m m':Str->Option Value}{v v':Option Value}{o:Obj}{env:Env}{x:Str}
theorem Jlu (hn:h.Ns a m) (e:h.get? a=some o):Jdd o:=by
 obtain ⟨o',es,ep,e',hd,_⟩:=hn
 cases Jav e e'
 exact ⟨fun vs q t h=>(Jbe tgB (hd.symm.trans h) rfl).elim,by rintro ps rfl; cases hd⟩
theorem Jdn (hn:h.Ns a m) (e:h.get? a=some o) (ho:Jaq o):False:=by
 obtain ⟨o',es,ep,e',hd,_⟩:=hn
 cases Jav e e'
 obtain ⟨vs,n,rfl | rfl⟩:=ho <;> cases hd
theorem Jme (hn:h.IsCell a v) (e:h.get? a=some o):Jdd o:=by
 obtain ⟨o',e',hd⟩:=hn
 cases Jav e e'
 exact ⟨fun vs q t h=>(Jbe tgB (hd.symm.trans h) rfl).elim,by rintro ps rfl; cases hd⟩
theorem Jdh (hn:h.IsCell a v) (e:h.get? a=some o) (ho:Jaq o):False:=by
 obtain ⟨o',e',hd⟩:=hn
 cases Jav e e'
 obtain ⟨vs,n,rfl | rfl⟩:=ho <;> cases hd
theorem Jhj (hn:h.Ns a m) (hc:h.IsCell a v):False:=by
 obtain ⟨o',es,ep,e',hd,_⟩:=hn
 obtain ⟨o,e,hd'⟩:=hc
 cases Jav e e'
 exact Jbe tgB (hd.symm.trans hd') rfl
theorem Jf4 (vs:List Value) (n:Nat):Jdd (Jb0 vs n):=⟨fun vs q t h=>(Jbe tgB h rfl).elim,Jai _ _⟩
theorem Jpn (x:h.Ns a m) (y:h.Ns a m') (z:Str):m z=m' z:=by
 obtain ⟨o,es,ep,e,hd,_,hm⟩:=x
 obtain ⟨o',es',ep',e',hd',_,hm'⟩:=y
 cases Jav e e'
 cases hd.symm.trans hd'
 rw [<- hm, <- hm']
theorem Jrn (x:h.IsCell a v) (y:h.IsCell a v'):v=v':=by
 obtain ⟨o,e,hd⟩:=x
 obtain ⟨o',e',hd'⟩:=y
 cases Jav e e'
 cases hd.symm.trans hd'
 rfl
theorem Jat.uniq {v v':Value}(a:Jat env h x v) (b:Jat env h x v'):v=v':=by
 cases a with
 | loc _ k m n hv=>cases b with
  | loc _ k' m' n' hv'=>exact Jav ((Jpn n n' x).symm.trans hv) hv'
  | cel _ k' c' hc' hv'=>rw [k] at k'; rcases k' with k' | k' <;> cases k'
 | cel _ k c hc hv=>cases b with
  | loc _ k' m' n' hv'=>rw [k'] at k; rcases k with k | k <;> cases k
  | cel _ k' c' hc' hv'=>cases Jav hc hc'; exact Option.some.inj (Jrn hv hv')
end
structure Fm (g:Heap) (T:Ja3) (av:List Addr) (ow:Ow) (env:Env) (σ:Sto) (s:Shared):Prop where
 gk:GK g T s
 ec:EC (ow.adr++av) env σ s.heap
 ns:∃ m,s.heap.Ns env.locals m
 own:∀ x c,x∈ow.c->env.kindOf x=some .cell->env.cells.lookup x=some c->∃ v,s.heap.IsCell c v
 inj:∀ x y c,x∈ow.c->env.cells.lookup x=some c->env.cells.lookup y=some c->x=y
 off:∀ b,Wr env ow b->g.get? b=none
 reg:∀ x ds,σ.lookup x=some (.own ds)->∃ a,(x,a)∈ow.l/\Jat env s.heap x (.ref a)
 nd:ow.adr.Nodup
 apt:∀ a∈ow.adr,a∉av
 isl:∀ a∈ow.adr,∃ vs n,s.heap.get? a=some (Jb0 vs n)
section
variable {g:Heap}{T:Ja3}{s s':Shared}{av:List Addr}{ow:Ow}{env:Env}{σ:Sto}{x:Str}{a b:Addr}{o:Obj}
theorem Fm.ext (F:Fm g T av ow env σ s) (x:Ext g T s s'):Fm g T av ow env σ s' :=
 ⟨x.gk F.gk,F.ec.ext x F.gk,F.ns.imp fun V=>x.ns F.gk,fun y c m k h=>(F.own y c m k h).imp fun V=>x.cell F.gk,F.inj,F.off,fun y ds h=>(F.reg y ds h).imp fun V p=>⟨p.1,p.2.ext x F.gk⟩,F.nd,F.apt,
  fun a ha=>(F.isl a ha).imp fun V p=>p.imp fun V e=>x.get' F.gk e (Jai _ _)⟩
theorem Fm.wlst (F:Fm g T av ow env σ s) (e:s.heap.get? b=some o) (ho:Jaq o) (hw:Wr env ow b):b∈ow.adr:=by
 rcases hw with rfl | ⟨x,hm,k,hx⟩ | hb
 ·exact F.ns.elim fun m n=>(Jdn n e ho).elim
 ·exact (F.own x b hm k hx).elim fun v hv=>(Jdh hv e ho).elim
 ·exact hb
theorem Fm.wseq (F:Fm g T av ow env σ s):∀ b o,s.heap.get? b=some o->Jaq o->Wr env ow b->b∈ow.adr++av:=fun V V e ho hw=>List.mem_append_left _ (F.wlst e ho hw)
theorem Fm.wcode (F:Fm g T av ow env σ s):∀ b,Wr env ow b->g.get? b=none/\∀ o,s.heap.get? b=some o->Jdd o:=fun b hb=>⟨F.off b hb,fun o e=>by
 rcases hb with rfl | ⟨x,hm,k,hx⟩ | hb
 ·exact F.ns.elim fun m n=>Jlu n e
 ·exact (F.own x b hm k hx).elim fun v hv=>Jme hv e
 ·obtain ⟨vs,n,e'⟩:=F.isl b hb
  exact Jav e' e▸Jf4 vs n⟩
theorem Fm.weak {σ':Sto}(F:Fm g T av ow env σ s) (h:∀ x sl,σ'.lookup x=some sl->σ.lookup x=some sl):Fm g T av ow env σ' s :=
 { F with ec:={ F.ec with vars:=fun x sl e=>F.ec.vars x sl (h x sl e) },reg:=fun x ds e=>F.reg x ds (h x _ e) }
theorem Ow.adr_drop (h:a∈(Ow.drop x ow).adr):a∈ow.adr:=((List.filter_sublist).map _).subset h
theorem Ow.nd_drop (h:ow.adr.Nodup):(Ow.drop x ow).adr.Nodup:=h.sublist ((List.filter_sublist).map _)
theorem Ow.mem_drop {y:Str}(h:(y,a)∈ow.l) (n:y≠x):(y,a)∈(Ow.drop x ow).l:=List.mem_filter.mpr ⟨h,by simpa using n⟩
theorem Jfm {x y:Str}:∀ {l:List (Str×Addr)},(l.map (·.2)).Nodup->(x,a)∈l->(y,a)∈l->x=y
 | q::l,hn,h,h1=>by
  rw [List.map_cons,List.nodup_cons] at hn
  rcases List.mem_cons.mp h with e | e <;> rcases List.mem_cons.mp h1 with e1 | e1
  ·exact congrArg Prod.fst (e.trans e1.symm)
  ·exact (hn.1 (e▸List.mem_map.mpr ⟨_,e1,rfl⟩)).elim
  ·exact (hn.1 (e1▸List.mem_map.mpr ⟨_,e,rfl⟩)).elim
  ·exact Jfm hn.2 e e1
theorem Ow.drop_out (hn:ow.adr.Nodup) (h:(x,a)∈ow.l):a∉(Ow.drop x ow).adr:=fun hm=>by
 obtain ⟨⟨y,b⟩,hp,e⟩:=List.mem_map.mp hm
 obtain ⟨h1,h2⟩:=List.mem_filter.mp hp
 cases e
 rw [Jfm hn h1 h,beq_self_eq_true] at h2
 exact nomatch h2
theorem Wr.drop (h:Wr env (Ow.drop x ow) b):Wr env ow b:=h.imp id (Or.imp id Ow.adr_drop)
end
end
section
structure Jlf (env:Env) (on:List Str) (x:Str):Prop where
 ok:Jay x=true
 at_:env.kindOf x=some .local\/(env.kindOf x=some .cell/\x∈on/\∃ c,env.cells.lookup x=some c)
theorem Ja6 {α:Type}{x y:Str}{sl:α}{σ:List (Str×α)}:List.lookup y ((x,sl)::σ)=if y=x then some sl else σ.lookup y:=by
 rw [List.lookup_cons]
 by_cases h:y=x
 ·rw [h,beq_self_eq_true,if_pos rfl]
 ·rw [beq_eq_false_iff_ne.mpr h,if_neg h]
theorem Jaj {α:Type}{x y:Str}{sl sl':α}{σ:List (Str×α)}(e:List.lookup y ((x,sl)::σ)=some sl'):(y=x/\sl=sl')\/(y≠x/\σ.lookup y=some sl'):=by
 rw [Ja6] at e
 by_cases h:y=x
 ·rw [if_pos h] at e; exact .inl ⟨h,Option.some.inj e⟩
 ·rw [if_neg h] at e; exact .inr ⟨h,e⟩
inductive Jbx (env:Env) (ow:Ow) (x:Str) (v:Value) (h:Heap) (a:Addr) (h':Heap):Prop
 | loc (e:a=env.locals) (k:env.kindOf x=some .local) (f:∀ m,h.Ns env.locals m->h'.Ns env.locals (fun y=>if y=x then some v else m y))
 | cel (k:env.kindOf x=some .cell) (i:x∈ow.c) (c:env.cells.lookup x=some a) (n:h'.IsCell a (some v))
section
variable {prog:Program}{w:World}{A:Around}{g:Heap}{T:Ja3}{s s':Shared}{av:List Addr}{ow ow':Ow}{env:Env}{σ:Sto}{x y:Str}{v u:Value}{sl:Sl}{a b c:Addr}{h':Heap}{tk:Nat}
theorem Fm.wr_ex (F:Fm g T av ow env σ s) (hw:Wr env ow a):∃ o,s.heap.get? a=some o:=by
 rcases hw with rfl | ⟨x,i,k,c⟩ | hb
 ·exact F.ns.elim fun m n=>n.imp fun o n=>n.elim fun V n=>n.elim fun V n=>n.1
 ·exact (F.own x a i k c).elim fun u n=>n.imp fun o e=>e.1
 ·exact (F.isl a hb).elim fun vs n=>n.elim fun V e=>⟨_,e⟩
theorem Fm.wrote (F:Fm g T av ow env σ s) (hs:Heap.SameBut a s.heap h') (hw:Wr env ow a):Mv g T (Wr env ow) s { s with heap:=h',toks:=tk } :=
 (F.wr_ex hw).elim fun o ho=>Mv.one hs ho ((F.wcode a hw).2 o ho) (F.off a hw) hw
theorem Jbx.wr (S:Jbx env ow x v s.heap a h'):Wr env ow a:=S.rec (fun e V V=>.inl e) fun k i c V=>.inr (.inl ⟨x,i,k,c⟩)
section
variable (F:Fm g T av ow env σ s) (S:Jbx env ow x v s.heap a h') (hs:Heap.SameBut a s.heap h')
include F S
theorem Jbx.nsq {o:Obj}(e:s.heap.get? a=some o) (ho:Jaq o):False:=by
 cases S with
 | loc q=>exact F.ns.elim fun m n=>Jdn n (q▸e) ho
 | cel k i c _=>exact (F.own x a i k c).elim fun u n=>Jdh n e ho
theorem Jbx.nt:∃ o,h'.get? a=some o/\NT o:=by
 cases S with
 | loc q _ f=>exact F.ns.elim fun m n=>let n:=f m n; n.imp fun o z=>z.elim fun V z=>z.elim fun V z=>⟨q▸z.1,(Jlu n z.1).2⟩
 | cel _ _ _ n=>exact n.imp fun o z=>⟨z.1,(Jme n z.1).2⟩
include hs
theorem Jbx.seq (av':List Addr):Ja9 av' s.heap h':=fun b V e ho V=>(hs.2 b fun q=>S.nsq F (q▸e) ho).trans e
theorem Jbx.lst (e:∃ vs n,s.heap.get? b=some (Jb0 vs n)):∃ vs n,h'.get? b=some (Jb0 vs n):=e.imp fun vs e=>e.imp fun n e=>S.seq F hs [] b _ e ⟨_,_,.inr rfl⟩ nofun
theorem Jbx.nss {m:Str->Option Value}(n:s.heap.Ns env.locals m):∃ m',h'.Ns env.locals m'/\∀ y,y≠x->m' y=m y:=by
 cases S with
 | loc _ _ f=>exact ⟨_,f m n,fun y q=>if_neg q⟩
 | cel k i c _=>exact ⟨m,n.sameBut hs fun q=>(F.own x a i k c).elim fun V hu=>Jhj (q▸n) hu,fun V V=>rfl⟩
theorem Jbx.cell {u:Option Value}(hu:s.heap.IsCell c u) (hy:env.cells.lookup y=some c) (ne:y≠x):h'.IsCell c u:=hu.sameBut hs fun q=>by
 cases S with
 | loc e _ _=>exact F.ns.elim fun m n=>Jhj n (e▸q▸hu)
 | cel k i c' _=>exact ne (F.inj x y _ i c' (q▸hy)).symm
theorem Jbx.cells {u:Option Value}(hu:s.heap.IsCell c u):∃ u,h'.IsCell c u:=by
 by_cases q:c=a
 ·cases S with
  | loc e _ _=>exact F.ns.elim fun m n=>(Jhj n (e▸q▸hu)).elim
  | cel _ _ _ n=>exact ⟨_,q▸n⟩
 ·exact ⟨u,hu.sameBut hs q⟩
theorem Jbx.other (l:Jat env s.heap y u) (ne:y≠x):Jat env h' y u:=by
 cases l with
 | loc o k m n e=>exact (S.nss F hs n).elim fun m' p=>.loc o k m' p.1 ((p.2 y ne).trans e)
 | cel o k c e n=>exact .cel o k c e (S.cell F hs n e ne)
theorem Jbx.slot {av':List Addr}(r:Jgc av' s.heap u sl):Jgc av' h' u sl:=by
 cases sl with
 | val d=>exact VD.keep (S.seq F hs _) r
 | own ds=>cases r with | mk m e r=>exact ⟨m,S.seq F hs [] _ _ e ⟨_,_,.inr rfl⟩ nofun,r.keep (S.seq F hs _)⟩
omit hs
theorem Jbx.self (ok:Jay x=true):Jat env h' x v:=by
 cases S with
 | loc _ k f=>exact F.ns.elim fun m n=>.loc ok k _ (f m n) (if_pos rfl)
 | cel k _ c n=>exact .cel ok (.inl k) a c n
end
theorem Jdp {l l' r:List Addr}(h:∀ a∈l',a∈l):∀ a∈l'++r,a∈l++r:=fun V ha=>(List.mem_append.mp ha).elim (fun q=>List.mem_append_left _ (h _ q)) (List.mem_append_right _)
theorem Fm.slot_to {av':List Addr}(F:Fm g T av ow env σ s) (e:σ.lookup y=some sl) (l:Jat env s.heap y u) (r:Jgc av' s.heap u sl) {av'':List Addr}(hs:∀ a∈av'',a∈av') (hin:∀ b,(y,b)∈ow.l->b∈av''):Jgc av'' s.heap u sl:=by
 cases sl with
 | val d=>exact VD.sub hs r
 | own ds =>
  obtain ⟨b,hb,l'⟩:=F.reg y ds e
  cases r with | mk m e r=>cases l.uniq l'; exact ⟨hin b hb,e,r.sub hs⟩
theorem Fm.hold (F:Fm g T av ow env σ s):∀ y sl,y≠x->σ.lookup y=some sl->∀ u,Jat env s.heap y u->Jgc (ow.adr++av) s.heap u sl->Jgc ((Ow.drop x ow).adr++av) s.heap u sl:=fun y sl hne e u l h=>
 F.slot_to e l h (Jdp fun V=>Ow.adr_drop) fun b hb=>List.mem_append_left _ (List.mem_map.mpr ⟨_,Ow.mem_drop hb hne,rfl⟩)
theorem Fm.stored {d:D}(F:Fm g T av ow env σ s) (hv:VD ((Ow.drop x ow).adr++av) s.heap v d) (hok:Jay x=true) (hs:Heap.SameBut a s.heap h') (S:Jbx env ow x v s.heap a h'):Fm g T av (Ow.drop x ow) env ((x,.val d)::σ) { s with heap:=h',toks:=tk }:=by
 have lst:∀ b∈(Ow.drop x ow).adr,∃ vs n,h'.get? b=some (Jb0 vs n):=fun b hb=>S.lst F hs (F.isl b (Ow.adr_drop hb))
 refine ⟨(F.wrote hs S.wr (tk:=tk)).gk F.gk,⟨F.ec.kind,F.ec.glob,F.ec.blt,fun b hb=>?_,fun y sl' e=>?_,fun y hk=>(F.ec.cells y hk).imp fun c p=>⟨p.1,p.2.elim fun V hu=>S.cells F hs hu⟩⟩,
  F.ns.elim fun m n=>(S.nss F hs n).imp fun V p=>p.1,fun y c iy k e=>(F.own y c iy k e).elim fun V hu=>S.cells F hs hu,F.inj,fun b hb=>F.off b hb.drop,fun y ds e=>?_,Ow.nd_drop F.nd,fun b hb=>F.apt b (Ow.adr_drop hb),lst⟩
 ·rcases List.mem_append.mp hb with hb | hb
  ·exact (lst b hb).elim fun vs e=>e.elim fun n e=>⟨_,e,Jai _ _⟩
  ·by_cases q:b=a
   ·exact q▸S.nt F
   ·exact (F.ec.avok b (List.mem_append_right _ hb)).imp fun o p=>⟨(hs.2 b q).trans p.1,p.2⟩
 ·rcases Jaj e with ⟨rfl,rfl⟩ | ⟨q,e⟩
  ·exact ⟨v,S.self F hok,VD.keep (S.seq F hs _) hv⟩
  ·cases F.ec.vars y sl' e with | mk u l r=>exact ⟨u,S.other F hs l q,S.slot F hs (F.hold y sl' q e u l r)⟩
 ·rcases Jaj e with ⟨_,q⟩ | ⟨q,e⟩
  ·exact nomatch q
  ·exact (F.reg y ds e).imp fun b p=>⟨Ow.mem_drop p.1 q,S.other F hs p.2 q⟩
theorem Jig {Q:Unit->Shared->Prop}{E:Value->Shared->Prop}(F:Fm g T av ow env σ s) (hc:Jlf env ow.c x) (h:∀ a h' tk,Heap.SameBut a s.heap h'->Jbx env ow x v s.heap a h'->Q () { s with heap:=h',toks:=tk }):wpAny (model prog w) A (storeName env x v) Q E s:=by
 rcases hc.at_ with k | ⟨k,i,c,e⟩
 ·obtain ⟨m,n⟩:=F.ns
  exact wpAny_storeName_local k n (fun h' hn hs=>h _ h' _ hs (.loc rfl k fun m' n'=>(funext fun z=>Jpn n' n z:m'=m)▸hn)) (by rw [F.ec.kind]; rfl)
 ·obtain ⟨u,hu⟩:=F.own x c i k e
  exact wpAny_storeName_cell F.ec.kind k e hu fun h' hc hs=>h _ h' s.toks hs (.cel k i e hc)
structure JH8 (g:Heap) (T:Ja3) (av:List Addr) (ow ow':Ow) (env:Env) (σ:Sto) (s s':Shared):Prop where
 F:Fm g T av ow' env σ s'
 m:Mv g T (Wr env ow) s s'
theorem Jb1 {d:D}(F:Fm g T av ow env σ s) (hc:Jlf env ow.c x) (hv:VD (ow.adr++av) s.heap v d):wpAny (model prog w) A (storeName env x v) (fun V s'=>JH8 g T av ow (Ow.drop x ow) env ((x,.val d)::σ) s s') NoE s :=
 Jig F hc fun a h' tk hs S=>⟨F.stored (VD.sub (Jdp fun V=>Ow.adr_drop) hv) hc.ok hs S,F.wrote hs S.wr⟩
theorem Jei {s:Shared}:∀ b,Wr env (Ow.drop x ow) b->Wr env ow b\/s.heap.get? b=none:=fun b h=>.inl h.drop
end
end
section
noncomputable def Jh9 (sc:Scope) (on:List Str) (x:Str):Bool:=Jay x&&(sc.names.lookup x==some .local||(sc.names.lookup x==some .cell&&on.contains x))
noncomputable abbrev Bd:=List (Str×D)
noncomputable def Ja4:Bd->Sto->Sto
 | [],σ=>σ
 | (x,d)::r,σ=>Ja4 r ((x,.val d)::σ)
inductive Jc6:List Expr->List D->Bd->Prop
 | nil:Jc6 [] [] []
 | cons {x:Str}{p:Pos}{es:List Expr}{d:D}{ds:List D}{b:Bd}:Jc6 es ds b->Jc6 (.Name x p::es) (d::ds) ((x,d)::b)
inductive Tg:Expr->D->Bd->Prop
 | name {x:Str}{p:Pos}{d:D}:Tg (.Name x p) d [(x,d)]
 | tup {es:List Expr}{k:Nat}{p:Pos}{ds:List D}{b:Bd}:Jc6 es ds b->Tg (.Tuple es k p) (.tup ds) b
noncomputable def Je4 (sc:Scope) (on:List Str) (b:Bd):Prop:=∀ x d,(x,d)∈b->Jh9 sc on x=true
theorem Jd1 {sc:Scope}{env:Env}{av:List Addr}{σ:Sto}{h:Heap}{x:Str}{on:List Str}(c:EC av env σ h) (he:env.scope=sc) (hx:Jh9 sc on x=true):Jlf env on x:=by
 obtain ⟨h1,h2⟩:=Bool.and_eq_true_iff.mp hx
 refine ⟨h1,?_⟩
 subst he
 rcases (Bool.or_eq_true _ _).mp h2 with k | k
 ·exact .inl (eq_of_beq k)
 ·obtain ⟨k,i⟩:=Bool.and_eq_true_iff.mp k
  exact .inr ⟨eq_of_beq k,List.contains_iff_mem.mp i,(c.cells x (.inl (eq_of_beq k))).imp fun V p=>p.1⟩
theorem Jc6.length {es:List Expr}{ds:List D}{b:Bd}(h:Jc6 es ds b):es.length=ds.length:=h.rec rfl fun V ih=>congrArg (· + 1) ih
theorem Jc6.each {es:List Expr}{ds:List D}{b:Bd}(h:Jc6 es ds b) (env:Env):assignEach es env=es.map fun e=>(false,assign e env):=h.rec rfl fun V ih=>congrArg (_ :: ·) ih
inductive AsV (g:Heap) (T:Ja3) (av:List Addr) (ow:Ow) (env:Env) (σ:Sto) (s s':Shared):Prop
 | mk (ow':Ow) (c:ow'.c=ow.c) (F:Fm g T av ow' env σ s') (m:Mv g T (Wr env ow) s s') (w:∀ c,Wr env ow' c->Wr env ow c) (l:∀ p∈ow'.l,p∈ow.l)
section
variable {prog:Program}{w:World}{A:Around}{g:Heap}{T:Ja3}{s s':Shared}{av:List Addr}{ow:Ow}{env:Env}{σ:Sto}
theorem Jlh {es:List Expr}{ds:List D}{b:Bd}(r:Jc6 es ds b):∀ {vs:List Value}{σ:Sto}{ow:Ow}{s:Shared},Fm g T av ow env σ s->Je4 env.scope ow.c b->VDs (ow.adr++av) s.heap vs ds ->
  wpAny (model prog w) A (assignInOrder (es.map fun e=>assign e env) vs) (fun V s'=>AsV g T av ow env (Ja4 b σ) s s') NoE s:=by
 induction r with
 | nil=>intro vs σ ow s F _ hv; rw [hv.i0]; exact wpAny_assignInOrder_none ⟨ow,rfl,F,.refl,fun V h=>h,fun V h=>h⟩
 | cons r ih =>
  intro vs σ ow s F hst hv
  cases hv.i1 with | mk v1 vr =>
  refine wpAny_assignInOrder_more (wpAny_assign_Name (Ja0 (Jb1 F (Jd1 F.ec rfl (hst _ _ (.head _))) v1) fun V sA h=>?_))
  refine Ja0 (ih h.F (fun y d h=>hst y d (.tail _ h)) ((vr.keep (h.m.seq F.gk (av:=ow.adr++av) F.wseq)).sub (Jdp fun V=>Ow.adr_drop))) fun V s2 h₂=>?_
  cases h₂ with | mk ow' c Fb m w l=>exact ⟨ow',c,Fb,h.m.trans m Jei,fun c hc=>(w c hc).drop,fun p hp=>(List.mem_filter.mp (l p hp)).1⟩
theorem Jd4 {sc:Scope}{tg:Expr}{v:Value}{d:D}{b:Bd}(hh:A.handled=none) (he:env.scope=sc) (F:Fm g T av ow env σ s) (ht:Tg tg d b) (hst:Je4 sc ow.c b) (hv:VD (ow.adr++av) s.heap v d) :
  wpAny (model prog w) A (assign tg env v) (fun V s'=>AsV g T av ow env (Ja4 b σ) s s') NoE s:=by
 subst he
 cases ht with
 | name=>exact wpAny_assign_Name (Ja0 (Jb1 F (Jd1 F.ec rfl (hst _ d (.head _))) hv) fun V sA h=>⟨Ow.drop _ ow,rfl,h.F,h.m,fun c hc=>hc.drop,fun p hp=>(List.mem_filter.mp hp).1⟩)
 | tup hb =>
  cases hv.i7 with | mk na e r =>
  have hx:=hb.each env
  refine wpAny_assign_Tuple hh ⟨_,e,rfl,_,rfl⟩ ?_ ?_ fun h' hk=>?_
  ·rw [hx,List.length_map,List.size_toArray,hb.length,r.length]
  ·rw [hx,List.findIdx?_eq_none_iff]
   intro x hx
   obtain ⟨e,_,rfl⟩:=List.mem_map.mp hx
   rfl
  ·have xA:Ext g T s { s with heap:=h' }:=.of h' s.toks fun c o e=>hk c o (fun q=>nos (Ja8 _) (q▸e)) e
   rw [hx,List.map_map]
   refine Ja0 (Jlh hb (F.ext xA) hst (xA.vds F.gk r)) fun V s2 h₂=>?_
   cases h₂ with | mk ow' c Fb m w l=>exact ⟨ow',c,Fb,Mv.trans xA.mv m fun b h=>.inl h,w,l⟩
end
end
section
structure Jmk (fp:List Addr) (s s':Shared):Prop where
 dr:s'.drawn=s.drawn
 os:s'.os=s.os
 gn:s'.gens=s.gens
 keep:∀ b o,b∉fp->s.heap.get? b=some o->s'.heap.get? b=some o
theorem Jmk.get {fp:List Addr}{s s':Shared}(x:Jmk fp s s') {b:Addr}{o:Obj}(e:s.heap.get? b=some o) (n:b∉fp):s'.heap.get? b=some o:=x.keep b o n e
theorem Jmk.seq {fp av:List Addr}{s s':Shared}(x:Jmk fp s s') (h:∀ b∈fp,b∈av):Ja9 av s.heap s'.heap:=fun b o e V n=>x.keep b o (fun q=>n (h b q)) e
noncomputable def Jcx (o:Obj):Prop:=Jdd o/\(∀ v,o.data≠.cell v)/\(∀ es ep,o.data≠.dict es ep)
theorem Jg9 {o:Obj}{vs:Array Value}(hd:o.data=.fields vs) (hc:o.cls≠.none) (h1:∀ q t,vs[1]?≠some (.str q t)):Jcx o :=
 ⟨⟨fun us q t hu=>by cases hd.symm.trans hu; exact h1 q t,by rintro ps rfl; exact hc rfl⟩,fun v h=>Jbe tgB (hd.symm.trans h) rfl,fun es ep h=>Jbe tgB (hd.symm.trans h) rfl⟩
inductive ItO (K:Prop) (h:Heap) (b:Addr):Prop
 | mk (o:Obj) (e:h.get? b=some o) (i:Jcx o) (nl:∀ vs n,o≠Jb0 vs n) (f:K->∃ vs,o.data=.fields vs)
theorem Jca {K:Prop}{h:Heap}{b:Addr}{o:Obj}{vs:Array Value}(e:h.get? b=some o) (hd:o.data=.fields vs) (hc:o.cls≠.none) (h1:∀ q t,vs[1]?≠some (.str q t)):ItO K h b :=
 ⟨o,e,Jg9 hd hc h1,fun us n q=>Jbe tgB (hd.symm.trans (congrArg Obj.data q)) rfl,fun V=>⟨_,hd⟩⟩
structure Got (fp Z:List Addr) (P:Heap->Prop) (d:D) (v:Value) (s s':Shared):Prop where
 vd:VD Z s'.heap v d
 st:P s'.heap
 on:Jmk fp s s'
inductive JAw (K:Value->Shared->Prop):Option Value->Shared->Prop
 | mk {v:Value}{s:Shared}(k:K v s):JAw K (some v) s
structure Itr (prog:Program) (w:World) (K:Prop) (av fp:List Addr) (h0:Heap) (tg:Expr) (it:Value) (St:List D->Heap->Prop):Prop where
 sub:∀ b∈fp,b∈av
 ks:∀ ds h,St ds h->Ja9 av h0 h
 frame0:∀ ds h h',St ds h->(∀ b∈fp,∀ o,h.get? b=some o->h'.get? b=some o)->Ja9 av h0 h'->St ds h'
 obj:∀ ds h,St ds h->∀ b∈fp,ItO K h b
 item:∀ (A:Around) (d:D) (ds:List D) (s:Shared) (Z:List Addr),A.handled=none->(∀ b∈Z,b∈av\/h0.get? b=none)->(∀ b∈Z,s.heap.get? b≠none)->St (d::ds) s.heap ->
  wpAny (model prog w) A (pyNext it) (JAw fun v sA=>wpAny (model prog w) A (letOwnedTupleGo tg it v) (fun V s2=>Got fp Z (St ds) d v s s2) NoE sA) NoE s
 done:∀ (A:Around) (s:Shared),A.handled=none->St [] s.heap->wpAny (model prog w) A (pyNext it) (fun r sA=>r=none/\Jmk fp s sA) NoE s
 self:∀ (A:Around) (ds:List D) (s:Shared) (Q:Value->Shared->Prop),A.handled=none->St ds s.heap->Q it s->wpAny (model prog w) A (pyIter it) Q NoE s
theorem Ja9.trans {av:List Addr}{h h' h'':Heap}(x:Ja9 av h h') (y:Ja9 av h' h''):Ja9 av h h'':=fun b o e ho n=>y b o (x b o e ho n) ho n
theorem Ja9.refl {av:List Addr}{h:Heap}:Ja9 av h h:=fun V V e V V=>e
section
variable {prog:Program}{w:World}{A:Around}{E:Value->Shared->Prop}{T:Ja3}{s:Shared}{av fp Z:List Addr}{h0 h h':Heap}{tg:Expr}{it v:Value}{ds ds0:List D}{d:D}{I l:Addr}{vs:List Value}{i:Nat}{K:Prop}
theorem Itr.frame {St:List D->Heap->Prop}(I:Itr prog w K av fp h0 tg it St) (ds:List D) (h h':Heap) (st:St ds h) (hf:∀ b∈fp,∀ o,h.get? b=some o->h'.get? b=some o) (k:Ja9 av h h'):St ds h':=I.frame0 ds h h' st hf ((I.ks ds h st).trans k)
theorem VD.toZ (r:VD av h0 v d) (k:Ja9 av h0 h') (hZ:∀ b∈Z,b∈av\/h0.get? b=Option.none):VD Z h' v d:=r.mono k fun b o e V nb q=>(hZ b q).elim nb fun z=>nos z e
structure Wkr (prog:Program) (w:World) (K:Prop) (av fp:List Addr) (h0:Heap) (tg:Expr) (it:Value) (ds0:List D) (J:Nat->Heap->Prop):Prop where
 sub:∀ b∈fp,b∈av
 frame:∀ i h h',J i h->(∀ b∈fp,∀ o,h.get? b=some o->h'.get? b=some o)->Ja9 av h0 h->Ja9 av h0 h'->J i h'
 obj:∀ i h,J i h->∀ b∈fp,ItO K h b
 item:∀ (A:Around) (i:Nat) (d:D) (s:Shared) (Z:List Addr),A.handled=none->(∀ b∈Z,b∈av\/h0.get? b=none)->(∀ b∈Z,s.heap.get? b≠none)->i<ds0.length->ds0[i]?=some d->J i s.heap->Ja9 av h0 s.heap ->
  wpAny (model prog w) A (pyNext it) (JAw fun v sA=>wpAny (model prog w) A (letOwnedTupleGo tg it v) (fun V s2=>Got fp Z (J (i+1)) d v s s2) NoE sA) NoE s
 done:∀ (A:Around) (s:Shared),A.handled=none->J ds0.length s.heap->Ja9 av h0 s.heap->wpAny (model prog w) A (pyNext it) (fun r sA=>r=none/\Jmk fp s sA) NoE s
 self:∀ (A:Around) (i:Nat) (s:Shared) (Q:Value->Shared->Prop),A.handled=none->J i s.heap->Q it s->wpAny (model prog w) A (pyIter it) Q NoE s
inductive JI0 (av:List Addr) (h0:Heap) (ds0:List D) (J:Nat->Heap->Prop) (rs:List D) (h:Heap):Prop
 | mk (i:Nat) (e:rs=ds0.drop i) (hi:i<=ds0.length) (j:J i h) (k:Ja9 av h0 h)
theorem Jbd {α:Type}{l:List α}{i:Nat}{a:α}(h:l[i]?=some a):i<l.length:=(List.getElem?_eq_some_iff.mp h).1
theorem Wkr.itr {J:Nat->Heap->Prop}(W:Wkr prog w K av fp h0 tg it ds0 J):Itr prog w K av fp h0 tg it (JI0 av h0 ds0 J) where
 sub:=W.sub
 ks:=fun ds h st=>st.rec fun V V V V k=>k
 frame0:=fun ds h h' st hf k'=>st.rec fun i e hi j k=>⟨i,e,hi,W.frame i h h' j hf k k',k'⟩
 obj:=fun ds h st=>st.rec fun i V V j V=>W.obj i h j
 item:=fun A d ds s Z hh hZ hZs st=>by
  cases st with | mk i e hi j k =>
  have hd:ds0[i]?=some d:=by
   have:(ds0.drop i)[0]?=some d:=e▸rfl
   rwa [List.getElem?_drop,Nat.add_zero] at this
  have hs:ds=ds0.drop (i+1):=by rw [<- List.drop_drop, <- e]; rfl
  have hlt:=Jbd hd
  refine wpAny_mono (E:=NoE) (W.item A i d s Z hh hZ hZs hlt hd j k) (fun r sA h=>?_) fun V V f=>f
  cases h with | mk h=>exact ⟨wpAny_mono h (fun V s2 q=>⟨q.vd,⟨i+1,hs,hlt,q.st,k.trans (q.on.seq W.sub)⟩,q.on⟩) fun V V f=>f⟩
 done:=fun A s hh st=>by
  cases st with | mk i e hi j k=>exact W.done A s hh (Nat.le_antisymm hi (List.drop_eq_nil_iff.mp e.symm)▸j) k
 self:=fun A ds s Q hh st hQ=>by cases st with | mk i _ _ j _=>exact W.self A i s Q hh j hQ
inductive Jnz:Expr->Prop
 | name {x:Str}{p:Pos}:Jnz (.Name x p)
 | tup {es:List Expr}{k:Nat}{p:Pos}:Jnz (.Tuple es k p)
inductive Jvz (o:Obj):Prop
 | mk (n:String) (vs:Array Value) (c:o.cls=.type n) (d:o.data=.fields vs) (l:["enumerate", "zip", "dict_itemiterator", "dict_reverseitemiterator", "odict_iterator", "itertools.zip_longest", "itertools.pairwise"].contains n=false)
theorem Jlj {o:Obj}{Q:Unit->Shared->Prop}(ht:Jnz tg) (ho:s.heap.get? I=some o) (hn:Jvz o) (h:Q () s):wpAny (model prog w) A (letOwnedTupleGo tg (.ref I) v) Q E s:=by
 cases ht with
 | name=>exact wpAny_pure h
 | tup =>
  cases hn with | mk n vs hc hd hl =>
  unfold letOwnedTupleGo
  cases v with
  | ref T =>
   refine wpAny_bind (wpAny_load ho ?_)
   rw [hc,hd]
   show wpAny _ A (if (_&&_)=true then _ else _) Q E s
   rw [if_neg (by rw [hl,Bool.false_and]; exact Bool.false_ne_true)]
   exact wpAny_pure h
  | _=>exact wpAny_pure h
theorem Wkr.walks {fp0:List Addr}{n:Nat}{P:Nat->Value->Prop}{St0:Nat->Heap->Prop}(ht:Jnz tg) (W:∀ A:Around,A.handled=none->Walks prog w A I fp0 [I] n P St0) (hI:I∈av) (hl:ds0.length=n)
  (hseq:∀ b∈fp0,b≠I->∃ o,h0.get? b=some o/\Jaq o/\b∉av) (hobj:∀ i h,St0 i h->ItO K h I/\∀ o,h.get? I=some o->Jvz o) (hP:∀ i v d,P i v->ds0[i]?=some d->VD av h0 v d) :
  Wkr prog w K av [I] h0 tg (.ref I) ds0 St0 where
 sub:=fun b hb=>List.mem_singleton.mp hb▸hI
 frame:=fun i h h' st hk k k'=>(W { depth:=0,units:=0,handled:=none } rfl).frame i h h' st fun b hb o eo=>by
  by_cases q:b=I
  ·exact hk b (List.mem_singleton.mpr q) o eo
  ·obtain ⟨o0,e0,so,na⟩:=hseq b hb q
   cases Jav eo (k b o0 e0 so na)
   exact k' b o e0 so na
 obj:=fun i h st b hb=>List.mem_singleton.mp hb▸(hobj i h st).1
 item:=fun A i d s Z hh hZ hZs hlt hd st k=>(W A hh).item i s _ _ (hl▸hlt) st fun v h' tk hv st' hk=>by
  have on:Jmk [I] s { s with heap:=h',toks:=tk }:=⟨rfl,rfl,rfl,fun b o n e=>hk b o n e⟩
  cases (hobj (i+1) h' st').1 with | mk o ho _ _ _ =>
  exact ⟨Jlj ht ho ((hobj (i+1) h' st').2 o ho) ⟨(hP i v d hv hd).toZ (k.trans (on.seq fun b hb=>List.mem_singleton.mp hb▸hI)) hZ,st',on⟩⟩
 done:=fun A s hh st k=>(W A hh).done s _ _ (hl▸st) fun h' tk hk=>⟨rfl,rfl,rfl,rfl,fun b o n e=>hk b o n e⟩
 self:=fun A i s Q hh st hQ=>(W A hh).self i s Q NoE st hQ
structure Jcw (av:List Addr) (l:Addr) (vs:List Value) (ds:List D) (h:Heap):Prop where
 na:l∉av
 at_:∃ n,h.get? l=some (Jb0 vs n)
 vd:VDs av h vs ds
theorem Jcw.isl (iv:Jcw av l vs ds h0) (k:Ja9 av h0 h):h.IsList l vs.toArray:=iv.at_.elim fun n e=>⟨_,k _ _ e ⟨_,_,.inr rfl⟩ iv.na,rfl,_,rfl⟩
theorem Jcw.seqs (iv:Jcw av l vs ds h0):∀ b∈[I,l],b≠I->∃ o,h0.get? b=some o/\Jaq o/\b∉av:=fun b hb hn=>by
 obtain rfl:=List.mem_singleton.mp ((List.mem_cons.mp hb).resolve_left hn)
 exact iv.at_.elim fun n e=>⟨_,e,⟨_,_,.inr rfl⟩,iv.na⟩
theorem Jq5 {o:Obj}{n:String}{us:Array Value}(e:h.get? I=some o) (hc:o.cls=.type n) (hd:o.data=.fields us) (h1:∀ q t,us[1]?≠some (.str q t)) (hn:["enumerate", "zip", "dict_itemiterator", "dict_reverseitemiterator", "odict_iterator", "itertools.zip_longest", "itertools.pairwise"].contains n=false) :
  ItO K h I/\∀ o,h.get? I=some o->Jvz o:=⟨Jca e hd (by rw [hc]; intro q; cases q) h1,fun o' e'=>Jav e e'▸⟨n,us,hc,hd,hn⟩⟩
theorem Wkr.list (ht:Jnz tg) (hI:I∈av) (iv:Jcw av l vs ds h0):Wkr prog w K av [I] h0 tg (.ref I) ds (fun i h=>h.IsListIter I l i/\h.IsList l vs.toArray) :=
 Wkr.walks ht (fun A hh=>Walks.list hh I l (fun q=>iv.na (q▸hI)) vs.toArray) hI iv.vd.length.symm iv.seqs (fun i h st=>let ⟨_,e,hc,hd⟩:=st.1; Jq5 e hc hd nofun (by decide)) fun i v d hv hd'=>by
  obtain ⟨d',e',r⟩:=iv.vd.get i v (by simpa using hv)
  exact Jav hd' e'▸r
theorem Wkr.listRev (ht:Jnz tg) (hI:I∈av) (iv:Jcw av l vs ds h0):Wkr prog w K av [I] h0 tg (.ref I) ds.reverse (fun i h=>i<=vs.toArray.size/\h.IsRevIter I l ((vs.toArray.size:Int) - 1 - (i:Int))/\h.IsList l vs.toArray) :=
 Wkr.walks ht (fun A hh=>Walks.listRev hh I l (fun q=>iv.na (q▸hI)) vs.toArray) hI (by rw [List.length_reverse]; exact iv.vd.length.symm) iv.seqs (fun i h st=>let ⟨_,e,hc,hd⟩:=st.2.1; Jq5 e hc hd nofun (by decide)) fun i v d hv hd'=>by
  obtain ⟨d',e',r⟩:=iv.vd.get (vs.length - 1 - i) v (by simpa using hv)
  rw [List.getElem?_reverse (by simpa using Jbd hd'), <- iv.vd.length] at hd'
  exact Jav hd' e'▸r
noncomputable def Jio (a b c:Int):List D:=(List.range (Builtin.Range.rangeSize a b c).toNat).map fun i=>.int (a+(i:Nat)*c)
theorem Wkr.range {a b c:Int}(ht:Jnz tg) (hI:I∈av):Wkr prog w K av [I] h0 tg (.ref I) (Jio a b c) (fun i h=>IsRangeIter h I (a+(i:Nat)*c) (((Builtin.Range.rangeSize a b c).toNat:Int) - (i:Nat)) c) :=
 Wkr.walks ht (fun A hh=>Walks.range hh I a c _) hI (by rw [Jio,List.length_map,List.length_range]) (fun b hb hn=>absurd (List.mem_singleton.mp hb) hn) (fun i h st=>Jq5 st rfl rfl nofun (by decide)) fun i v d hv hd'=>by
  obtain ⟨t,rfl⟩:=hv
  rw [Jio,List.getElem?_map] at hd'
  obtain ⟨j,hj,rfl⟩:=Option.map_eq_some_iff.mp hd'
  rw [(List.getElem?_range (by simpa using Jbd hj))] at hj
  exact Option.some.inj hj▸.int _ t
noncomputable def Jee (x:Str):List D:=x.cps.toList.map fun c=>.str ⟨#[c]⟩
noncomputable def numbered (i:Nat):List D->List D
 | []=>[]
 | d::ds=>.tup [.int (i:Int),d]::numbered (i+1) ds
theorem Jd6:∀ (ds:List D) (i:Nat),(numbered i ds).length=ds.length
 | [],_=>rfl
 | d::ds,i=>congrArg (· + 1) (Jd6 ds (i+1))
theorem Jcb:∀ (ds:List D) (i k:Nat),(numbered i ds)[k]?=ds[k]?.map fun d=>.tup [.int ((i+k:Nat):Int),d]
 | [],i,k=>rfl
 | d::ds,i,0=>rfl
 | d::ds,i,k+1=>(Jcb ds (i+1) k).trans (by rw [Nat.add_right_comm]; rfl)
theorem Wkr.enum {es:List Expr}{k:Nat}{p:Pos}{e it:Addr}(he:e∈av) (hi:it∈av) (iv:Jcw av l vs ds h0) (hei:e≠it):Wkr prog w K av [e,it] h0 (.Tuple es k p) (.ref e) (numbered 0 ds) (fun i h=>(∃ old,IsEnum h e it i old)/\h.IsListIter it l i) where
 sub:=fun b hb=>(List.mem_cons.mp hb).elim (fun q=>q▸he) fun q=>List.mem_singleton.mp q▸hi
 frame:=fun i h h' st hk V V=>⟨st.1.imp fun V a=>hk e (.head _) _ a,st.2.at fun o eo=>hk it (.tail _ (.head _)) o eo⟩
 obj:=fun i h st b hb=>(List.mem_cons.mp hb).elim (fun q=>st.1.elim fun V a=>q▸Jca a rfl nofun nofun) fun q=>let ⟨_,eo,hc,hd⟩:=st.2; List.mem_singleton.mp q▸Jca eo hd (by rw [hc]; nofun) nofun
 item:=fun A i d s Z hh hZ hZs hlt hd st k=>by
  obtain ⟨⟨old,a1⟩,a2⟩:=st
  rw [Jcb] at hd
  obtain ⟨d',hd',rfl⟩:=Option.map_eq_some_iff.mp hd
  obtain ⟨v,hv,rv⟩:=iv.vd.get' i d' hd'
  refine wpAny_pyNext_enum_item a1 a2 (iv.isl k) (x:=v) (by simpa using hv) hei fun h' b1 b2 b3 b4 b5=>⟨wpAny_letOwnedTupleGo_enum b1 fun h'' c1 c2=>?_⟩
  have hse:s.heap.objs.size≠e:=fun q=>nos (Ja8 s.heap) (q▸a1)
  have on:Jmk [e,it] s { s with heap:=h'',toks:=s.toks+1 }:=⟨rfl,rfl,rfl,fun b o n eo=>(c2.2 b (fun q=>n (q▸.head _))).trans (b5 b o (fun q=>n (q▸.head _)) (fun q=>n (q▸.tail _ (.head _))) eo)⟩
  have ks:=k.trans (on.seq (av:=av) fun b hb=>(List.mem_cons.mp hb).elim (fun q=>q▸he) fun q=>List.mem_singleton.mp q▸hi)
  refine ⟨.tup (vs:=[.int i s.toks,v]) (n:=0) (fun q=>hZs _ q (Ja8 _)) ((c2.2 _ hse).trans b3) (.cons ?_ (.cons (rv.toZ ks hZ) .nil)),⟨⟨_,by simpa using c1⟩,b2.at fun o eo=>(c2.2 it (Ne.symm hei)).trans eo⟩,on⟩
  rw [Nat.zero_add]
  exact .int _ _
 done:=fun A s hh st k=>by
  obtain ⟨⟨old,a1⟩,a2⟩:=st
  rw [Jd6, <- iv.vd.length] at a1 a2
  exact wpAny_pyNext_enum_end hh a1 a2 (iv.isl k) (by simp) fun h' hk=>⟨rfl,rfl,rfl,rfl,fun b o n eo=>hk b o (fun q=>n (q▸.tail _ (.head _))) eo⟩
 self:=fun A i s Q hh st hQ=>st.1.elim fun V a1=>wpAny_pyIter_enum a1 hQ
end
end
section
noncomputable def JB1 (as bs:List D):List D:=List.zipWith (fun a b=>D.tup [a,b]) as bs
section
variable {h:Heap}
theorem Jm0 {t:Addr}{a b:Value}(st:IsPair h t a b):ItO False h t:=⟨_,st,⟨⟨fun us q t hu=>(Jbe tgB hu rfl).elim,fun ps q=>Jbe tgO q rfl⟩,fun v q=>Jbe tgB q rfl,fun es ep q=>Jbe tgB q rfl⟩,fun vs n q=>Jbe tgO q rfl,False.elim⟩
theorem JGv {P:Addr->Prop}{a b c d e:Addr}(h1:P a) (h2:P b) (h3:P c) (h4:P d) (h5:P e):∀ x∈[a,b,c,d,e],P x :=
 List.forall_mem_cons.mpr ⟨h1,List.forall_mem_cons.mpr ⟨h2,List.forall_mem_cons.mpr ⟨h3,List.forall_mem_cons.mpr ⟨h4,fun V hx=>List.mem_singleton.mp hx▸h5⟩⟩⟩⟩
end
section
variable (prog:Program) (w:World) (g:Heap) (T:Ja3) (K:Prop)
inductive JE2 (av fp:List Addr) (h:Heap) (tg:Expr) (it:Value) (ds:List D):Prop
 | mk (St:List D->Heap->Prop) (I:Itr prog w K av fp h tg it St) (st:St ds h)
inductive ItV (av:List Addr) (tg:Expr) (ds:List D) (s:Shared) (it:Value) (s2:Shared):Prop
 | mk (x:Ext g T s s2) (fp:List Addr) (hn:∀ b∈fp,s.heap.get? b=none) (hi:∀ ex,(∀ b∈ex,s2.heap.get? b=none)->JE2 prog w K (fp++(ex++av)) fp s2.heap tg it ds)
noncomputable def EvK (n:Nat) (sc:Scope) (σ:Sto) (tg e:Expr) (ds:List D):Prop :=
 ∀ (A:Around) (s:Shared) (av:List Addr) (env:Env),env.scope=sc->Rm n A->GK g T s->EC av env σ s.heap->wpAny (model prog w) A (eval e env) (fun x sA=>wpAny (model prog w) A (pyIter x) (ItV prog w g T K av tg ds s) NoE sA) NoE s
end
noncomputable abbrev EvI (prog:Program) (w:World) (g:Heap) (T:Ja3):=EvK prog w g T False
noncomputable abbrev EvF (prog:Program) (w:World) (g:Heap) (T:Ja3):=EvK prog w g T True
section
variable {prog:Program}{w:World}{A:Around}{g:Heap}{T:Ja3}{s s' sA s2:Shared}{av fp:List Addr}{n:Nat}{sc:Scope}{σ:Sto}{tg e:Expr}{it:Value}{ds:List D}{h h':Heap}{b:Addr}{K:Prop}
theorem Jcl {x:Option Obj}(h:∀ o,x=some o->False):x=Option.none:=by
 cases x with
 | none=>rfl
 | some o=>exact (h o rfl).elim
theorem GK.new (q:GK g T s) (h:s.heap.get? b=none):g.get? b=none:=Jcl fun o e=>nos h (q.keep b o e)
theorem Ext.none (x:Ext g T s s') (q:GK g T s) (h:s'.heap.get? b=Option.none):s.heap.get? b=Option.none:=Jcl fun o e=>nos h (x.keep b o e fun p hp z=>by
 obtain ⟨ps,e',_⟩:=(x.gk q).tabs p hp
 exact nos h (z▸e'))
theorem Jcw.mk' {av zs:List Addr}{l:Addr}{vs:List Value}{k:Nat}(ha:l∉av) (hz:∀ b∈zs,h.get? b=Option.none\/b∈av) (ho:h.get? l=some (Jb0 vs k)) (hd:VDs av h vs ds) (hk:∀ b o,h.get? b=some o->h'.get? b=some o):Jcw zs l vs ds h' :=
 ⟨fun q=>(hz l q).elim (fun q=>nos q ho) ha,⟨k,hk _ _ ho⟩,hd.mono (fun b o e V V=>hk b o e) fun b o e V nb q=>(hz b q).elim (fun q=>nos q e) nb⟩
theorem ItV.wk (x:Ext g T s sA) (y:Ext g T sA s2) (hg:GK g T s) (hk:∀ b o,sA.heap.get? b=some o->s2.heap.get? b=some o) (f:∀ b∈fp,sA.heap.get? b=Option.none)
  (W:∀ zs,(∀ b∈fp,b∈zs)->(∀ b∈zs,sA.heap.get? b=Option.none\/b∈av)->∃ J,Wkr prog w K zs fp s2.heap tg it ds J/\J 0 s2.heap):ItV prog w g T K av tg ds s it s2 :=
 ⟨x.trans y,fp,fun b hb=>x.none hg (f b hb),fun ex hx=>by
  obtain ⟨J,W,j⟩:=W (fp++(ex++av)) (fun b=>List.mem_append_left _) fun b hb=>by
   rcases List.mem_append.mp hb with q | q
   ·exact .inl (f b q)
   ·exact (List.mem_append.mp q).imp (fun q=>Jcl fun o e=>nos (hx b q) (hk b o e)) id
  exact ⟨_,W.itr,⟨0,rfl,Nat.zero_le _,j,.refl⟩⟩⟩
theorem f1 (s:Shared):∀ b∈[s.heap.objs.size],s.heap.get? b=Option.none:=fun b hb=>by rw [List.mem_singleton.mp hb]; exact Ja8 _
theorem EvI.list (h:Ev prog w g T n sc σ e (.lst ds)) (ht:Jnz tg:=by first | exact .name | exact .tup):EvK prog w g T K n sc σ tg e ds:=fun A s av env he rm hg hc=>by
 refine Ja0 (h A s av env he rm hg hc) fun v sA h₁=>?_
 cases VD.i8 h₁.2 with | mk na eo r =>
 exact wpAny_pyIter_list ⟨_,eo,rfl,_,rfl⟩ (.wk h₁.1 (.push _) hg (Jae _ _) (f1 _) fun zs hf hz=>⟨_,Wkr.list ht (hf _ (.head _)) (.mk' na hz eo r (Jae _ _)),⟨_,Heap.get?_push_size _ rfl,rfl,rfl⟩,_,Heap.get?_push_of_some _ eo,rfl,_,rfl⟩)
end
end
section
section
variable {prog:Program}{w:World}{A:Around}{g:Heap}{T:Ja3}{s s':Shared}{av:List Addr}{n:Nat}{sc:Scope}{σ:Sto}{tg e eA eB eC:Expr}{ds:List D}{f:Str}{p pos p':Pos}{es es':List Expr}{k':Nat}{i j k a b c:Int}{K:Prop}
noncomputable abbrev Jlc (e:Expr):Prop:=∀ es env,starEach (e::es) env=(false,eval e env)::starEach es env
theorem Jch {t:String}{env:Env}{Q:Value->Shared->Prop}(hx:sc.names.lookup f=some .globalImplicit) (hgl:Glb g f (.type t)) (ha:EvL prog w g T n sc σ (e::es) ds) (he:env.scope=sc) (rm:Rm n A) (hg:GK g T s) (hc:EC av env σ s.heap)
  (h:∀ vs sA,Ext g T s sA->VDs av sA.heap vs ds->wpAny (model prog w) A (call (.type t) vs) Q NoE sA):wpAny (model prog w) A (eval (.Call (.Name f p) (e::es) [] pos) env) Q NoE s :=
 wpAny_Call_NameR (Jbk hc.kind hc.glob hc.blt (by rw [Env.kindOf,he]; exact hx) hg.keep hgl (PyProof.Rows.callWith_type1 (Ja0 (ha.run A s av env pos he rm hg hc) fun vs sA h₁=>h vs sA h₁.1 h₁.2) (ha.plain.1 _) ha.plain.2.any))
noncomputable def Jju (i:Int):Bool:=decide (-(2 ^ 60)<=i)&&decide (i<=2 ^ 60)
theorem Jar:Jju i=true ↔ -(2 ^ 60)<=i/\i<=2 ^ 60:=by rw [Jju,Bool.and_eq_true,decide_eq_true_eq,decide_eq_true_eq]
theorem Jp1 (x c:Int) (hx:0<=x) (hc:0<c) (hm:x<=2 ^ 61):0<=x / c+1/\x / c+1<=2 ^ 62:=by
 have h1:=Int.ediv_nonneg hx (Int.le_of_lt hc)
 have h2:=Int.ediv_le_self c hx
 lia
theorem Jhc (a b c:Int) (h0:c≠0) (h:a - b<=2 ^ 61/\b - a<=2 ^ 61):0<=Builtin.Range.rangeSize a b c/\Builtin.Range.rangeSize a b c<=2 ^ 62:=by
 unfold Builtin.Range.rangeSize
 split
 ·split
  ·next h1 h2=>exact Jp1 _ _ (by lia) h1 (by lia)
  ·decide
 ·split
  ·next h1 h2=>exact Jp1 _ _ (by lia) (by lia) (by lia)
  ·decide
theorem Jka (ha:Jju a=true) (hb:Jju b=true) (hc:Jju c=true) (h0:c≠0):Builtin.Range.small a b c=true/\0<=Builtin.Range.rangeSize a b c:=by
 have ha:=Jar.mp ha
 have hb:=Jar.mp hb
 have hc:=Jar.mp hc
 have hz:=Jhc a b c h0 (by lia)
 refine ⟨?_,hz.1⟩
 simp only [Builtin.Range.small,Builtin.Range.rangeFitsLong,Bool.and_eq_true,Bool.or_eq_true,decide_eq_true_eq]
 refine ⟨⟨⟨⟨?_,?_⟩,?_⟩,?_⟩,.inr ?_⟩
 all_goals first
  | (constructor <;> lia)
  | lia
  | (split <;> simp only [Bool.and_eq_true,decide_eq_true_eq] <;> (constructor <;> lia))
theorem Jc1 {r:Addr}{t u v:Tok}(h0:c≠0) (ma:Jju a=true) (mb:Jju b=true) (mc:Jju c=true) (x:Ext g T s s') (hg:GK g T s) (ht:Jnz tg) (hr:IsRange s'.heap r a b c t u v):wpAny (model prog w) A (pyIter (.ref r)) (ItV prog w g T K av tg (Jio a b c) s) NoE s':=by
 have hm:=Jka ma mb mc h0
 refine wpAny_pyIter_range hr hm.1 (.wk x (.push _) hg (Jae _ _) (f1 _) fun zs hf hz=>⟨_,Wkr.range ht (hf _ (.head _)),?_⟩)
 rw [Int.toNat_of_nonneg hm.2,Int.natCast_zero,Int.zero_mul,Int.add_zero,Int.sub_zero]
 exact Heap.get?_push_size _ rfl
theorem EvI.range1 (hx:sc.names.lookup f=some .globalImplicit) (hgl:Glb g f (.type "range")) (hs:Jlc e) (he:Ev prog w g T n sc σ e (.int i)) (hm:Jju i=true) (ht:Jnz tg:=by first | exact .name | exact .tup):EvK prog w g T K n sc σ tg (.Call (.Name f p) [e] [] pos) (Jio 0 i 1):=fun A s av env hev rm hg hc=>
 Jch hx hgl (.more (hs _) he .nil) hev rm hg hc fun vs sA xA r1=>by
  cases r1.i1 with | mk a r=>cases r.i0; obtain ⟨_,rfl⟩:=VD.i4 a; exact call_range_1 (Jc1 (by decide) (by decide) hm (by decide) (xA.trans (.of _ _ (Jae _ _))) hg ht (Heap.get?_push_size _ rfl))
theorem EvI.range2 (hx:sc.names.lookup f=some .globalImplicit) (hgl:Glb g f (.type "range")) (hs:Jlc eA) (hsB:Jlc eB) (he:Ev prog w g T n sc σ eA (.int i)) (he2:Ev prog w g T n sc σ eB (.int j)) (hm:Jju i=true) (hm2:Jju j=true) (ht:Jnz tg:=by first | exact .name | exact .tup) :
  EvI prog w g T n sc σ tg (.Call (.Name f p) [eA,eB] [] pos) (Jio i j 1):=fun A s av env hev rm hg hc=>
 Jch hx hgl (.more (hs _) he (.more (hsB _) he2 .nil)) hev rm hg hc fun vs sA xA r1=>by
  cases r1.i1 with | mk a r=>cases r.i1 with | mk b r2=>cases r2.i0; obtain ⟨_,rfl⟩:=VD.i4 a; obtain ⟨_,rfl⟩:=VD.i4 b; exact call_range_2 (Jc1 (by decide) hm hm2 (by decide) (xA.trans (.of _ _ (Jae _ _))) hg ht (Heap.get?_push_size _ rfl))
theorem EvI.range3 (hx:sc.names.lookup f=some .globalImplicit) (hgl:Glb g f (.type "range")) (hs:Jlc eA) (hsB:Jlc eB) (hsC:Jlc eC) (he:Ev prog w g T n sc σ eA (.int i)) (he2:Ev prog w g T n sc σ eB (.int j)) (he3:Ev prog w g T n sc σ eC (.int k)) (hm:Jju i=true) (hm2:Jju j=true) (hm3:Jju k=true) (h0:k≠0)
  (ht:Jnz tg:=by first | exact .name | exact .tup):EvK prog w g T K n sc σ tg (.Call (.Name f p) [eA,eB,eC] [] pos) (Jio i j k):=fun A s av env hev rm hg hc=>
 Jch hx hgl (.more (hs _) he (.more (hsB _) he2 (.more (hsC _) he3 .nil))) hev rm hg hc fun vs sA xA r1=>by
  cases r1.i1 with | mk a r=>cases r.i1 with | mk b r2=>cases r2.i1 with | mk c r3 =>
  cases r3.i0; obtain ⟨_,rfl⟩:=VD.i4 a; obtain ⟨_,rfl⟩:=VD.i4 b; obtain ⟨_,rfl⟩:=VD.i4 c
  have:=Jar.mp hm3
  exact call_range_3 h0 (Jc1 h0 hm hm2 hm3 (xA.trans (.of _ _ (Jae _ _))) hg ht (Heap.get?_push_size _ rfl)) (.inl (Bool.not_eq_true _▸Jfn (a:=j - i) (decide_eq_true (Nat.lt_of_le_of_lt (show k.natAbs<=2 ^ 60 by omega) (by decide)))))
theorem EvI.rev (hx:sc.names.lookup f=some .globalImplicit) (hgl:Glb g f (.type "reversed")) (hs:Jlc e) (he:Ev prog w g T n sc σ e (.lst ds)) (ht:Jnz tg:=by first | exact .name | exact .tup):EvK prog w g T K n sc σ tg (.Call (.Name f p) [e] [] pos) ds.reverse:=fun A s av env hev rm hg hc=>
 Jch hx hgl (.more (hs _) he .nil) hev rm hg hc fun vs sA xA r1=>by
  cases r1.i1 with | mk a r=>cases r.i0; cases VD.i8 a with | mk na eo ra =>
  refine call_reversed_list ⟨_,eo,rfl,_,rfl⟩ (wpAny_pyIter_revIter ⟨_,Heap.get?_push_size _ rfl,rfl,rfl⟩ (.wk xA (.push _) hg (Jae _ _) (f1 _) fun zs hf hz=>⟨_,Wkr.listRev ht (hf _ (.head _)) (.mk' na hz eo ra (Jae _ _)),Nat.zero_le _,?_,_,Heap.get?_push_of_some _ eo,rfl,_,rfl⟩))
  rw [Int.natCast_zero,Int.sub_zero]
  exact ⟨_,Heap.get?_push_size _ rfl,rfl,rfl⟩
theorem Jcn (s:Shared) (j:Nat):s.heap.get? (s.heap.objs.size+j)=none:=Jcl fun o e=>absurd (Heap.lt_size e) (Nat.not_lt.mpr (Nat.le_add_right _ _))
theorem EvI.enum (hx:sc.names.lookup f=some .globalImplicit) (hgl:Glb g f (.type "enumerate")) (hs:Jlc e) (he:Ev prog w g T n sc σ e (.lst ds)):EvK prog w g T K n sc σ (.Tuple es' k' p') (.Call (.Name f p) [e] [] pos) (numbered 0 ds):=fun A s av env hev rm hg hc=>
 Jch hx hgl (.more (hs _) he .nil) hev rm hg hc fun vs sA xA r1=>by
  cases r1.i1 with | mk a r=>cases r.i0; cases VD.i8 a with | mk na eo ra =>
  exact call_enumerate_list ⟨_,eo,rfl,_,rfl⟩ fun h' a1 a2 a3 a4=>wpAny_pyIter_enum a1 (.wk (fp:=[sA.heap.objs.size+1,sA.heap.objs.size]) xA (.of h' _ a4) hg a4 (fun b hb=>(List.mem_cons.mp hb).elim (fun q=>q▸Jcn sA 1) fun q=>List.mem_singleton.mp q▸Jcn sA 0)
   fun zs hf hz=>⟨_,Wkr.enum (hf _ (.head _)) (hf _ (.tail _ (.head _))) (.mk' na hz eo ra a4) (Nat.ne_of_gt (Nat.lt_succ_self _)),⟨_,a1⟩,a2⟩)
end
end
section
theorem Jb2:∀ (names:List (Str×NameKind)) (n:Nat) (acc:List (Str×Addr)),cellsFrom n names acc=cellsFrom n names []++acc
 | [],_,_=>rfl
 | (x,k)::r,n,acc=>by
  unfold cellsFrom
  split
  ·rw [Jb2 r (n+1) ((x,n)::acc),Jb2 r (n+1) [(x,n)],List.append_assoc]; rfl
  ·exact Jb2 r n acc
theorem Jbq:∀ (names:List (Str×NameKind)) (n:Nat) (acc:List (Str×Addr)) (x:Str),((cellsFrom n names acc).lookup x).isSome=true↔(x,NameKind.cell)∈names\/(acc.lookup x).isSome=true
 | [],n,acc,x=>by simp [cellsFrom]
 | (y,k)::r,n,acc,x=>by
  unfold cellsFrom
  split
  ·rename_i hk
   have hk':k=.cell:=by simpa using hk
   subst hk'
   rw [Jbq r (n+1) _ x,List.lookup_cons]
   by_cases q:x=y
   ·subst q; simp
   ·have:(x==y)=false:=by simpa using q
    rw [this]
    simp [q]
  ·rename_i hk
   have hk':k≠.cell:=by simpa using hk
   rw [Jbq r n acc x]
   simp [Ne.symm hk']
theorem Jhm {α:Type}(l r:List (Str×α)) (x:Str):(l++r).lookup x=(l.lookup x).or (r.lookup x):=by
 induction l with
 | nil=>simp
 | cons p l ih =>
  obtain ⟨y,a⟩:=p
  rw [List.cons_append,List.lookup_cons,List.lookup_cons,ih]
  cases x==y <;> simp
noncomputable def Jco (b:Bool):Obj:={ cls:=.type (if b then "dict" else "frame"),data:=.dict #[] }
noncomputable def Jcc (names:List (Str×NameKind)) (b:Bool) (h:Heap):Heap:=pushCells (h.push (Jco b)) names
section
variable {M:Model}{A:Around}{E:Value->Shared->Prop}{s:Shared}
theorem Je3 {scope:Scope}{globals:Addr}{closure:List (Str×Addr)}{binds:List (Str×Value)}{qual:Str}{func:Option Addr}{code:Value}{around:Option Env}{builtins:Addr}{Q:Env->Shared->Prop}
  (h:∀ env,env=newEnv scope s.heap.objs.size globals (cellsFrom (s.heap.objs.size+1) scope.names closure) qual func code around builtins ->
   wpAny M A (forIn binds PUnit.unit (fun x V=>do storeName env x.1 x.2; pure (ForInStep.yield PUnit.unit))) (fun V s'=>Q env s') E { s with heap:=Jcc scope.names around.isSome s.heap }) :
  wpAny M A (newFunctionEnv scope globals closure binds qual func code around builtins) Q E s:=by
 have hz:(s.heap.push (Jco around.isSome)).objs.size=s.heap.objs.size+1:=Heap.size_push ..
 cases around with
 | none =>
  simp only [newFunctionEnv,Option.isSome_none,Bool.false_eq_true,if_false]
  refine wpAny_bind (wpAny_alloc ?_)
  refine wpAny_bind (wpAny_layCells _ (fun name kind cells=>by cases hkc:kind==NameKind.cell <;> simp [hkc]) _ _ _ _ ?_)
  have:=h _ rfl
  refine wpAny_bind (wpAny_mono (Q:=fun V s'=>Q (newEnv scope s.heap.objs.size globals (cellsFrom (s.heap.push (Jco false)).objs.size scope.names closure) qual func code none builtins) s') ?_ (fun V s' q=>wpAny_pure q) fun V V e=>e)
  ·simp only [Option.isSome_none,Option.isSome_some] at hz this; rw [<- hz] at this; exact this
 | some outer =>
  simp only [newFunctionEnv,Option.isSome_some,if_true]
  refine wpAny_bind (wpAny_alloc ?_)
  refine wpAny_bind (wpAny_layCells _ (fun name kind cells=>by cases hkc:kind==NameKind.cell <;> simp [hkc]) _ _ _ _ ?_)
  have:=h _ rfl
  refine wpAny_bind (wpAny_mono (Q:=fun V s'=>Q (newEnv scope s.heap.objs.size globals (cellsFrom (s.heap.push (Jco true)).objs.size scope.names closure) qual func code (some outer) builtins) s') ?_ (fun V s' q=>wpAny_pure q) fun V V e=>e)
  ·simp only [Option.isSome_none,Option.isSome_some] at hz this; rw [<- hz] at this; exact this
end
noncomputable def Ja1 (names:List (Str×NameKind)):List Str:=names.filterMap fun p=>if p.2==.cell then some p.1 else none
theorem Jau {names:List (Str×NameKind)}{x:Str}:x∈Ja1 names↔(x,NameKind.cell)∈names:=by
 refine List.mem_filterMap.trans ⟨fun ⟨p,hm,h⟩=>?_,fun h=>⟨_,h,rfl⟩⟩
 by_cases hk:(p.2==NameKind.cell)=true
 ·rw [if_pos hk] at h; exact Option.some.inj h▸eq_of_beq hk▸hm
 ·rw [if_neg hk] at h; exact (Jbe tgN h rfl).elim
structure Jeg (names:List (Str×NameKind)) (closure:List (Str×Addr)) (h:Heap) (env:Env):Prop where
 kind:env.scope.kind=.function
 glob:env.globals=mainGlobals
 blt:env.builtins=builtinsNs
 locals:env.locals=h.objs.size
 cells:env.cells=cellsFrom (h.objs.size+1) names closure
theorem Jti {α:Type}{x:Option α}(h:∀ o,x=some o->False):x=none:=by
 cases x with
 | none=>rfl
 | some o=>exact (h o rfl).elim
inductive JGg (env:Env) (names:List (Str×NameKind)) (closure:List (Str×Addr)) (av:List Addr) (h:Heap) (x:Str):Sl->Prop
 | mk (d:D) (c:Addr) (v:Value) (ok:Jay x=true) (k:env.kindOf x=some .cell\/env.kindOf x=some .free) (nc:(x,NameKind.cell)∉names) (e:closure.lookup x=some c) (i:h.IsCell c (some v)) (r:VD av h v d):JGg env names closure av h x (.val d)
structure JAy (g:Heap) (T:Ja3) (av:List Addr) (ow:Ow) (env:Env) (σ:Sto) (s s':Shared):Prop where
 F:Fm g T av ow env σ s'
 x:Ext g T s s'
 w:∀ c,Wr env ow c->s.heap.get? c=none
section
variable {g:Heap}{T:Ja3}{s:Shared}{av:List Addr}{names:List (Str×NameKind)}{closure:List (Str×Addr)}{env:Env}{b:Bool}{σ:Sto}{h:Heap}{x y:Str}{c:Addr}
theorem Jd9:∀ c o,h.get? c=some o->(Jcc names b h).get? c=some o:=fun c o e=>pushCells_keeps _ _ c o (Heap.get?_push_of_some _ e)
theorem Jds (hc:h.objs.size<=c):h.get? c=none:=Jcl fun o e=>absurd (Heap.lt_size e) (Nat.not_lt.mpr hc)
section
variable (N:Jeg names closure h env)
include N
theorem Jeg.cell (x:Str):env.cells.lookup x=((cellsFrom (h.objs.size+1) names []).lookup x).or (closure.lookup x):=by rw [N.cells,Jb2,Jhm]
theorem Jeg.own (hm:(x,NameKind.cell)∈names):∃ c,(cellsFrom (h.objs.size+1) names []).lookup x=some c/\env.cells.lookup x=some c :=
 (Option.isSome_iff_exists.mp ((Jbq names (h.objs.size+1) [] x).mpr (.inl hm))).imp fun c hc=>⟨hc,by rw [N.cell,hc]; rfl⟩
theorem Jeg.out (hm:(x,NameKind.cell)∉names):env.cells.lookup x=closure.lookup x:=by
 rw [N.cell,show (cellsFrom (h.objs.size+1) names []).lookup x=none from (Jti fun c e=>hm (((Jbq names (h.objs.size+1) [] x).mp (by rw [e]; rfl)).resolve_right (by simp)))]; rfl
end
theorem Jup (names:List (Str×NameKind)) (b:Bool) (h:Heap):CellsOk (pushCells (h.push (Jco b)) names) (h.objs.size+1) (cellsFrom (h.objs.size+1) names []):=by
 have hz:(h.push (Jco b)).objs.size=h.objs.size+1:=Heap.size_push ..
 have ok:=cellsFrom_ok names (h.push (Jco b)) (h.objs.size+1) [] ⟨fun V V hm=>(nomatch hm),List.Pairwise.nil⟩ (by rw [hz]; exact Nat.le_refl _)
 rwa [hz] at ok
theorem Fm.fresh {tk:Nat}(N:Jeg names closure s.heap env) (hg:GK g T s) (hav:Jdk av s.heap) (hce:∀ x c,closure.lookup x=some c->∃ v,s.heap.IsCell c v)
  (hkind:∀ x,env.kindOf x=some .cell\/env.kindOf x=some .free->(x,NameKind.cell)∈names\/(closure.lookup x).isSome=true) (hσ:∀ x sl,σ.lookup x=some sl->JGg env names closure av s.heap x sl) :
  JAy g T av ⟨[],Ja1 names⟩ env σ s { s with heap:=Jcc names b s.heap,toks:=tk }:=by
 have hx:Ext g T s { s with heap:=Jcc names b s.heap,toks:=tk }:=.of _ _ Jd9
 have ok:=Jup names b s.heap
 have own:=fun {x} hm=>N.own (x:=x) hm
 have hwr:∀ c,Wr env ⟨[],Ja1 names⟩ c->s.heap.get? c=none:=by
  rintro c (q | ⟨x,hm,_,e⟩ | hb)
  ·exact Jds (q▸N.locals▸Nat.le_refl _)
  ·obtain ⟨c',h1,h2⟩:=own (Jau.mp hm)
   cases Jav h2 e
   exact Jds (Nat.le_of_succ_le (ok.empty x _ (mem_of_lookup h1)).2)
  ·cases hb
 refine ⟨⟨hx.gk hg,⟨N.kind,N.glob,N.blt,hav.ext hx hg,fun x sl e=>?_,fun x hk=>?_⟩,⟨_,N.locals▸(Heap.Ns.new s.heap (.type (if b then "dict" else "frame"))).keeps (pushCells_keeps names _)⟩,fun x c hm hk e=>?_,fun x y c hm e1 e2=>?_,fun c hc=>hg.new (hwr c hc),
  fun x ds e=>(nomatch hσ x _ e),List.nodup_nil,fun a ha=>(nomatch ha),fun a ha=>(nomatch ha)⟩,hx,hwr⟩
 ·cases hσ x sl e with | mk d c v o k nc hc hv hd=>exact ⟨v,.cel o k c ((N.out nc).trans hc) (hx.cell hg hv),hx.vd hg hd⟩
 ·by_cases hm:(x,NameKind.cell)∈names
  ·obtain ⟨c,h1,h2⟩:=own hm
   exact ⟨c,h2,_,(ok.empty x _ (mem_of_lookup h1)).1⟩
  ·obtain ⟨c,hc⟩:=Option.isSome_iff_exists.mp ((hkind x hk).resolve_left hm)
   exact ⟨c,(N.out hm).trans hc,(hce x c hc).imp fun V=>hx.cell hg⟩
 ·obtain ⟨c',h1,h2⟩:=own (Jau.mp hm)
  exact ⟨_,Jav h2 e▸(ok.empty x _ (mem_of_lookup h1)).1⟩
 ·obtain ⟨c1,h1,h1'⟩:=own (Jau.mp hm)
  cases Jav h1' e1
  rw [N.cell] at e2
  cases h2:(cellsFrom (s.heap.objs.size+1) names []).lookup y with
  | some c2 =>
   rw [h2] at e2
   cases Option.some.inj e2
   exact name_of_addr ok.apart (mem_of_lookup h1) (mem_of_lookup h2)
  | none =>
   rw [h2] at e2
   obtain ⟨v,o,e,_⟩:=hce y _ e2
   exact absurd (Heap.lt_size e) (Nat.not_lt.mpr (Nat.le_of_succ_le (ok.empty x _ (mem_of_lookup h1)).2))
end
end
section
noncomputable abbrev Jez (e:Expr):Prop:=∀ (env:Env) (x:Value),foldedSetIterable e env x=pure x
section
variable (prog:Program) (w:World) (g:Heap) (T:Ja3)
noncomputable def Jge (n:Nat) (sc:Scope) (σ:Sto) (cs:List Expr) (b:Bool):Prop :=
 ∀ (A:Around) (s:Shared) (av:List Addr) (env:Env),env.scope=sc->Rm n A->GK g T s->EC av env σ s.heap ->
  wpAny (model prog w) A (forIn cs true fun c r=>if r=true then do let ok <- isTrue c env (eval c env); pure (ForInStep.yield ok) else pure (ForInStep.yield r)) (fun ok s'=>ok=b/\Ext g T s s') NoE s
end
theorem Jdo:∀ (b:Bd) (σ:Sto) (x:Str),(∀ p∈b,p.1≠x)->(Ja4 b σ).lookup x=σ.lookup x
 | [],_,_,_=>rfl
 | (y,d)::r,σ,x,h=>by
  rw [Ja4,Jdo r _ x fun p hp=>h p (.tail _ hp),Ja6,if_neg fun q=>h _ (.head _) q.symm]
theorem Jew {b:Bd}{σ:Sto}(h:∀ p∈b,σ.lookup p.1=none) (x:Str) (sl:Sl) (e:σ.lookup x=some sl):(Ja4 b σ).lookup x=some sl:=by
 rw [Jdo b σ x fun p hp q=>nos (h p hp) (q▸e)]; exact e
section
variable {prog:Program}{w:World}{g:Heap}{T:Ja3}{s:Shared}{av:List Addr}{env:Env}{σ:Sto}{n:Nat}{sc:Scope}{A:Around}
theorem Jj5 (env:Env):∀ cs:List Expr,(forIn cs false fun c r=>if r=true then do let ok <- isTrue c env (eval c env); pure (ForInStep.yield ok) else pure (ForInStep.yield r):Sem Bool)=pure false
 | []=>rfl
 | c::cs=>by
  rw [List.forIn_cons,if_neg (by simp)]
  exact Jj5 env cs
theorem Jge.nil:Jge prog w g T n sc σ [] true:=fun V V V V V V V V=>wpAny_pure ⟨rfl,.refl⟩
theorem Jge.yes {c:Expr}{cs:List Expr}{b:Bool}(h:EvT prog w g T n sc σ c true) (hs:Jge prog w g T n sc σ cs b):Jge prog w g T n sc σ (c::cs) b:=fun A s av env he rm hg hc=>by
 rw [List.forIn_cons,if_pos rfl]
 refine wpAny_bind (wpAny_bind (Ja0 (h A s av env he rm hg hc) fun ok sA h₁=>wpAny_pure ?_))
 rw [h₁.1]
 exact Ja0 (hs A sA av env he rm (h₁.2.gk hg) (hc.ext h₁.2 hg)) fun ok s2 h₂=>⟨h₂.1,h₁.2.trans h₂.2⟩
theorem Jge.no {c:Expr}{cs:List Expr}(h:EvT prog w g T n sc σ c false):Jge prog w g T n sc σ (c::cs) false:=fun A s av env he rm hg hc=>by
 rw [List.forIn_cons,if_pos rfl]
 refine wpAny_bind (wpAny_bind (Ja0 (h A s av env he rm hg hc) fun ok sA h₁=>wpAny_pure ?_))
 rw [h₁.1]
 show wpAny _ _ (forIn cs false _) _ _ _
 rw [Jj5]
 exact wpAny_pure ⟨rfl,h₁.2⟩
inductive Jc0 (av:List Addr) (P:Addr) (outs:List D) (h:Heap):Prop
 | mk (ys:Array Value) (p:h.PlainList P ys) (r:VDs av h ys.toList outs)
noncomputable def JHf (env:Env) (ow:Ow) (P:Addr) (b:Addr):Prop:=Wr env ow b\/b=P
theorem Jhz {elt:Expr}{gens:List Comprehension}{scope:Scope}{pos:Pos}{depth:Nat}{it acc:Value}{c:Comprehension}(hc:gens[depth]?=some c) (ha:c.is_async=0) (hn:gens[depth+1]?=none) :
  compTurn (.ListComp elt gens scope pos) depth it acc env=(do
   standAt c.iter.pos
   match <- pyNext it with
   | none=>pure (.done .next)
   | some v =>
    letOwnedTupleGo c.target it v
    assign c.target env v
    let ok <- (forIn c.ifs true fun c r=>if r=true then do let ok <- isTrue c env (eval c env); pure (ForInStep.yield ok) else pure (ForInStep.yield r):Sem Bool)
    if ok=true then do
     (do let x <- eval elt env; let _ <- call (.builtin "list.append") [acc,x]; pure ())
     again (.compLoop (.ListComp elt gens scope pos) depth it acc env)
    else again (.compLoop (.ListComp elt gens scope pos) depth it acc env)):=by
 unfold compTurn
 simp only [hc,ha,hn,bne_self_eq_false,Bool.false_eq_true,if_false]; rfl
theorem Jhy {elt:Expr}{gens:List Comprehension}{scope:Scope}{pos:Pos}{depth:Nat}{it acc:Value}{c c':Comprehension}(hc:gens[depth]?=some c) (ha:c.is_async=0) (hn:gens[depth+1]?=some c') (ha':c'.is_async=0) :
  compTurn (.ListComp elt gens scope pos) depth it acc env=(do
   standAt c.iter.pos
   match <- pyNext it with
   | none=>pure (.done .next)
   | some v =>
    letOwnedTupleGo c.target it v
    assign c.target env v
    let ok <- (forIn c.ifs true fun c r=>if r=true then do let ok <- isTrue c env (eval c env); pure (ForInStep.yield ok) else pure (ForInStep.yield r):Sem Bool)
    if ok=true then do
      let x <- eval c'.iter env
      standAt c'.iter.pos
      let x <- foldedSetIterable c'.iter env x
      let i <- holding [x] (pyIter x)
      let _ <- runOwn (.compStart (.ListComp elt gens scope pos) (depth+1) i acc env) env
      again (.compLoop (.ListComp elt gens scope pos) depth it acc env)
    else again (.compLoop (.ListComp elt gens scope pos) depth it acc env)):=by
 unfold compTurn
 simp only [hc,ha,hn,ha',bne_self_eq_false,Bool.false_eq_true,if_false]; rfl
end
end
section
inductive JAv (h:Heap) (b:Addr):Prop
 | mk (o:Obj) (e:h.get? b=some o) (i:Jcx o)
structure JGd (g:Heap) (T:Ja3) (av:List Addr) (ow:Ow) (env:Env) (σ:Sto) (fp:List Addr) (s s':Shared):Prop where
 F:Fm g T av ow env σ s'
 m:Mv g T (fun b=>b∈fp) s s'
section
variable {prog:Program}{w:World}{g:Heap}{T:Ja3}{s s':Shared}{av av' fp:List Addr}{env:Env}{σ:Sto}{n:Nat}{A:Around}{ow:Ow}{on:List Str}{h:Heap}{b P:Addr}{o:Obj}{K:Prop}{outs:List D}
theorem ItO.wo (x:ItO K h b):JAv h b:=x.rec fun o e i V V=>⟨o,e,i⟩
theorem JAv.at (x:JAv h b) (e:h.get? b=some o):Jcx o:=x.rec fun V e' i=>Jav e' e▸i
theorem JBu (i:Jcx o) (e:h.get? b=some o) {v:Option Value}(c:h.IsCell b v):False:=let ⟨_,e',hd⟩:=c; (Jav e e'▸i).2.1 _ hd
theorem nns (i:Jcx o) (e:h.get? b=some o) {m:Str->Option Value}(c:h.Ns b m):False:=let ⟨_,_,_,e',hd,_⟩:=c; (Jav e e'▸i).2.2 _ _ hd
theorem Jh1 (F:Fm g T av ow env σ s) (nl:b∉ow.adr) (e:s.heap.get? b=some o) (i:Jcx o):¬ Wr env ow b:=by
 rintro (rfl | ⟨x,hm,k,hx⟩ | hb')
 ·exact F.ns.elim fun m n=>nns i e n
 ·exact (F.own x b hm k hx).elim fun v hv=>JBu i e hv
 ·exact nl hb'
theorem Fm.changed' (F:Fm g T av ow env σ s) (on:Jmk fp s s') (hg:∀ b∈fp,g.get? b=none) (hav:∀ b∈fp,b∈av) (hs:∀ a∈av',a∈av) (h1:∀ b∈fp,JAv s.heap b) (h2:∀ b∈fp,b∈av'->JAv s'.heap b):JGd g T av' ow env σ fp s s':=by
 have hss:∀ a∈ow.adr++av',a∈ow.adr++av:=fun a ha=>(List.mem_append.mp ha).elim (List.mem_append_left _) fun q=>List.mem_append_right _ (hs a q)
 have mv:Mv g T (fun b=>b∈fp) s s':=by
  have:=Mv.of (g:=g) (T:=T) (s:=s) (h':=s'.heap) (tk:=s'.toks) (W:=fun b=>b∈fp) (fun b o e n=>on.keep b o n e) fun b hb=>⟨hg b hb,fun o e=>((h1 b hb).at e).1⟩
  exact ⟨on.dr,on.os,this.keep,fun q=>let q:=this.gk q; ⟨q.keep,q.tabs,q.off,on.gn▸q.bare⟩⟩
 have kcell:∀ {c v},s.heap.IsCell c v->s'.heap.IsCell c v:=fun c=>Jbf c fun o e V=>on.get e fun hb=>JBu ((h1 _ hb).at e) e c
 have kns:∀ {L m},s.heap.Ns L m->s'.heap.Ns L m:=fun n=>Jfl n fun o e V=>on.get e fun hb=>nns ((h1 _ hb).at e) e n
 have kl:∀ {x v},Jat env s.heap x v->Jat env s'.heap x v:=fun l=>l.to kns fun V=>kcell
 have nout:∀ a∈ow.adr,a∉fp:=fun a ha hf=>F.apt a ha (hav a hf)
 have ks:Ja9 (ow.adr++av) s.heap s'.heap:=on.seq fun b hb=>List.mem_append_right _ (hav b hb)
 refine ⟨⟨mv.gk F.gk,⟨F.ec.kind,F.ec.glob,F.ec.blt,fun a ha=>?_,fun x sl e=>?_,fun x h=>(F.ec.cells x h).imp fun V p=>⟨p.1,p.2.imp fun V=>kcell⟩⟩,F.ns.imp fun V=>kns,fun x c hm k e=>(F.own x c hm k e).imp fun V=>kcell,F.inj,F.off,
  fun x ds e=>(F.reg x ds e).imp fun V p=>⟨p.1,kl p.2⟩,F.nd,fun a ha q=>F.apt a ha (hs a q),fun a ha=>(F.isl a ha).imp fun V=>Exists.imp fun V e=>on.get e (nout a ha)⟩,mv⟩
 ·by_cases hf:a∈fp
  ·exact (h2 a hf ((List.mem_append.mp ha).resolve_left fun q=>nout a q hf)).rec fun o e i=>⟨o,e,i.1.2⟩
  ·exact (F.ec.avok a (hss a ha)).imp fun o p=>⟨on.get p.1 hf,p.2⟩
 ·cases F.ec.vars x sl e with | mk v l r =>
  refine ⟨v,kl l,?_⟩
  cases sl with
  | val d=>exact VD.sub hss (VD.keep ks r)
  | own ds =>
   obtain ⟨a,hm,l'⟩:=F.reg x ds e
   cases r with | mk m e r =>
   cases l.uniq l'
   have hm:a∈ow.adr:=List.mem_map.mpr ⟨_,hm,rfl⟩
   exact ⟨List.mem_append_left _ hm,on.get e (nout _ hm),(r.keep ks).sub hss⟩
theorem Fm.changed (F:Fm g T av ow env σ s) (on:Jmk fp s s') (hg:∀ b∈fp,g.get? b=none) (hav:∀ b∈fp,b∈av) (h1:∀ b∈fp,JAv s.heap b) (h2:∀ b∈fp,JAv s'.heap b):JGd g T av ow env σ fp s s':=F.changed' on hg hav (fun V h=>h) h1 fun b hb V=>h2 b hb
theorem Jl6 (h:ow.l=[]):ow.adr=[]:=by rw [Ow.adr,h]; rfl
theorem Jkh (h:ow.l=[]):b∉ow.adr:=fun hm=>nomatch Jl6 h▸hm
theorem Fm.av0 (F:Fm g T av ow env σ s) (h:ow.l=[]):EC av env σ s.heap:=by have:=F.ec; rwa [Jl6 h,List.nil_append] at this
theorem Jc0.seq (x:Jc0 av P outs s.heap) (k:Ja9 av s.heap s'.heap) (hP:∀ vs n,s.heap.get? P=some (Jb0 vs n)->s'.heap.get? P=some (Jb0 vs n)):Jc0 av P outs s'.heap:=x.rec fun ys p r=>⟨ys,p.imp fun n e=>hP ys.toList n e,r.keep k⟩
theorem Jc0.ext (x:Jc0 av P outs s.heap) (e:Ext g T s s') (hg:GK g T s):Jc0 av P outs s'.heap:=x.seq (e.seq hg av) fun vs n h=>e.get' hg h (Jai _ _)
theorem Jc0.sub (x:Jc0 av P outs h) (hs:∀ a∈av',a∈av):Jc0 av' P outs h:=x.rec fun ys p r=>⟨ys,p,r.sub hs⟩
theorem Jc0.isl (x:Jc0 av P outs h):∃ vs n,h.get? P=some (Jb0 vs n):=x.rec fun ys p V=>⟨ys.toList,p⟩
theorem Jfo (vs:List Value) (n:Nat):Jcx (Jb0 vs n):=⟨Jf4 vs n,fun v h=>Jbe tgB h rfl,fun es ep h=>Jbe tgB h rfl⟩
theorem Ji0 {elt:Expr}{gens:List Comprehension}{scope:Scope}{pos:Pos}{depth:Nat}{it acc:Value}{c:Comprehension}{R:Result->Shared->Prop}(hc:gens[depth]?=some c) (ha:c.is_async=0)
  (h0:codeAny (model prog w) A (.compLoop (.ListComp elt gens scope pos) depth it acc env) R s)
  (h:wpAny (model prog w) A (pyIter it) (fun it' s'=>codeAny (model prog w) A (.compLoop (.ListComp elt gens scope pos) depth it' acc env) R s') NoE s) :
  codeAny (model prog w) A (.compStart (.ListComp elt gens scope pos) depth it acc env) R s:=by
 have h':=wpAny_mono h (E':=notedBy (model prog w) A env fun x s'=>R (.error x) s') (fun V V q=>q) fun V V f=>f.elim
 refine codeAny_of_tree ?_
 show wpAny _ _ ((compStart (.ListComp elt gens scope pos) depth it acc env).onRaise (fun x=>do noteFrame x env; standAt theWindowsPlace)) _ _ s
 refine wpAny_notedAt ?_
 unfold compStart
 have e1:(clausesOf (.ListComp elt gens scope pos))[depth]?=some c:=hc
 rw [e1]
 simp only [Option.elim,ha,bne_self_eq_false,Bool.false_eq_true,if_false]
 show wpAny _ _ (ask >>= _) _ _ s
 refine wpAny_bind (wpAny_askSetting (wpAny_ite ?_))
 split
 ·first
  | exact wpAny_bind (wpAny_pure (wpAny_pure ⟨rfl,h0⟩))
  | exact wpAny_pure ⟨rfl,h0⟩
 ·first
  | exact wpAny_bind (wpAny_rule (wpAny_bind (wpAny_standAt (wpAny_bind (wpAny_mono h' (fun it' s' h'=>wpAny_pure ⟨rfl,h'⟩) fun V V x=>x)))))
  | (refine wpAny_bind (wpAny_rule ?_); show wpAny _ _ (standAt c.iter.pos >>= _) _ _ s; exact wpAny_bind (wpAny_standAt (wpAny_bind (wpAny_mono h' (fun it' s' h'=>wpAny_pure (And.intro rfl h')) fun V V x=>x))))
end
end
section
structure JE5 (g:Heap) (sc:Scope) (on:List Str) (P:Addr) (env:Env) (ow:Ow) (av:List Addr):Prop where
 he:env.scope=sc
 nl:ow.l=[]
 oc:ow.c=on
 hP:P∈av
 gP:g.get? P=none
structure ItC (prog:Program) (w:World) (g:Heap) (K:Prop) (av fp:List Addr) (h0:Heap) (tg:Expr) (it:Value) (St:List D->Heap->Prop):Prop where
 I:Itr prog w K (fp++av) fp h0 tg it St
 gf:∀ b∈fp,g.get? b=none
 fr:∀ b∈fp,b∉av
structure LpE (g:Heap) (T:Ja3) (av:List Addr) (ow:Ow) (env:Env) (σ:Sto) (P:Addr) (outs:List D) (W:Addr->Prop) (s s':Shared):Prop where
 F:Fm g T av ow env σ s'
 acc:Jc0 av P outs s'.heap
 m:Mv g T W s s'
noncomputable abbrev JEm (env:Env) (ow:Ow) (P:Addr) (fp:List Addr) (b:Addr):Prop:=JHf env ow P b\/b∈fp
noncomputable def Jgd (prog:Program) (w:World) (g:Heap) (T:Ja3) (sc:Scope) (on:List Str) (elt:Expr) (n:Nat) (σ:Sto) (c:Comprehension) (cs:List Comprehension) (ds outs:List D):Prop :=
 ∀ (A:Around) (scope:Scope) (pos:Pos) (P:Addr) (env:Env) (ow:Ow) (av fp:List Addr) (it:Value) (h0:Heap) (St:List D->Heap->Prop) (gens:List Comprehension) (depth:Nat) (s:Shared) (pre:List D) (R:Result->Shared->Prop),
  Rm n A->JE5 g sc on P env ow av->gens.drop depth=c::cs->(∀ c'∈c::cs,c'.is_async=0)->ItC prog w g False av fp h0 c.target it St->Fm g T (fp++av) ow env σ s->St ds s.heap->Jc0 (fp++av) P pre s.heap->pre.length+outs.length<=lim ->
  (∀ s',LpE g T av ow env σ P (pre++outs) (JEm env ow P fp) s s'->R (.ok .next) s')->codeAny (model prog w) A (.compLoop (.ListComp elt gens scope pos) depth it (.ref P) env) R s
noncomputable def JE3 (prog:Program) (w:World) (g:Heap) (T:Ja3) (sc:Scope) (on:List Str) (elt:Expr) (n:Nat) (σ:Sto) (cs:List Comprehension) (outs:List D):Prop :=
 ∀ (A:Around) (scope:Scope) (pos:Pos) (P:Addr) (env:Env) (ow:Ow) (av:List Addr) (gens:List Comprehension) (depth:Nat) (it:Value) (s:Shared) (pre:List D) (Q:Fin->Shared->Prop),
  Rm n A->JE5 g sc on P env ow av->gens.drop (depth+1)=cs->(∀ c'∈cs,c'.is_async=0)->Fm g T av ow env σ s->Jc0 av P pre s.heap->pre.length+outs.length<=lim ->
  (∀ s',LpE g T av ow env σ P (pre++outs) (JHf env ow P) s s'->Q (.again (.compLoop (.ListComp elt gens scope pos) depth it (.ref P) env)) s') ->
  wpAny (model prog w) A (match gens[depth+1]? with
   | none=>(do (do let x <- eval elt env; let _ <- call (.builtin "list.append") [.ref P,x]; pure ()); again (.compLoop (.ListComp elt gens scope pos) depth it (.ref P) env))
   | some c'=>(do
      let x <- eval c'.iter env
      standAt c'.iter.pos
      let x <- foldedSetIterable c'.iter env x
      let i <- holding [x] (pyIter x)
      let _ <- runOwn (.compStart (.ListComp elt gens scope pos) (depth+1) i (.ref P) env) env
      again (.compLoop (.ListComp elt gens scope pos) depth it (.ref P) env))) Q NoE s
section
variable {prog:Program}{w:World}{g:Heap}{T:Ja3}{sc:Scope}{A:Around}{on:List Str}{elt:Expr}{scope:Scope}{pos:Pos}{P:Addr}{env:Env}
theorem Jhv {α:Type}{l:List α}{k:Nat}{a:α}{r:List α}(h:l.drop k=a::r):l[k]?=some a/\l.drop (k+1)=r:=by
 refine ⟨?_,by rw [<- List.drop_drop,h]; rfl⟩
 have:(l.drop k)[0]?=some a:=h▸rfl
 rwa [List.getElem?_drop,Nat.add_zero] at this
theorem Jjf {α:Type}{l:List α}{k:Nat}(h:l.drop k=[]):l[k]?=none:=by
 exact List.getElem?_eq_none (List.drop_eq_nil_iff.mp h)
theorem Jmy {gens:List Comprehension}{depth:Nat}{c:Comprehension}{cs:List Comprehension}(h:gens.drop depth=c::cs) (hs:∀ c'∈c::cs,c'.is_async=0) {it acc:Value} :
  compTurn (.ListComp elt gens scope pos) depth it acc env=(do
   standAt c.iter.pos
   match <- pyNext it with
   | none=>pure (.done .next)
   | some v =>
    letOwnedTupleGo c.target it v
    assign c.target env v
    let ok <- (forIn c.ifs true fun c r=>if r=true then do let ok <- isTrue c env (eval c env); pure (ForInStep.yield ok) else pure (ForInStep.yield r):Sem Bool)
    if ok=true then (match gens[depth+1]? with
     | none=>(do (do let x <- eval elt env; let _ <- call (.builtin "list.append") [acc,x]; pure ()); again (.compLoop (.ListComp elt gens scope pos) depth it acc env))
     | some c'=>(do
      let x <- eval c'.iter env
      standAt c'.iter.pos
      let x <- foldedSetIterable c'.iter env x
      let i <- holding [x] (pyIter x)
      let _ <- runOwn (.compStart (.ListComp elt gens scope pos) (depth+1) i acc env) env
      again (.compLoop (.ListComp elt gens scope pos) depth it acc env)))
    else again (.compLoop (.ListComp elt gens scope pos) depth it acc env)):=by
 obtain ⟨h1,h2⟩:=Jhv h
 cases cs with
 | nil =>
  have hn:=Jjf h2
  rw [Jhz h1 (hs _ (.head _)) hn]
  simp only [hn] <;> rfl
 | cons c' cs =>
  obtain ⟨h3,_⟩:=Jhv h2
  rw [Jhy h1 (hs _ (.head _)) h3 (hs c' (.tail _ (.head _)))]
  simp only [h3] <;> rfl
theorem Jkr {av fp:List Addr}{it:Value}{h0:Heap}{St:List D->Heap->Prop}{tg:Expr}{K:Prop}{ds:List D}{s s':Shared}{W:Addr->Prop}(I:Itr prog w K (fp++av) fp h0 tg it St) (st:St ds s.heap) (hg:GK g T s) (m:Mv g T W s s') (hw:∀ b∈fp,∀ o,s.heap.get? b=some o->Jcx o->¬ W b)
  (hq:∀ b o,s.heap.get? b=some o->Jaq o->W b->b∈fp++av):St ds s'.heap :=
 I.frame _ _ _ st (fun b hb o e=>let i:=(I.obj _ _ st b hb).wo.at e; m.get' hg e (hw b hb o e i) i.1.2) (m.seq hg hq)
theorem Jdt {av fp:List Addr}{pre ds:List D}{tg:Expr}{it:Value}{h0:Heap}{St:List D->Heap->Prop}{h:Heap}{K:Prop}(I:Itr prog w K (fp++av) fp h0 tg it St) (st:St ds h) (acc:Jc0 (fp++av) P pre h):P∉fp:=fun hm=>by
 obtain ⟨vs,k,e'⟩:=acc.isl
 cases I.obj _ _ st P hm with | mk o e i nl _=>exact nl _ _ (Jav e e')
theorem JBl {ow ow':Ow}(h:ow.l=[]) (hc:ow'.c=ow.c) (hl:∀ p∈ow'.l,p∈ow.l):ow'=ow:=by
 have:ow'.l=[]:=List.eq_nil_iff_forall_not_mem.mpr fun p hp=>nomatch h▸hl p hp
 obtain ⟨l,c⟩:=ow
 obtain ⟨l',c'⟩:=ow'
 cases h; cases hc; cases this; rfl
theorem Fm.wseq0 {av:List Addr}{ow:Ow}{σ:Sto}{s:Shared}(F:Fm g T av ow env σ s) (nl:ow.l=[]):∀ b o,s.heap.get? b=some o->Jaq o->¬ Wr env ow b:=fun b o e ho hw=>Jkh nl (F.wlst e ho hw)
theorem Jgg {n:Nat}{σ:Sto}{c:Comprehension}{d:D}{ds:List D}{b:Bd}{t:Bool}{av fp:List Addr}{ow:Ow}{it:Value}{h0:Heap}{St:List D->Heap->Prop}{s:Shared}{pre:List D}{β:Type}{K:Bool->Sem β}{Q':β->Shared->Prop}{e0:Sem β}{Z:Prop}
  (rm:Rm n A) (C:JE5 g sc on P env ow av) (I:ItC prog w g Z av fp h0 c.target it St) (F:Fm g T (fp++av) ow env σ s) (st:St (d::ds) s.heap) (acc:Jc0 (fp++av) P pre s.heap) (ht:Tg c.target d b) (hst:Je4 sc on b) (hi:Jge prog w g T n sc (Ja4 b σ) c.ifs t)
  (h:∀ s',LpE g T (fp++av) ow env (Ja4 b σ) P pre (JEm env ow P fp) s s'->St ds s'.heap->wpAny (model prog w) A (K t) Q' NoE s') :
  wpAny (model prog w) A (do
   match <- pyNext it with
   | none=>e0
   | some v =>
    letOwnedTupleGo c.target it v
    assign c.target env v
    let ok <- (forIn c.ifs true fun c r=>if r=true then do let ok <- isTrue c env (eval c env); pure (ForInStep.yield ok) else pure (ForInStep.yield r):Sem Bool)
    K ok) Q' NoE s:=by
 refine wpAny_bind (Ja0 (I.I.item A d ds s (fp++av) rm.hand (fun b hb=>.inl hb) (fun b hb=>((F.av0 C.nl).avok b hb).elim fun o p q=>nos q p.1) st) fun r sA h₁=>?_)
 cases h₁ with | mk h₁ =>
 refine wpAny_bind (Ja0 h₁ fun V s2 h₂=>?_)
 have hPf:=Jdt I.I st acc
 have fB:=F.changed h₂.on I.gf I.I.sub (fun b hb=>(I.I.obj _ _ st b hb).wo) (fun b hb=>(I.I.obj _ _ h₂.st b hb).wo)
 have acc2:Jc0 (fp++av) P pre s2.heap:=acc.seq (h₂.on.seq I.I.sub) fun vs k e=>h₂.on.get e hPf
 refine wpAny_bind (Ja0 (Jd4 rm.hand C.he fB.F ht (C.oc.symm▸hst) (by rw [Jl6 C.nl]; exact h₂.vd)) fun V s3 h₃=>?_)
 cases h₃ with | mk ow' hc' F3 m3 hw hl =>
 cases JBl C.nl hc' hl
 have hq:∀ b o,s2.heap.get? b=some o->Jaq o->Wr env ow b->b∈fp++av:=fun b o e ho hw=>(fB.F.wseq0 C.nl b o e ho hw).elim
 have st3:=Jkr I.I h₂.st fB.F.gk m3 (fun b hb o e i=>Jh1 fB.F (Jkh C.nl) e i) hq
 have acc3:Jc0 (fp++av) P pre s3.heap:=acc2.seq (m3.seq fB.F.gk hq) fun vs k e=>m3.get' fB.F.gk e (fB.F.wseq0 C.nl _ _ e ⟨_,_,.inr rfl⟩) (Jai _ _)
 refine wpAny_bind (Ja0 (hi A s3 _ env C.he rm F3.gk (F3.av0 C.nl)) fun ok s4 h₄=>?_)
 rw [h₄.1]
 have xD:=h₄.2
 exact h s4 ⟨F3.ext xD,acc3.ext xD F3.gk,Mv.trans (W':=Wr env ow) (Mv.trans (fB.m.sub fun b hb=>.inl (.inr hb)) m3 fun b hb=>.inl (.inl (.inl hb))) xD.mv fun b hb=>.inl (.inl (.inl hb))⟩ (Jkr I.I st3 F3.gk xD.mv (W:=fun V=>False) (fun V V V V V f=>f) fun V V V V f=>f.elim)
end
end
section
section
variable {prog:Program}{w:World}{g:Heap}{T:Ja3}{sc:Scope}{on:List Str}{elt:Expr}
theorem Jvt {A:Around}{av av':List Addr}{P:Addr}{env:Env}{ow:Ow}{σ:Sto}{s:Shared}{pre:List D}{v:Value}{d:D}{Q:Value->Shared->Prop}(C:JE5 g sc on P env ow av') (hs:P∈av) (F:Fm g T av ow env σ s) (acc:Jc0 av P pre s.heap) (r:VD av s.heap v d) (hz:pre.length<lim)
  (h:∀ s',(∃ h',s'={ s with heap:=h' }/\Heap.SameBut P s.heap h')->LpE g T av ow env σ P (pre++[d]) (fun b=>b=P) s s'->Q .none s'):wpAny (model prog w) A (call (.builtin "list.append") [.ref P,v]) Q NoE s:=by
 obtain ⟨vs,k,eP⟩:=acc.isl
 cases acc with | mk ys hp hv =>
 have hl:=hv.length
 refine wpAny_list_append_plain hp (fun h' hp' hs'=>?_) ?_
 ·have on2:Jmk [P] s { s with heap:=h' }:=⟨rfl,rfl,rfl,fun b o nb e=>(hs'.2 b (fun q=>nb (q▸.head _))).trans e⟩
  have hsub:∀ b∈[P],b∈av:=fun b hb=>List.mem_singleton.mp hb▸hs
  have fB:=F.changed on2 (fun b hb=>List.mem_singleton.mp hb▸C.gP) hsub (fun b hb=>List.mem_singleton.mp hb▸⟨_,eP,Jfo vs k⟩) (fun b hb=>List.mem_singleton.mp hb▸hp'.elim fun k' e'=>⟨_,e',Jfo (ys.push v).toList k'⟩)
  have ks:=on2.seq hsub
  exact h _ ⟨_,rfl,hs'⟩ ⟨fB.F,⟨_,hp',by rw [Array.toList_push]; exact (hv.keep ks).append (.one (r.keep ks))⟩,fB.m.sub fun b hb=>.inl (List.mem_singleton.mp hb)⟩
 ·have:ys.toList.length=ys.size:=by simp
  have:=Je8
  lia
theorem Jjl {n:Nat}{σ:Sto}{d:D}(h:Ev prog w g T n sc σ elt d):JE3 prog w g T sc on elt n σ [] [d]:=fun A scope pos P env ow av gens depth it s pre Q rm C hd ha F acc hsz hQ=>by
 rw [Jjf hd]
 show wpAny _ _ ((eval elt env >>= fun x=>call (.builtin "list.append") [.ref P,x] >>= fun V=>pure ()) >>= fun V=>again _) _ _ _
 exact wpAny_bind (wpAny_bind (Ja0 (h A s av env C.he rm F.gk (F.av0 C.nl)) fun v sA h₁=>wpAny_bind (Jvt C C.hP (F.ext h₁.1) (acc.ext h₁.1 F.gk) h₁.2 (Nat.lt_of_succ_le hsz) fun s2 V e=>wpAny_pure (wpAny_pure (hQ _ ⟨e.F,e.acc,Mv.trans h₁.1.mv e.m fun b hb=>.inl (.inr hb)⟩)))))
theorem VD.more {av fp:List Addr}{h:Heap}{v:Value}{d:D}(r:VD av h v d) (hn:∀ b∈fp,h.get? b=Option.none):VD (fp++av) h v d:=r.mono (fun b o e V V=>e) fun b o e V nb q=>(List.mem_append.mp q).elim (fun q=>nos (hn b q) e) nb
theorem Jjw {c:Comprehension}{cs:List Comprehension}{gens:List Comprehension}{depth:Nat}{scope:Scope}{pos:Pos}{it acc:Value}{A:Around}{env:Env}{R:Result->Shared->Prop}{s:Shared}(hd:gens.drop depth=c::cs) (has:∀ c'∈c::cs,c'.is_async=0)
  (h:wpAny (model prog w) A (do
   match <- pyNext it with
   | none=>pure (.done .next)
   | some v =>
    letOwnedTupleGo c.target it v
    assign c.target env v
    let ok <- (forIn c.ifs true fun c r=>if r=true then do let ok <- isTrue c env (eval c env); pure (ForInStep.yield ok) else pure (ForInStep.yield r):Sem Bool)
    if ok=true then (match gens[depth+1]? with
     | none=>(do (do let x <- eval elt env; let _ <- call (.builtin "list.append") [acc,x]; pure ()); again (.compLoop (.ListComp elt gens scope pos) depth it acc env))
     | some c'=>(do
      let x <- eval c'.iter env
      standAt c'.iter.pos
      let x <- foldedSetIterable c'.iter env x
      let i <- holding [x] (pyIter x)
      let _ <- runOwn (.compStart (.ListComp elt gens scope pos) (depth+1) i acc env) env
      again (.compLoop (.ListComp elt gens scope pos) depth it acc env)))
    else again (.compLoop (.ListComp elt gens scope pos) depth it acc env)) (fun fin s'=>match fin with | .done f=>R (.ok f) s' | .again c'=>c'.quiet=true/\codeAny (model prog w) A c' R s') NoE s) :
  codeAny (model prog w) A (.compLoop (.ListComp elt gens scope pos) depth it acc env) R s:=by
 refine codeAny_of_tree ?_
 show wpAny _ A ((compTurn (.ListComp elt gens scope pos) depth it acc env).onRaise (fun x=>do noteFrame x env; theTreesLotGoes x)) _ _ s
 refine wpAny_noted (wpAny_mono (E:=NoE) (Q:=fun fin s'=>match fin with | .done f=>R (.ok f) s' | .again c'=>c'.quiet=true/\codeAny (model prog w) A c' R s') ?_ (fun V V q=>q) fun V V f=>f.elim)
 rw [Jmy hd has]
 exact wpAny_bind (wpAny_standAt h)
theorem Jly {n:Nat}{σ:Sto}{c:Comprehension}{cs:List Comprehension}:Jgd prog w g T sc on elt n σ c cs [] []:=fun A scope pos P env ow av fp it h0 St gens depth s pre R rm C hd has I F st acc hsz hR=>by
 refine Jjw hd has (wpAny_bind (Ja0 (I.I.done A s rm.hand st) fun r sA h₁=>?_))
 rw [h₁.1]
 have fA:=F.changed' (av':=av) h₁.2 I.gf I.I.sub (fun a ha=>List.mem_append_right _ ha) (fun b hb=>(I.I.obj _ _ st b hb).wo) fun b hb hb'=>absurd hb' (I.fr b hb)
 refine wpAny_pure (hR sA ⟨fA.F,?_,fA.m.sub fun b hb=>.inl (.inr hb)⟩)
 rw [List.append_nil]
 exact (acc.seq (h₁.2.seq I.I.sub) fun vs k e=>h₁.2.get e (Jdt I.I st acc)).sub fun a ha=>List.mem_append_right _ ha
theorem Jlx {n:Nat}{σ:Sto}{c:Comprehension}{cs:List Comprehension}{d:D}{ds o os:List D}{b:Bd}(ht:Tg c.target d b) (hst:Je4 sc on b) (hf:∀ p∈b,σ.lookup p.1=none) (hi:Jge prog w g T n sc (Ja4 b σ) c.ifs true)
  (hb:JE3 prog w g T sc on elt n (Ja4 b σ) cs o) (hl:Jgd prog w g T sc on elt n σ c cs ds os):Jgd prog w g T sc on elt n σ c cs (d::ds) (o++os):=fun A scope pos P env ow av fp it h0 St gens depth s pre R rm C hd has I F st acc hsz hR=>by
 have hlen:=hsz
 rw [List.length_append] at hlen
 refine Jjw hd has (Jgg (K:=fun ok=>if ok=true then _ else _) rm C I F st acc ht hst hi fun sA eA st1=>?_)
 rw [if_pos rfl]
 have hPf:=Jdt I.I st acc
 refine hb A scope pos P env ow (fp++av) gens depth it sA pre _ rm ⟨C.he,C.nl,C.oc,List.mem_append_right _ C.hP,C.gP⟩ (Jhv hd).2 (fun c' h=>has c' (.tail _ h)) eA.F eA.acc (by lia) fun s2 eB=>⟨rfl,?_⟩
 have st2:=Jkr I.I st1 eA.F.gk eB.m (fun b hb o e i h=>h.elim (Jh1 eA.F (Jkh C.nl) e i) fun q=>hPf (q▸hb)) fun b o e ho hw=>hw.elim (fun q=>(eA.F.wseq0 C.nl b o e ho q).elim) fun q=>q▸List.mem_append_right _ C.hP
 refine hl A scope pos P env ow av fp it h0 St gens depth s2 (pre++o) R rm C hd has I (eB.F.weak (Jew hf)) st2 eB.acc (by rw [List.length_append]; lia) fun s3 eC=>?_
 have acc3:=eC.acc
 rw [List.append_assoc] at acc3
 exact hR s3 ⟨eC.F,acc3,Mv.trans eA.m (Mv.trans (W:=JEm env ow P fp) (eB.m.sub fun b hb=>.inl (.inl hb)) eC.m fun b hb=>.inl hb) fun b hb=>.inl hb⟩
theorem Jyx {n:Nat}{σ:Sto}{c:Comprehension}{cs:List Comprehension}{d:D}{ds os:List D}{b:Bd}(ht:Tg c.target d b) (hst:Je4 sc on b) (hf:∀ p∈b,σ.lookup p.1=none) (hi:Jge prog w g T n sc (Ja4 b σ) c.ifs false)
  (hl:Jgd prog w g T sc on elt n σ c cs ds os):Jgd prog w g T sc on elt n σ c cs (d::ds) os:=fun A scope pos P env ow av fp it h0 St gens depth s pre R rm C hd has I F st acc hsz hR=>by
 refine Jjw hd has (Jgg (K:=fun ok=>if ok=true then _ else _) rm C I F st acc ht hst hi fun sA eA st1=>?_)
 rw [if_neg Bool.false_ne_true]
 exact wpAny_pure ⟨rfl,hl A scope pos P env ow av fp it h0 St gens depth sA pre R rm C hd has I (eA.F.weak (Jew hf)) st1 eA.acc hsz fun s3 eC=>hR s3 ⟨eC.F,eC.acc,Mv.trans eA.m eC.m fun b hb=>.inl hb⟩⟩
end
end
section
noncomputable def Jad (scope sc:Scope):Scope :=
 { scope with names:=scope.names.map fun (n,k)=>if (k==.free&&sc.kind==.function&&sc.names.lookup n==some .cell) then (n,.cell) else (n,k) }
theorem Jn4 {scope:Scope}{env:Env}:relabel scope env=Jad scope env.scope:=rfl
noncomputable def cap (scope:Scope) (σ:Sto):Sto:=σ.filter fun p=>scope.names.lookup p.1==some .free
noncomputable def Jhp:Sl->Bool
 | .val _=>true
 | .own _=>false
theorem Jnr (scope:Scope) (σ:Sto) (x:Str):(cap scope σ).lookup x=if scope.names.lookup x==some .free then σ.lookup x else none:=by
 induction σ with
 | nil=>exact (ite_self none).symm
 | cons p σ ih =>
  obtain ⟨y,sl⟩:=p
  unfold cap at ih ⊢
  rw [List.filter_cons,Ja6]
  by_cases q:x=y
  ·subst q
   rw [if_pos rfl]
   by_cases h:(scope.names.lookup x==some NameKind.free)=true
   ·rw [if_pos h,if_pos h,Ja6,if_pos rfl]
   ·rw [if_neg h,if_neg h,ih,if_neg h]
  ·rw [if_neg q, <- ih]
   by_cases h:(scope.names.lookup y==some NameKind.free)=true
   ·rw [if_pos h,Ja6,if_neg q]
   ·rw [if_neg h]
noncomputable def Jcy (sc scope:Scope):Bool :=
 scope.kind==.function&&scope.names.all fun p=>
  match p.2 with
  | .local=>scope.names.lookup p.1==some .local
  | .free=>scope.names.lookup p.1==some .free&&(sc.names.lookup p.1==some .cell||sc.names.lookup p.1==some .free)&&Jay p.1
  | .cell=>scope.names.lookup p.1==some .cell
  | _=>true
theorem Jhi {sc scope:Scope}{x:Str}(h:Jcy sc scope=true) (hx:(x,NameKind.free)∈scope.names):scope.names.lookup x=some .free/\(sc.names.lookup x=some .cell\/sc.names.lookup x=some .free)/\Jay x=true:=by
 have:=Bool.and_eq_true_iff.mp (List.all_eq_true.mp (Bool.and_eq_true_iff.mp h).2 _ hx)
 have t:=Bool.and_eq_true_iff.mp this.1
 exact ⟨eq_of_beq t.1,((Bool.or_eq_true _ _).mp t.2).imp eq_of_beq eq_of_beq,this.2⟩
theorem JBo {sc scope:Scope}{x:Str}(h:Jcy sc scope=true) (hx:(x,NameKind.local)∈scope.names):scope.names.lookup x=some .local:=eq_of_beq (List.all_eq_true.mp (Bool.and_eq_true_iff.mp h).2 _ hx:(scope.names.lookup x==some .local)=true)
theorem JBp {sc scope:Scope}{x:Str}(h:Jcy sc scope=true) (hx:(x,NameKind.cell)∈scope.names):scope.names.lookup x=some .cell:=eq_of_beq (List.all_eq_true.mp (Bool.and_eq_true_iff.mp h).2 _ hx:(scope.names.lookup x==some .cell)=true)
structure Jx8 (env:Env) (names:List (Str×NameKind)) (cl:List (Str×Addr)):Prop where
 at_:∀ x c,cl.lookup x=some c->(x,NameKind.free)∈names/\env.cells.lookup x=some c
 all:∀ x,(x,NameKind.free)∈names->∃ c,cl.lookup x=some c
noncomputable def Jva (env:Env) (x:Str×NameKind) (r:List (Str×Addr)):Sem (ForInStep (List (Str×Addr))):=if x.2==.free then do let c <- cellOf env x.1; pure (ForInStep.yield ((x.1,c)::r)) else pure (ForInStep.yield r)
theorem Jr8 {env:Env}{p:Str×NameKind}{r:List (Str×Addr)}{c:Addr}(hk:(p.2==NameKind.free)=true) (hc:env.cells.lookup p.1=some c):Jva env p r=pure (ForInStep.yield ((p.1,c)::r)):=by
 unfold Jva cellOf
 rw [if_pos hk,hc]; rfl
theorem Ji1 (env:Env) (names:List (Str×NameKind)):∀ (done:List (Str×NameKind)) (acc:List (Str×Addr)),(∀ x,(x,NameKind.free)∈names->∃ c,env.cells.lookup x=some c)->Jx8 env done acc ->
  ∃ cl,forIn names acc (Jva env)=pure cl/\Jx8 env (names++done) cl:=by
 induction names with
 | nil=>exact fun done acc V h=>⟨acc,rfl,h⟩
 | cons p r ih =>
  intro done acc h H
  have go:=fun acc H=>Exists.imp (fun cl q=>And.imp id (fun z:Jx8 env (r++p::done) cl=>(⟨fun x c e=>(z.at_ x c e).imp (fun m=>List.perm_middle.subset m) id,fun x m=>z.all x (List.perm_middle.symm.subset m)⟩:Jx8 env (p::r++done) cl)) q) (ih (p::done) acc (fun x hx=>h x (.tail _ hx)) H)
  rw [List.forIn_cons]
  by_cases hk:(p.2==NameKind.free)=true
  ·have e2:=eq_of_beq hk
   cases h p.1 (e2▸.head _) with | intro c hc =>
   rw [Jr8 hk hc]
   refine go ((p.1,c)::acc) ⟨fun x c' e=>(Jaj e).elim (fun q=>q.1▸q.2▸⟨e2▸.head _,hc⟩) fun q=>(H.at_ x c' q.2).imp (.tail _) id,fun x m=>?_⟩
   rw [Ja6]
   by_cases q:x=p.1
   ·exact ⟨c,if_pos q⟩
   ·rw [if_neg q]
    exact H.all x ((List.mem_cons.mp m).resolve_left fun z=>q (congrArg Prod.fst z))
  ·rw [show Jva env p acc=_ from if_neg hk]
   exact go acc ⟨fun x c e=>(H.at_ x c e).imp (.tail _) id,fun x m=>H.all x ((List.mem_cons.mp m).resolve_left fun z=>hk (beq_iff_eq.mpr (congrArg Prod.snd z).symm))⟩
theorem Jcs {scope:Scope}{env:Env}(h:∀ x,(x,NameKind.free)∈scope.names->∃ c,env.cells.lookup x=some c):∃ cl,closureFor scope env=pure cl/\Jx8 env scope.names cl:=by
 obtain ⟨cl,e,H⟩:=Ji1 env scope.names [] [] h ⟨fun x c e=>(nomatch e),fun x m=>nomatch m⟩
 rw [List.append_nil] at H
 exact ⟨cl,(congrArg (fun m:Sem (List (Str×Addr))=>m >>= fun s=>pure s) e).trans rfl,H⟩
theorem Jas {names:List (Str×NameKind)}{x:Str}{k:NameKind}(h:names.lookup x=some k):(x,k)∈names:=mem_of_lookup h
theorem Jdl (scope sc:Scope) (x:Str):(Jad scope sc).names.lookup x=(scope.names.lookup x).map fun k=>if (k==.free&&sc.kind==.function&&sc.names.lookup x==some .cell) then .cell else k:=by
 show List.lookup x (scope.names.map _)=_
 induction scope.names with
 | nil=>rfl
 | cons p r ih =>
  obtain ⟨y,k⟩:=p
  rw [List.map_cons,show (match ((y,k):Str×NameKind) with | (n,k)=>if (k==.free&&sc.kind==.function&&sc.names.lookup n==some .cell)=true then (n,NameKind.cell) else (n,k))=(y,if (k==.free&&sc.kind==.function&&sc.names.lookup y==some .cell)=true then .cell else k) by dsimp only; split <;> rfl,Ja6,Ja6,ih]
  by_cases q:x=y
  ·rw [if_pos q,if_pos q,q]; rfl
  ·rw [if_neg q,if_neg q]
theorem Jiq {scope sc:Scope}{x:Str}(h:(Jad scope sc).names.lookup x=some .cell\/(Jad scope sc).names.lookup x=some .free):scope.names.lookup x=some .free\/scope.names.lookup x=some .cell:=by
 rw [Jdl] at h
 rcases h with h | h <;> obtain ⟨k,e,hk⟩:=Option.map_eq_some_iff.mp h <;> rw [e] <;> cases k <;> first | exact .inl rfl | exact .inr rfl | cases hk
theorem Jip {scope sc:Scope}{x:Str}(h:scope.names.lookup x=some .free):(Jad scope sc).names.lookup x=some .cell\/(Jad scope sc).names.lookup x=some .free:=by
 rw [Jdl,h,Option.map_some]
 split
 ·exact .inl rfl
 ·exact .inr rfl
theorem Ext.trans_mv {g:Heap}{T:Ja3}{s s' s'':Shared}{W:Addr->Prop}(x:Ext g T s s') (y:Mv g T W s' s'') (h:∀ b,W b->s.heap.get? b=Option.none):Ext g T s s'' :=
 (Mv.trans (W:=fun V=>False) x.mv y fun b hb=>.inr (h b hb)).ext fun V f=>f.elim
structure JGf (prog:Program) (w:World) (g:Heap) (T:Ja3) (K:Prop) (sc scope:Scope) (σ:Sto) (tg:Expr) (ds:List D) (av:List Addr) (s:Shared) (P:Addr) (env:Env) (fp:List Addr) (it:Value) (h0:Heap) (St:List D->Heap->Prop) (s4:Shared):Prop where
 C:JE5 g (Jad scope sc) (Ja1 scope.names) P env ⟨[],Ja1 scope.names⟩ ([P]++av)
 I:ItC prog w g K ([P]++av) fp h0 tg it St
 F:Fm g T (fp++([P]++av)) ⟨[],Ja1 scope.names⟩ env (cap scope σ) s4
 st:St ds s4.heap
 acc:Jc0 (fp++([P]++av)) P [] s4.heap
 x:Ext g T s s4
 hP:s.heap.get? P=none
 hC:s.heap.get? env.locals=none
 ne:env.locals≠P
 w:∀ b,JEm env ⟨[],Ja1 scope.names⟩ P fp b->s.heap.get? b=none
section
variable {prog:Program}{w:World}{g:Heap}{T:Ja3}{n:Nat}{sc scope:Scope}{σ:Sto}{elt:Expr}{c:Comprehension}{cs:List Comprehension}{pos:Pos}{ds outs:List D}{A:Around}{s:Shared}{av:List Addr}{env:Env}{p:Pos}{use:Option (Value->Sem Unit)}{Q:Value->Shared->Prop}{K:Prop}
theorem Jns {cl:List (Str×Addr)}{cenv:Env}{s3:Shared}{av':List Addr}(hok:Jcy sc scope=true) (hcap:((cap scope σ).all fun p=>Jhp p.2)=true) (he:env.scope=sc) (hc:EC av env σ s.heap) (H:Jx8 env scope.names cl) (hk:∀ x,cenv.kindOf x=(Jad scope sc).names.lookup x)
  (kl:∀ x v,Jat env s.heap x v->Jat env s3.heap x v) (kd:∀ v d,VD av s.heap v d->VD av' s3.heap v d):∀ x sl,(cap scope σ).lookup x=some sl->JGg cenv scope.names cl av' s3.heap x sl:=fun x sl e=>by
 have hv:=List.all_eq_true.mp hcap _ (mem_of_lookup e)
 rw [Jnr] at e
 by_cases hq:(scope.names.lookup x==some .free)=true
 ·rw [if_pos hq] at e
  have hq:=eq_of_beq hq
  have hm:=Jas hq
  cases hc.vars x sl e with | mk v l r =>
  obtain ⟨cc,hcc⟩:=H.all x hm
  obtain ⟨h1,h2,h3⟩:=Jhi hok hm
  cases sl with
  | own ds=>exact (Jbe tgS hv rfl).elim
  | val d =>
   refine ⟨d,cc,v,h3,by rw [hk]; exact Jip hq,fun q=>(nomatch (JBp hok q).symm.trans hq),hcc,?_,kd _ _ r⟩
   cases kl x v l with
   | loc _ k=>rw [Env.kindOf,he] at k; exact h2.elim (fun q=>nomatch q.symm.trans k) fun q=>nomatch q.symm.trans k
   | cel _ _ c' e' hv=>exact Jav (H.at_ x cc hcc).2 e'▸hv
 ·rw [if_neg hq] at e; exact nomatch e
theorem Jnl (hsd:Jez c.iter) (hok:Jcy sc scope=true) (hcap:((cap scope σ).all fun p=>Jhp p.2)=true) (hi:EvK prog w g T K n sc σ c.target c.iter ds) (ha:c.is_async=0) (he:env.scope=sc) (rm:Rm n A) (hg:GK g T s) (hc:EC av env σ s.heap)
  (h:∀ P cenv fp it h0 St s4,JGf prog w g T K sc scope σ c.target ds av s P cenv fp it h0 St s4->codeAny (model prog w) A (.compLoop (.ListComp elt (c::cs) scope pos) 0 it (.ref P) cenv) (compPost (model prog w) A NoE use Q (.ref P) cenv.locals) s4) :
  wpAny (model prog w) A (comprehension (.ListComp elt (c::cs) scope pos) scope env p (newList []) false (eval c.iter env) use) Q NoE s:=by
 have hout:∀ x,(x,NameKind.free)∈scope.names->env.kindOf x=some .cell\/env.kindOf x=some .free:=fun x m=>by rw [Env.kindOf,he]; exact (Jhi hok m).2.1
 obtain ⟨cl,hcl,H⟩:=Jcs (scope:=scope) (env:=env) fun x m=>(hc.cells x (hout x m)).imp fun V p=>p.1
 refine wpAny_comprehension_free rfl (fun x=>hsd env x) hcl (eq_of_beq (Bool.and_eq_true_iff.mp hok).1) (fun x hx hl=>JBo hok (x:=x.1) (hl▸hx)) (Ja0 (hi A s av env he rm hg hc) fun x sA h₁=>Ja0 h₁ fun it s2 h₂=>?_)
 cases h₂ with | mk xB fp hn hI =>
 have hz:=Ja8 s2.heap
 cases hI [s2.heap.objs.size] (f1 s2) with | mk St I st =>
 have gQ:=xB.gk hg
 refine wpAny_newObj_type ?_
 generalize hs3:({ s2 with heap:=s2.heap.push { cls:=.type "list",dict:=none,data:=.seq ([]:List Value).toArray } }:Shared)=s3
 have x3:Ext g T s2 s3:=hs3▸.push _
 have gC:=x3.gk gQ
 have hP3:s3.heap.get? s2.heap.objs.size=some (Jb0 [] 0):=hs3▸Heap.get?_push_size _ rfl
 have kC:∀ b o,s2.heap.get? b=some o->s3.heap.get? b=some o:=hs3▸Jae _ _
 have hPs:s.heap.get? s2.heap.objs.size=none:=xB.none hg hz
 have x23:=xB.trans x3
 have hnav:∀ b∈fp++[s2.heap.objs.size],s.heap.get? b=none:=fun b hb=>(List.mem_append.mp hb).elim (hn b) fun q=>List.mem_singleton.mp q▸hPs
 have av3:Jdk (fp++([s2.heap.objs.size]++av)) s3.heap:=fun a ha=>by
  rcases List.mem_append.mp ha with q | q
  ·exact (I.obj _ _ st a q).rec fun o e i V V=>⟨o,kC _ _ e,i.1.2⟩
  ·exact (List.mem_append.mp q).elim (fun q=>⟨_,List.mem_singleton.mp q▸hP3,Jai _ _⟩) ((hc.avok.ext x23 hg) a)
 refine Je3 fun cenv hcenv=>?_
 rw [List.forIn_nil]
 refine wpAny_pure ?_
 have hC:cenv.locals=s3.heap.objs.size:=by rw [hcenv]; rfl
 have hsc:(relabel scope env)=Jad scope sc:=by rw [Jn4,he]
 generalize hce':({ cenv with scope:=relabel scope env }:Env)=cenv'
 have hloc:cenv'.locals=cenv.locals:=hce'▸rfl
 have N:Jeg scope.names cl s3.heap cenv':=hce'▸⟨eq_of_beq (Bool.and_eq_true_iff.mp hok).1,hcenv▸hc.glob,hcenv▸hc.blt,hC,by rw [hcenv]; rfl⟩
 have hkinds:∀ x,cenv'.kindOf x=(Jad scope sc).names.lookup x:=fun x=>by rw [<- hce',Env.kindOf,hsc]
 have fr:=Fm.fresh (b:=true) (tk:=s3.toks) (σ:=cap scope σ) N gC av3 (fun x c e=>((hc.ext x23 hg).cells x (hout x (H.at_ x c e).1)).elim fun V p=>Jav p.1 (H.at_ x c e).2▸p.2)
  (fun x hx=>(Jiq (hkinds x▸hx)).elim (fun q=>.inr ((H.all x (Jas q)).elim fun V e=>by rw [e]; rfl)) fun q=>.inl (Jas q))
  (Jns hok hcap he hc H hkinds (fun x v l=>l.ext x23 hg) fun v d r=>x23.vd hg (by rw [<- List.append_assoc]; exact r.more hnav))
 show codeAny _ _ _ _ { s3 with heap:=Jcc scope.names true s3.heap }
 generalize hs4:({ s3 with heap:=Jcc scope.names true s3.heap,toks:=s3.toks }:Shared)=s4 at fr
 have kD:∀ b o,s3.heap.get? b=some o->s4.heap.get? b=some o:=hs4▸Jd9
 have ks:Ja9 (fp++([s2.heap.objs.size]++av)) s2.heap s4.heap:=.of_keeps fun b o e=>kD _ _ (kC _ _ e)
 have st4:St ds s4.heap:=I.frame _ _ _ st (fun b V o e=>kD _ _ (kC _ _ e)) ks
 have loop:=h s2.heap.objs.size cenv' fp it s2.heap St s4 {
  C:=⟨by rw [<- hce']; exact hsc,rfl,rfl,.head _,hg.new hPs⟩
  I:=⟨I,fun b hb=>hg.new (hn b hb),fun b hb hm=>(List.mem_append.mp hm).elim (fun q=>(I.obj _ _ st b hb).rec fun o e V V V=>nos hz (List.mem_singleton.mp q▸e)) fun q=>(hc.avok b q).elim fun o p=>nos (hn b hb) p.1⟩
  F:=fr.F
  st:=st4
  acc:=⟨#[],⟨0,kD _ _ hP3⟩,.nil⟩
  x:=x23.trans fr.x
  hP:=hPs
  hC:=by rw [hloc,hC]; exact x23.none hg (Ja8 _)
  ne:=fun q=>nos (Ja8 s3.heap) (hC▸hloc▸q▸hP3)
  w:=fun b hb=>hb.elim (fun q=>q.elim (fun q=>x23.none hg (fr.w b q)) fun q=>q▸hPs) (hn b) }
 rw [<- hloc]
 exact Ji0 rfl ha loop (I.self _ _ _ _ rm.hand st4 loop)
theorem Jjh (has:∀ c'∈c::cs,c'.is_async=0) (hsd:Jez c.iter) (hok:Jcy sc scope=true) (hcap:((cap scope σ).all fun p=>Jhp p.2)=true)
  (hi:EvI prog w g T n sc σ c.target c.iter ds) (hl:Jgd prog w g T (Jad scope sc) (Ja1 scope.names) elt n (cap scope σ) c cs ds outs) (hsz:outs.length<=lim) (he:env.scope=sc) (rm:Rm n A) (hg:GK g T s) (hc:EC av env σ s.heap)
  (hQ:∀ P C s',Ext g T s s'->s.heap.get? P=none->s.heap.get? C=none->C≠P->Jc0 (P::av) P outs s'.heap->(∃ m,s'.heap.Ns C m)->compPost (model prog w) A NoE use Q (.ref P) C (.ok .next) s') :
  wpAny (model prog w) A (comprehension (.ListComp elt (c::cs) scope pos) scope env p (newList []) false (eval c.iter env) use) Q NoE s :=
 Jnl hsd hok hcap hi (has _ (.head _)) he rm hg hc fun P cenv fp it h0 St s4 a=>hl A scope pos _ _ _ _ fp it _ St (c::cs) 0 s4 [] _ rm a.C rfl has a.I a.F a.st a.acc (by rw [List.length_nil,Nat.zero_add]; exact hsz) fun s' e=>
  hQ _ _ s' (a.x.trans_mv e.m a.w) a.hP a.hC a.ne e.acc e.F.ns
end
end
section
inductive JG7 (g:Heap) (T:Ja3) (av:List Addr) (s:Shared) (ds:List D):Value->Shared->Prop
 | mk {P:Addr}{vs:List Value}{k:Nat}{s':Shared}(x:Ext g T s s') (hn:s.heap.get? P=none) (ho:s'.heap.get? P=some (Jb0 vs k)) (hd:VDs (P::av) s'.heap vs ds):JG7 g T av s ds (.ref P) s'
section
variable (prog:Program) (w:World) (g:Heap) (T:Ja3)
noncomputable def EvO (n:Nat) (sc:Scope) (σ:Sto) (e:Expr) (ds:List D):Prop :=
 ∀ (A:Around) (s:Shared) (av:List Addr) (env:Env),env.scope=sc->Rm n A->GK g T s->EC av env σ s.heap->wpAny (model prog w) A (eval e env) (JG7 g T av s ds) NoE s
end
section
variable {prog:Program}{w:World}{g:Heap}{T:Ja3}{n:Nat}{sc scope:Scope}{σ:Sto}{elt e:Expr}{c:Comprehension}{cs:List Comprehension}{pos:Pos}{ds outs:List D}
theorem Jmg {av:List Addr}{h:Heap}{P:Addr}(a:Jdk av h) (hP:h.get? P=none):P∉av:=fun hm=>(a P hm).elim fun V p=>nos hP p.1
theorem EvO.ev (h:EvO prog w g T n sc σ e ds):Ev prog w g T n sc σ e (.lst ds):=fun A s av env he rm hg hc=>Ja0 (h A s av env he rm hg hc) fun v s' hv=>by
 cases hv with | mk x hn ho hd=>exact ⟨x,.lst (Jmg hc.avok hn) ho (hd.sub fun a ha=>.tail _ ha)⟩
theorem Jvb {s s':Shared}{av:List Addr}{P C:Addr}{h':Heap}(x:Ext g T s s') (hg:GK g T s) (hP:s.heap.get? P=none) (hC:s.heap.get? C=none) (hne:C≠P) (acc:Jc0 (P::av) P outs s'.heap) {m:Str->Option Value}(hm:s'.heap.Ns C m) (hs:Heap.SameBut C s'.heap h') :
  JG7 g T av s outs (.ref P) { s' with heap:=h' }:=by
 have ⟨o,_,_,ho,_⟩:=hm
 have mv:Mv g T (fun b=>b=C) s' { s' with heap:=h' }:=Mv.one (tk:=s'.toks) hs ho (Jlu hm ho) (hg.new hC) rfl
 have ks:Ja9 (P::av) s'.heap h':=fun b o' e ho' V=>(hs.2 b fun q=>Jdn hm (q▸e) ho').trans e
 cases acc with | mk ys p r=>exact p.elim fun k e=>⟨x.trans_mv mv fun b hb=>hb▸hC,hP,(hs.2 P (Ne.symm hne)).trans e,r.keep ks⟩
theorem Jfs (ha:c.is_async=0):firstAsync (c::cs)=false:=by cases c; cases ha; rfl
theorem Jgq (env:Env):firstIter (c::cs) env=eval c.iter env:=by cases c; rfl
theorem EvO.comp (has:∀ c'∈c::cs,c'.is_async=0) (hsd:Jez c.iter) (hok:Jcy sc scope=true) (hcap:((cap scope σ).all fun p=>Jhp p.2)=true)
  (hi:EvI prog w g T n sc σ c.target c.iter ds) (hl:Jgd prog w g T (Jad scope sc) (Ja1 scope.names) elt n (cap scope σ) c cs ds outs) (hsz:outs.length<=lim) :
  EvO prog w g T n sc σ (.ListComp elt (c::cs) scope pos) outs:=fun A s av env he rm hg hc=>by
 rw [eval_ListComp,Jfs (has _ (.head _)),Jgq]
 exact Jjh has hsd hok hcap hi hl hsz he rm hg hc fun P C s' x hP hC hne acc hn=>hn.elim fun m hm=>⟨m,hm,fun h' hs=>Jvb x hg hP hC hne acc hm hs⟩
theorem EvO.list {es:List Expr}(h:EvL prog w g T n sc σ es ds) (hz:ds.length<=lim):EvO prog w g T n sc σ (.List es pos) ds:=fun A s av env he rm hg hc=>
 wpAny_List (Ja0 (h.run A s av env pos he rm hg hc) fun vs sA h₁=>⟨JB3 h₁.2 hz,h₁.1.trans (.push _),h₁.1.none hg (Ja8 _),Heap.get?_push_size _ rfl,(h₁.2.avoid (Ja8 sA.heap)).keep (.of_keeps (Jae sA (Jb0 vs 0)))⟩)
end
end
section
theorem VD.to {av av':List Addr}{h:Heap}{v:Value}{d:D}(r:VD av h v d) (hz:∀ b∈av',b∈av\/h.get? b=Option.none):VD av' h v d:=r.mono (fun V V e V V=>e) fun b o e V nb q=>(hz b q).elim nb fun z=>nos z e
theorem VDs.to {av av':List Addr}{h:Heap}{v:List Value}{d:List D}(r:VDs av h v d) (hz:∀ b∈av',b∈av\/h.get? b=Option.none):VDs av' h v d:=r.mono (fun V V e V V=>e) fun b o e V nb q=>(hz b q).elim nb fun z=>nos z e
section
variable {prog:Program}{w:World}{A:Around}{g:Heap}{T:Ja3}{s s' s'':Shared}{av av':List Addr}{ow:Ow}{env:Env}{σ:Sto}{x y:Str}{b:Addr}{ds:List D}{vs:List Value}{n:Nat}{sl:Sl}{v:Value}
theorem Jb7 (h:(x,b)∈ow.l):b∈ow.adr:=List.mem_map.mpr ⟨_,h,rfl⟩
theorem Jl5 {l r r':List Addr}(h:∀ a∈r',a∈r):∀ a∈l++r',a∈l++r:=fun V ha=>(List.mem_append.mp ha).elim (List.mem_append_left _) fun q=>List.mem_append_right _ (h _ q)
theorem Fm.shrink (F:Fm g T av ow env σ s) (hs:∀ a∈av',a∈av):Fm g T av' ow env σ s :=
 ⟨F.gk,⟨F.ec.kind,F.ec.glob,F.ec.blt,fun a ha=>F.ec.avok a (Jl5 hs a ha),fun x sl e=>(F.ec.vars x sl e).rec fun v l r=>⟨v,l,F.slot_to e l r (Jl5 hs) fun b hb=>List.mem_append_left _ (Jb7 hb)⟩,F.ec.cells⟩,F.ns,F.own,F.inj,F.off,F.reg,F.nd,fun a ha q=>F.apt a ha (hs a q),F.isl⟩
theorem Fm.grow {fp:List Addr}(F:Fm g T av ow env σ s) (x:Ext g T s s') (hn:∀ b∈fp,s.heap.get? b=none) (ho:∀ b∈fp,∃ o,s'.heap.get? b=some o/\NT o):Fm g T (fp++av) ow env σ s':=by
 have F':=F.ext x
 have hz:∀ b∈ow.adr++(fp++av),b∈ow.adr++av\/s.heap.get? b=none:=fun b hb=>by
  rcases List.mem_append.mp hb with q | q
  ·exact .inl (List.mem_append_left _ q)
  ·exact (List.mem_append.mp q).elim (fun q=>.inr (hn b q)) fun q=>.inl (List.mem_append_right _ q)
 refine ⟨F'.gk,⟨F.ec.kind,F.ec.glob,F.ec.blt,fun a ha=>?_,fun y sl e=>?_,F'.ec.cells⟩,F'.ns,F'.own,F'.inj,F'.off,F'.reg,F'.nd,fun a ha q=>?_,F'.isl⟩
 ·rcases List.mem_append.mp ha with q | q
  ·exact F'.ec.avok a (List.mem_append_left _ q)
  ·exact (List.mem_append.mp q).elim (ho a) fun q=>F'.ec.avok a (List.mem_append_right _ q)
 ·cases F.ec.vars y sl e with | mk v l r =>
  refine ⟨v,l.ext x F.gk,?_⟩
  cases sl with
  | val d=>exact x.vd F.gk (VD.to r hz)
  | own ds =>
   obtain ⟨a,hm,l'⟩:=F.reg y ds e
   cases r with | mk m e r=>cases l.uniq l'; exact ⟨List.mem_append_left _ (Jb7 hm),x.get' F.gk e (Jai _ _),x.vds F.gk (r.to hz)⟩
 ·exact (List.mem_append.mp q).elim (fun q=>(F.isl a ha).elim fun V p=>p.elim fun V e=>nos (hn a q) e) (F.apt a ha)
theorem Fm.freeze (F:Fm g T av ow env σ s) (h:σ.lookup x=some (.own ds)):Fm g T av (ow.drop x) env ((x,.val (.lst ds))::σ) s:=by
 have hss:∀ a∈(ow.drop x).adr++av,a∈ow.adr++av:=Jdp fun V=>Ow.adr_drop
 refine ⟨F.gk,⟨F.ec.kind,F.ec.glob,F.ec.blt,fun a ha=>F.ec.avok a (hss a ha),fun y sl e=>?_,F.ec.cells⟩,F.ns,F.own,F.inj,fun b hb=>F.off b hb.drop,fun y es e=>?_,Ow.nd_drop F.nd,fun a ha=>F.apt a (Ow.adr_drop ha),fun a ha=>F.isl a (Ow.adr_drop ha)⟩
 ·rcases Jaj e with ⟨rfl,rfl⟩ | ⟨q,e⟩
  ·cases F.ec.vars y _ h with | mk v l r =>
   obtain ⟨a,hm,l'⟩:=F.reg y ds h
   cases r with | mk m e r =>
   cases l.uniq l'
   exact ⟨_,l,.lst (fun q=>(List.mem_append.mp q).elim (Ow.drop_out F.nd hm) (F.apt a (Jb7 hm))) e (r.sub hss)⟩
  ·exact (F.ec.vars y sl e).rec fun v l r=>⟨v,l,F.hold y sl q e v l r⟩
 ·rcases Jaj e with ⟨_,z⟩ | ⟨q,e⟩
  ·exact nomatch z
  ·exact (F.reg y es e).imp fun a p=>⟨Ow.mem_drop p.1 q,p.2⟩
inductive Nx (g:Heap) (T:Ja3) (av:List Addr) (ow:Ow) (env:Env) (s:Shared) (σ':Sto) (s':Shared):Prop
 | mk (ow':Ow) (c:ow'.c=ow.c) (F:Fm g T av ow' env σ' s') (m:Mv g T (Wr env ow) s s') (w:∀ b,Wr env ow' b->Wr env ow b\/s.heap.get? b=none)
theorem Jw5 {P:Addr}(hn:s.heap.get? P=none):∀ b,Wr env (ow.add x P) b->Wr env ow b\/s.heap.get? b=none:=by
 rintro b (q | q | q)
 ·exact .inl (.inl q)
 ·exact .inl (.inr (.inl q))
 ·exact (List.mem_cons.mp q).elim (fun q=>.inr (q▸hn)) fun q=>.inl (.inr (.inr (Ow.adr_drop q)))
theorem Fm.adopt {P:Addr}(F:Fm g T ([P]++av) ow env σ s) (hx:σ.lookup x=some (.val (.adr P))) (hP:P∉av) (hg:g.get? P=none) (e:s.heap.get? P=some (Jb0 vs n)) (r:VDs (P::(ow.adr++av)) s.heap vs ds):Fm g T av (ow.add x P) env ((x,.own ds)::σ) s:=by
 have hin:∀ a∈(ow.add x P).adr,a=P\/a∈ow.adr:=fun a ha=>(List.mem_cons.mp ha).imp id Ow.adr_drop
 have hss:∀ a∈(ow.add x P).adr++av,a∈P::(ow.adr++av):=fun a ha=>(List.mem_append.mp ha).elim (fun q=>(hin a q).elim (fun q=>q▸.head _) fun q=>.tail _ (List.mem_append_left _ q)) fun q=>.tail _ (List.mem_append_right _ q)
 have hs2:∀ a∈(ow.add x P).adr++av,a∈ow.adr++([P]++av):=fun a ha=>(List.mem_cons.mp (hss a ha)).elim (fun q=>q▸List.mem_append_right _ (.head _)) fun q=>Jl5 (fun V=>.tail _) a q
 refine ⟨F.gk,⟨F.ec.kind,F.ec.glob,F.ec.blt,fun a ha=>F.ec.avok a (hs2 a ha),fun y sl q=>?_,F.ec.cells⟩,F.ns,F.own,F.inj,fun b hb=>?_,fun y es q=>?_,List.nodup_cons.mpr ⟨fun q=>F.apt P (Ow.adr_drop q) (.head _),Ow.nd_drop F.nd⟩,fun a ha q=>(hin a ha).elim (fun z=>hP (z▸q)) fun z=>F.apt a z (.tail _ q),fun a ha=>(hin a ha).elim (fun z=>z▸⟨_,_,e⟩) (F.isl a)⟩
 ·rcases Jaj q with ⟨rfl,rfl⟩ | ⟨z,q⟩
  ·exact ⟨_,F.ec.adr hx,⟨List.mem_append_left _ (.head _),e,r.sub hss⟩⟩
  ·exact (F.ec.vars y sl q).rec fun v l r=>⟨v,l,F.slot_to q l r hs2 fun b hb=>List.mem_append_left _ (.tail _ (Jb7 (Ow.mem_drop hb z)))⟩
 ·rcases hb with q | q | q
  ·exact F.off b (.inl q)
  ·exact F.off b (.inr (.inl q))
  ·exact (hin b q).elim (fun z=>z▸hg) fun z=>F.off b (.inr (.inr z))
 ·rcases Jaj q with ⟨rfl,_⟩ | ⟨z,q⟩
  ·exact ⟨P,.head _,F.ec.adr hx⟩
  ·exact (F.reg y es q).imp fun b p=>⟨.tail _ (Ow.mem_drop p.1 z),p.2⟩
theorem Fm.grow1 {P:Addr}(F:Fm g T av ow env σ s) (x:Ext g T s s') (hn:s.heap.get? P=none) (ho:s'.heap.get? P=some (Jb0 vs n)):Fm g T ([P]++av) ow env σ s':=F.grow x (fun b hb=>List.mem_singleton.mp hb▸hn) fun b hb=>List.mem_singleton.mp hb▸⟨_,ho,Jai _ _⟩
theorem Fm.adopt' {P:Addr}{ow':Ow}{σ':Sto}(F:Fm g T av ow env σ s) (xe:Ext g T s s') (hn:s.heap.get? P=none) (ho:s'.heap.get? P=some (Jb0 vs n)) (hd:VDs (P::(ow.adr++av)) s'.heap vs ds) (m:Mv g T (Wr env ow) s' s'') (hw:∀ p∈ow'.l,p∈ow.l) (F':Fm g T ([P]++av) ow' env σ' s'') (hx:σ'.lookup x=some (.val (.adr P))) :
  Fm g T av (ow'.add x P) env ((x,.own ds)::σ') s'':=by
 have FA:=F.grow1 xe hn ho
 have hna:=Jmg F.ec.avok hn
 have hnw:¬ Wr env ow P:=fun q=>(F.wr_ex q).elim fun V e=>nos hn e
 have ks:=m.seq FA.gk (av:=P::(ow.adr++av)) fun b o e ho hw=>.tail _ (List.mem_append_left _ (FA.wlst e ho hw))
 have hs:∀ a∈ow'.adr,a∈ow.adr:=fun a ha=>let ⟨p,hp,z⟩:=List.mem_map.mp ha; List.mem_map.mpr ⟨p,hw p hp,z⟩
 exact F'.adopt hx (fun q=>hna (List.mem_append_right _ q)) (F.gk.new hn) (m.get' FA.gk ho hnw (Jai _ _)) ((hd.keep ks).sub fun a ha=>(List.mem_cons.mp ha).elim (fun q=>q▸.head _) fun q=>.tail _ (Jdp hs a q))
structure JG4 (g:Heap) (T:Ja3) (av:List Addr) (ow:Ow) (env:Env) (s:Shared) (σ':Sto) (sA s2:Shared):Prop where
 nx:Nx g T av ow env s σ' s2
 m:Mv g T (Wr env ow) sA s2
theorem Je2 {d:D}(F:Fm g T av ow env σ s) (hc:Jlf env ow.c x) (xe:Ext g T s s') (hv:VD (ow.adr++av) s'.heap v d):wpAny (model prog w) A (storeName env x v) (fun V s2=>JG4 g T av ow env s ((x,.val d)::σ) s' s2) NoE s' :=
 Ja0 (Jb1 (F.ext xe) hc hv) fun V s2 h=>⟨⟨Ow.drop x ow,rfl,h.F,Mv.trans xe.mv h.m fun b h=>.inl h,fun b h=>.inl h.drop⟩,h.m⟩
theorem Jes {P:Addr}(F:Fm g T av ow env σ s) (hc:Jlf env ow.c x) (xe:Ext g T s s') (hn:s.heap.get? P=none) (ho:s'.heap.get? P=some (Jb0 vs n)) (hd:VDs (P::(ow.adr++av)) s'.heap vs ds) :
  wpAny (model prog w) A (storeName env x (.ref P)) (fun V s2=>JG4 g T av ow env s ((x,.own ds)::σ) s' s2) NoE s' :=
 Ja0 (Jb1 (F.grow1 xe hn ho) hc (.adr P)) fun V s2 h=>⟨⟨(Ow.drop x ow).add x P,rfl,(F.adopt' xe hn ho hd h.m (fun p hp=>(List.mem_filter.mp hp).1) h.F (by rw [Ja6,if_pos rfl])).weak fun y sl e=>by
   rw [Ja6] at e ⊢
   by_cases q:y=x
   ·rw [if_pos q] at e ⊢; exact e
   ·rw [if_neg q] at e ⊢; rw [Ja6,if_neg q]; exact e,Mv.trans xe.mv h.m fun b h=>.inl h,fun b hb=>(Jw5 hn b hb).imp Wr.drop id⟩,h.m⟩
end
end
section
noncomputable def frz:Sl->Sl
 | .own ds=>.val (.lst ds)
 | sl=>sl
noncomputable def froz (σ:Sto):Sto:=σ.map fun p=>(p.1,frz p.2)
theorem Jfr (σ:Sto) (x:Str):(froz σ).lookup x=(σ.lookup x).map frz:=by
 induction σ with
 | nil=>rfl
 | cons p σ ih =>
  obtain ⟨y,sl⟩:=p
  show List.lookup x ((y,frz sl)::froz σ)=_
  rw [Ja6,Ja6,ih]
  split <;> rfl
inductive Rz where
 | next (σ:Sto) | cont (σ:Sto) | brk (σ:Sto) | ret (d:D)
section
variable (g:Heap) (T:Ja3) (av:List Addr) (ow:Ow) (env:Env) (s:Shared)
inductive Jg2:Rz->Flow->Shared->Prop
 | next {σ':Sto}{s':Shared}(n:Nx g T av ow env s σ' s'):Jg2 (.next σ') .next s'
 | cont {σ':Sto}{s':Shared}(n:Nx g T av ow env s σ' s'):Jg2 (.cont σ') .cont s'
 | brk {σ':Sto}{s':Shared}(n:Nx g T av ow env s σ' s'):Jg2 (.brk σ') .brk s'
 | ret {d:D}{v:Value}{s':Shared}(r:VD av s'.heap v d) (m:Mv g T (Wr env ow) s s'):Jg2 (.ret d) (.ret v) s'
end
section
variable (prog:Program) (w:World) (g:Heap) (T:Ja3)
noncomputable def Sx (n:Nat) (sc:Scope) (σ:Sto) (st:Stmt) (R:Rz):Prop :=
 ∀ (A:Around) (s:Shared) (av:List Addr) (ow:Ow) (env:Env),env.scope=sc->ow.c=Ja1 sc.names->Rm n A->Fm g T av ow env σ s->wpAny (model prog w) A (exec st env) (Jg2 g T av ow env s R) NoE s
noncomputable def SxL (n:Nat) (sc:Scope) (σ:Sto) (sts:List Stmt) (R:Rz):Prop :=
 ∀ (A:Around) (s:Shared) (av:List Addr) (ow:Ow) (env:Env),env.scope=sc->ow.c=Ja1 sc.names->Rm n A->Fm g T av ow env σ s->wpAny (model prog w) A (execs sts env) (Jg2 g T av ow env s R) NoE s
noncomputable def Sub (σ σ':Sto):Prop:=∀ x sl,σ.lookup x=some sl->σ'.lookup x=some sl
end
section
variable {prog:Program}{w:World}{g:Heap}{T:Ja3}{n:Nat}{sc:Scope}{σ σ' σA:Sto}{s s' s'':Shared}{av:List Addr}{ow ow' ow1:Ow}{env:Env}{A:Around}{R:Rz}{sA:Shared}{fl:Flow}{st:Stmt}{sts:List Stmt}{pos p:Pos}{e:Expr}{d:D}{x:Str}{ds:List D}
theorem Fm.froz (F:Fm g T av ow env σ s):EC av env (froz σ) s.heap:=by
 have hs:∀ a∈av,a∈ow.adr++av:=fun a=>List.mem_append_right _
 refine ⟨F.ec.kind,F.ec.glob,F.ec.blt,fun a ha=>F.ec.avok a (hs a ha),fun x sl e=>?_,F.ec.cells⟩
 rw [Jfr] at e
 obtain ⟨sl',e',rfl⟩:=Option.map_eq_some_iff.mp e
 cases F.ec.vars x sl' e' with | mk v l r =>
 refine ⟨v,l,?_⟩
 cases sl' with
 | val d=>exact VD.sub hs r
 | own ds =>
  obtain ⟨a,hm,l'⟩:=F.reg x ds e'
  cases r with | mk m e r=>cases l.uniq l'; exact VD.lst (F.apt a (Jb7 hm)) e (r.sub hs)
theorem Nx.of_ext (F:Fm g T av ow env σ s) (x:Ext g T s s'):Nx g T av ow env s σ s':=⟨ow,rfl,F.ext x,x.mv,fun b h=>.inl h⟩
theorem Nx.weak (h:Nx g T av ow env s σ s') (hs:Sub σ' σ):Nx g T av ow env s σ' s':=h.rec fun ow' c F m q=>⟨ow',c,F.weak hs,m,q⟩
theorem Mv.new {W:Addr->Prop}{b:Addr}(m:Mv g T W s s') (q:GK g T s') (h:s'.heap.get? b=none):W b\/s.heap.get? b=none:=by
 by_cases hw:W b
 ·exact .inl hw
 ·exact .inr (Jcl fun o e=>nos h (m.keep b o e hw fun p hp z=>by
   obtain ⟨ps,e',_⟩:=q.tabs p hp
   exact nos h (z▸e')))
theorem Nx.then (cA:ow1.c=ow.c) (q:GK g T sA) (mP:Mv g T (Wr env ow) s sA) (qA:∀ b,Wr env ow1 b->Wr env ow b\/s.heap.get? b=none) (k:Nx g T av ow1 env sA σ' s''):Nx g T av ow env s σ' s'' :=
 k.rec fun ow2 cB Fb mQ qB=>⟨ow2,cB.trans cA,Fb,mP.trans mQ qA,fun b hb=>(qB b hb).elim (qA b) fun z=>mP.new q z⟩
theorem Jg2.then (cA:ow1.c=ow.c) (q:GK g T sA) (mP:Mv g T (Wr env ow) s sA) (qA:∀ b,Wr env ow1 b->Wr env ow b\/s.heap.get? b=none) (k:Jg2 g T av ow1 env sA R fl s''):Jg2 g T av ow env s R fl s'':=by
 cases k with
 | next k=>exact .next (k.then cA q mP qA)
 | cont k=>exact .cont (k.then cA q mP qA)
 | brk k=>exact .brk (k.then cA q mP qA)
 | ret r m=>exact .ret r (mP.trans m qA)
theorem Jg2.ext (F:Fm g T av ow env σ s) (x:Ext g T s s') (k:Jg2 g T av ow env s' R fl s''):Jg2 g T av ow env s R fl s'':=Jg2.then rfl (x.gk F.gk) x.mv (fun b h=>.inl h) k
inductive Rz.sub:Rz->Rz->Prop
 | next {σ σ':Sto}(h:Sub σ' σ):Rz.sub (.next σ) (.next σ')
 | cont {σ σ':Sto}(h:Sub σ' σ):Rz.sub (.cont σ) (.cont σ')
 | brk {σ σ':Sto}(h:Sub σ' σ):Rz.sub (.brk σ) (.brk σ')
 | ret {d:D}:Rz.sub (.ret d) (.ret d)
theorem Jg2.weak {R':Rz}(h:Jg2 g T av ow env s R fl s') (hs:R.sub R'):Jg2 g T av ow env s R' fl s':=by
 cases hs with
 | next z=>cases h with | next k=>exact .next (k.weak z)
 | cont z=>cases h with | cont k=>exact .cont (k.weak z)
 | brk z=>cases h with | brk k=>exact .brk (k.weak z)
 | ret=>exact h
theorem SxL.nil:SxL prog w g T n sc σ [] (.next σ):=fun A s av ow env he hc rm F=>wpAny_execs_nil (.next (Nx.of_ext F .refl))
theorem SxL.cons (h:Sx prog w g T n sc σ st (.next σA)) (hs:SxL prog w g T n sc σA sts R):SxL prog w g T n sc σ (st::sts) R:=fun A s av ow env he hc rm F=>
 wpAny_execs_cons (Ja0 (h A s av ow env he hc rm F) fun fl sA h₁=>by
  cases h₁ with | next k =>
  cases k with | mk ow1 cA FA mP qA=>exact Ja0 (hs A sA av ow1 env he (cA.trans hc) rm FA) fun fl s2 h₂=>h₂.then cA FA.gk mP qA)
theorem SxL.one (h:Sx prog w g T n sc σ st R) (hR:∀ σ',R≠.next σ'):SxL prog w g T n sc σ (st::sts) R:=fun A s av ow env he hc rm F=>
 wpAny_execs_cons (Ja0 (h A s av ow env he hc rm F) fun fl sA h₁=>by
  cases h₁ with
  | next k=>exact absurd rfl (hR _)
  | cont k=>exact .cont k
  | brk k=>exact .brk k
  | ret r m=>exact .ret r m)
theorem SxL.pre (hs:Sub σA σ) (h:SxL prog w g T n sc σA sts R):SxL prog w g T n sc σ sts R:=fun A s av ow env he hc rm F=>h A s av ow env he hc rm (F.weak hs)
theorem SxL.post {R':Rz}(h:SxL prog w g T n sc σ sts R) (hs:R.sub R'):SxL prog w g T n sc σ sts R':=fun A s av ow env he hc rm F=>Ja0 (h A s av ow env he hc rm F) fun fl s' k=>k.weak hs
noncomputable abbrev NoC (e:Expr):Prop:=∀ (t:Option Expr) (l:Nat) (env:Env),swapsWith e t l env=pure false
theorem Sx.assign (h:Ev prog w g T n sc σ e d) (hc:NoC e) (hx:Jh9 sc (Ja1 sc.names) x=true):Sx prog w g T n sc σ (.Assign [.Name x p] e pos) (.next ((x,.val d)::σ)):=fun A s av ow env he hoc rm F=>
 wpAny_Assign_Name (Ja0 (h A s _ env he rm F.gk F.ec) fun v sA h₁=>Ja0 (Je2 F (Jd1 F.ec he (hoc.symm▸hx)) h₁.1 h₁.2) fun V s2 h₂=>.next h₂.nx) (hc _ _ _)
theorem Sx.assignOwn (h:EvO prog w g T n sc σ e ds) (hc:NoC e) (hx:Jh9 sc (Ja1 sc.names) x=true):Sx prog w g T n sc σ (.Assign [.Name x p] e pos) (.next ((x,.own ds)::σ)):=fun A s av ow env he hoc rm F=>
 wpAny_Assign_Name (Ja0 (h A s _ env he rm F.gk F.ec) fun v sA h₁=>by
  cases h₁ with | mk xA hn ho hd=>exact Ja0 (Jes F (Jd1 F.ec he (hoc.symm▸hx)) xA hn ho hd) fun V s2 h₂=>.next h₂.nx) (hc _ _ _)
theorem Sx.ret (h:Ev prog w g T n sc σ e d):Sx prog w g T n sc σ (.Return (some e) pos) (.ret d):=fun A s av ow env he hoc rm F=>
 wpAny_Return_some (Ja0 (h A s _ env he rm F.gk F.ec) fun v sA h₁=>.ret (VD.sub (fun a ha=>List.mem_append_right _ ha) h₁.2) h₁.1.mv)
theorem Sx.retF (h:Ev prog w g T n sc (froz σ) e d):Sx prog w g T n sc σ (.Return (some e) pos) (.ret d):=fun A s av ow env he hoc rm F=>wpAny_Return_some (Ja0 (h A s _ env he rm F.gk F.froz) fun v sA h₁=>.ret h₁.2 h₁.1.mv)
theorem Sx.ite {t:Expr}{body orelse:List Stmt}{b:Bool}(h:EvT prog w g T n sc (Mine.froz σ) t b) (hb:SxL prog w g T n sc σ (if b then body else orelse) R):Sx prog w g T n sc σ (.If t body orelse pos) R:=fun A s av ow env he hoc rm F=>
 wpAny_If (Ja0 (h A s _ env he rm F.gk F.froz) fun c sA h₁=>by
  obtain ⟨rfl,xA⟩:=h₁
  cases c <;> exact Ja0 (hb A sA av ow env he hoc rm (F.ext xA)) fun fl s2 h₂=>h₂.ext F xA)
theorem Sx.brk:Sx prog w g T n sc σ (.Break pos) (.brk σ):=fun A s av ow env he hoc rm F=>wpAny_bind (m:=standAt pos) (wpAny_standAt (wpAny_pure (.brk (Nx.of_ext F .refl))))
end
end
section
section
variable {prog:Program}{w:World}{g:Heap}{T:Ja3}{n:Nat}{sc scope:Scope}{σ:Sto}{s s' sA:Shared}{av:List Addr}{ow ow':Ow}{env:Env}{A:Around}{elt:Expr}{c:Comprehension}{cs:List Comprehension}{ds outs:List D}{C:Addr}{x:Str}{p pos cpos:Pos}{sl:Sl}{m:Str->Option Value}
theorem Jtg (hn:s.heap.Ns C m) {c:Addr}{v:Option Value}(hc:s.heap.IsCell c v):c≠C:=fun q=>Jhj hn (q▸hc)
theorem Fm.side {h':Heap}{tk:Nat}(F:Fm g T av ow env σ s) (hs:Heap.SameBut C s.heap h') (hn:s.heap.Ns C m) (hL:C≠env.locals) (hg:g.get? C=none) (hav:C∉av):JGd g T av ow env σ [C] s { s with heap:=h',toks:=tk }:=by
 have ⟨o,_,_,ho,_⟩:=hn
 have mv:Mv g T (fun b=>b∈[C]) s { s with heap:=h',toks:=tk }:=Mv.one hs ho (Jlu hn ho) hg (.head _)
 have ks:∀ av',Ja9 av' s.heap h':=fun av' b o' e ho' V=>(hs.2 b fun q=>Jdn hn (q▸e) ho').trans e
 have kcell:∀ {c v},s.heap.IsCell c v->h'.IsCell c v:=fun h=>h.sameBut hs (Jtg hn h)
 have kns:∀ {m},s.heap.Ns env.locals m->h'.Ns env.locals m:=fun h=>h.sameBut hs (Ne.symm hL)
 have kl:∀ {x v},Jat env s.heap x v->Jat env h' x v:=fun l=>l.to kns fun V=>kcell
 have klst:∀ {a vs k},s.heap.get? a=some (Jb0 vs k)->h'.get? a=some (Jb0 vs k):=fun e=>ks [] _ _ e ⟨_,_,.inr rfl⟩ nofun
 refine ⟨⟨mv.gk F.gk,⟨F.ec.kind,F.ec.glob,F.ec.blt,fun a ha=>(F.ec.avok a ha).imp fun o' p=>⟨(hs.2 a fun q=>?_).trans p.1,p.2⟩,fun x sl e=>?_,fun x h=>(F.ec.cells x h).imp fun V p=>⟨p.1,p.2.imp fun V=>kcell⟩⟩,F.ns.imp fun V=>kns,fun x c hm k e=>(F.own x c hm k e).imp fun V=>kcell,F.inj,F.off,
  fun x ds e=>(F.reg x ds e).imp fun V p=>⟨p.1,kl p.2⟩,F.nd,F.apt,fun a ha=>(F.isl a ha).imp fun V=>Exists.imp fun V=>klst⟩,mv⟩
 ·exact (List.mem_append.mp ha).elim (fun z=>(F.isl a z).elim fun V p=>p.elim fun V e=>Jdn hn (q▸e) ⟨_,_,.inr rfl⟩) fun z=>hav (q▸z)
 ·cases F.ec.vars x sl e with | mk v l r =>
  refine ⟨v,kl l,?_⟩
  cases sl with
  | val d=>exact VD.keep (ks _) r
  | own ds=>cases r with | mk m e r=>exact ⟨m,klst e,r.keep (ks _)⟩
theorem Fm.wr_not (F:Fm g T av ow env σ s) (h:s.heap.get? C=none):¬ Wr env ow C:=fun hw=>(F.wr_ex hw).elim fun V e=>nos h e
theorem Jnk {P:Addr}(F:Fm g T av ow env σ s) (xe:Ext g T s s') (hC:s.heap.get? C=none) (hn:s'.heap.Ns C m)
  (hst:wpAny (model prog w) A (storeName env x (.ref P)) (fun V s2=>JG4 g T av ow env s ((x,sl)::σ) s' s2) NoE s') :
  wpAny (model prog w) A (assign (.Name x p) env (.ref P)) (fun V s2=>∃ m',s2.heap.Ns C m'/\∀ h',Heap.SameBut C s2.heap h'->Jg2 g T av ow env s (.next ((x,sl)::σ)) .next { s2 with heap:=h' }) NoE s' :=
 wpAny_assign_Name (Ja0 hst fun V s2 h₂=>by
  have hns2:s2.heap.Ns C m:=Jfl hn fun o e nt=>h₂.m.get' (xe.gk F.gk) e (F.wr_not hC) nt
  have hL:C≠env.locals:=fun q=>F.ns.elim fun V n=>n.elim fun V n=>n.elim fun V n=>n.elim fun V n=>nos hC (q▸n.1)
  refine ⟨m,hns2,fun h' hs=>.next ?_⟩
  cases h₂.nx with | mk ow' c Fb mQ w =>
  have f:=Fb.side (tk:=s2.toks) hs hns2 hL (F.gk.new hC) fun q=>Jmg F.ec.avok hC (List.mem_append_right _ q)
  exact ⟨ow',c,f.F,Mv.trans mQ f.m fun b hb=>.inr (List.mem_singleton.mp hb▸hC),w⟩)
theorem Jl3 {Q:Flow->Shared->Prop}(ha:c.is_async=0)
  (h1:wpAny (model prog w) A (eval (.ListComp elt (c::cs) scope cpos) env) (fun v sA=>wpAny (model prog w) A (storeName env x v) (fun V=>Q .next) NoE sA) NoE s)
  (h2:wpAny (model prog w) A (comprehension (.ListComp elt (c::cs) scope cpos) scope env (firstIterPos (c::cs) cpos) (newList []) false (eval c.iter env) (some (assign (.Name x p) env))) (fun V s'=>Q .next s') NoE s) :
  wpAny (model prog w) A (exec (.Assign [.Name x p] (.ListComp elt (c::cs) scope cpos) pos) env) Q NoE s:=by
 obtain ⟨b,hb⟩:∃ b,swapsWith (.ListComp elt (c::cs) scope cpos) (some (.Name x p)) pos.line env=pure b:=⟨_,rfl⟩
 cases b with
 | false=>exact wpAny_Assign_Name h1 hb
 | true =>
  rw [exec_Assign_Name_used _ _ _ _ hb]
  refine wpAny_bind (wpAny_standAt (wpAny_bind ?_))
  show wpAny _ A (do let _ <- comprehension (.ListComp elt (c::cs) scope cpos) scope env (firstIterPos (c::cs) cpos) (newList []) (firstAsync (c::cs)) (firstIter (c::cs) env) (some (assign (.Name x p) env))) _ _ s
  rw [Jfs ha,Jgq]
  exact wpAny_bind (wpAny_mono h2 (fun V s' hq=>wpAny_pure (wpAny_pure hq)) fun V V e=>e)
section
variable (has:∀ c'∈c::cs,c'.is_async=0) (hsd:Jez c.iter) (hok:Jcy sc scope=true) (hcap:((cap scope σ).all fun p=>Jhp p.2)=true)
  (hi:EvI prog w g T n sc σ c.target c.iter ds) (hl:Jgd prog w g T (Jad scope sc) (Ja1 scope.names) elt n (cap scope σ) c cs ds outs) (hsz:outs.length<=lim)
include has hsd hok hcap hi hl hsz
theorem Sx.assignComp (hx:Jh9 sc (Ja1 sc.names) x=true):Sx prog w g T n sc σ (.Assign [.Name x p] (.ListComp elt (c::cs) scope cpos) pos) (.next ((x,.val (.lst outs))::σ)):=fun A s av ow env he hoc rm F=>
 Jl3 (has _ (.head _)) (Ja0 ((EvO.comp has hsd hok hcap hi hl hsz).ev A s _ env he rm F.gk F.ec) fun v sA h₁=>Ja0 (Je2 F (Jd1 F.ec he (hoc.symm▸hx)) h₁.1 h₁.2) fun V s2 h₂=>.next h₂.nx)
  (Jjh has hsd hok hcap hi hl hsz he rm F.gk F.ec fun P C s' xe hP hC hne acc hn=>hn.elim fun m hm=>acc.rec fun ys p r=>p.elim fun k eP=>
   Jnk F xe hC hm (Je2 F (Jd1 F.ec he (hoc.symm▸hx)) xe (.lst (vs:=ys.toList) (Jmg F.ec.avok hP) eP (r.sub fun a ha=>.tail _ ha))))
end
end
end
section
inductive Jb4:List Expr->List Str->Prop
 | nil:Jb4 [] []
 | cons {x:Str}{p:Pos}{es:List Expr}{xs:List Str}:Jb4 es xs->Jb4 (.Name x p::es) (x::xs)
theorem Jb4.length {es:List Expr}{xs:List Str}(h:Jb4 es xs):es.length=xs.length:=h.rec rfl fun V ih=>congrArg (· + 1) ih
theorem Jb4.filter {f:Expr->Option Str}(hf:∀ x p,f (.Name x p)=some x\/f (.Name x p)=none) {es:List Expr}{xs:List Str}(h:Jb4 es xs):(es.filterMap f).length=es.length->es.filterMap f=xs :=
 h.rec (fun V=>rfl) fun {x p es xs} _ ih hl=>(hf x p).elim (fun q=>by
  rw [List.filterMap_cons_some q] at hl ⊢; exact congrArg (x :: ·) (ih (Nat.succ.inj hl))) fun q=>by
  rw [List.filterMap_cons_none q] at hl; exact absurd (hl▸List.length_filterMap_le f es) (Nat.not_succ_le_self _)
theorem Jb4.each {es:List Expr}{xs:List Str}(h:Jb4 es xs) (env:Env):assignEach es env=es.map fun e=>(false,assign e env):=h.rec rfl fun V ih=>congrArg (_ :: ·) ih
theorem Jb4.tg {es:List Expr}{xs:List Str}(h:Jb4 es xs):∀ {ds:List D},xs.length=ds.length->Jc6 es ds (xs.zip ds):=by
 induction h with
 | nil=>intro ds hl; cases ds with
  | nil=>exact .nil
  | cons=>cases hl
 | cons _ ih=>intro ds hl; cases ds with
  | nil=>cases hl
  | cons=>exact .cons (ih (Nat.succ.inj hl))
theorem JCh {α:Type}{c:Prop} [d:Decidable c] {P:α->Prop}{a b:α}(h:c->P a) (h':¬c->P b):P (if c then a else b):=match d with | .isTrue q=>h q | .isFalse q=>h' q
theorem JCg {α:Type}{c:Bool}{a b:α}:(if c=true then a else b)=a\/(if c=true then a else b)=b:=c.rec (.inr rfl) (.inl rfl)
noncomputable def Jii (vs:List Expr):Bool:=vs.all (foldedForSure 8) || !(vs.all (constantsAlone 8))
theorem Jh8 {ts vs:List Expr}{k k2:Nat}{p p2:Pos}{xs:List Str}{env:Env}(h:Jb4 ts xs) (hk:Jii vs=true):∃ sw,swappedStores [.Tuple ts k p] (.Tuple vs k2 p2) env=pure sw/\(sw=none\/sw=some xs):=by
 unfold swappedStores
 simp only [Jii,Bool.or_eq_true,Bool.not_eq_true'] at hk
 dsimp only
 have no:∃ sw,(pure none:Sem (Option (List Str)))=pure sw/\(sw=none\/sw=some xs):=⟨none,rfl,.inl rfl⟩
 refine JCh (P:=fun t=>∃ sw,t=pure sw/\(sw=none\/sw=some xs)) (fun V=>no) fun V=>?_
 refine JCh (P:=fun t=>∃ sw,t=pure sw/\(sw=none\/sw=some xs)) (fun V=>no) fun V=>?_
 refine JCh (P:=fun t=>∃ sw,t=pure sw/\(sw=none\/sw=some xs)) (fun V=>no) fun hc=>?_
 refine JCh (P:=fun t=>∃ sw,t=pure sw/\(sw=none\/sw=some xs)) (fun V=>no) fun hf=>?_
 refine JCh (P:=fun t=>∃ sw,t=pure sw/\(sw=none\/sw=some xs)) (fun hq=>?_) fun V=>?_
 ·rcases hk with q | q
  ·exact absurd q hf
  ·rw [q] at hq; exact (Jbe tgS hq rfl).elim
 ·refine ⟨_,rfl,.inr ?_⟩
  congr 1
  exact h.filter (fun V V=>JCg) (Decidable.byContradiction fun q=>hc (by rw [bne_iff_ne.mpr q]; rfl))
section
variable {prog:Program}{w:World}{g:Heap}{T:Ja3}{n:Nat}{sc scope:Scope}{σ σ':Sto}{s s' sA:Shared}{av:List Addr}{ow ow':Ow}{env:Env}{A:Around}{xs:List Str}{us:List Value}{ds ods:List D}{ts es:List Expr}{k k2:Nat}{p p2 pos:Pos}{e:Expr}{d:D}{x:Str}{b:Bd}
theorem EC.grow {fp:List Addr}(c:EC av env σ s.heap) (x:Ext g T s s') (q:GK g T s) (hn:∀ b∈fp,s.heap.get? b=none) (ho:∀ b∈fp,∃ o,s'.heap.get? b=some o/\NT o):EC (fp++av) env σ s'.heap:=by
 have hz:∀ b∈fp++av,b∈av\/s.heap.get? b=none:=fun b hb=>(List.mem_append.mp hb).elim (fun q=>.inr (hn b q)) .inl
 refine ⟨c.kind,c.glob,c.blt,fun a ha=>(List.mem_append.mp ha).elim (ho a) (c.avok.ext x q a),fun y sl e=>?_,(c.ext x q).cells⟩
 cases c.vars y sl e with | mk v l r =>
 refine ⟨v,l.ext x q,?_⟩
 cases sl with
 | val d=>exact x.vd q (VD.to r hz)
 | own ds=>cases r with | mk m e r=>exact ⟨List.mem_append_right _ m,x.get' q e (Jai _ _),x.vds q (r.to hz)⟩
theorem Jf6:∀ (b:Bd) (σ:Sto) (x:Str),(∀ p∈b,p.1≠x)->(Ja4 b σ).lookup x=σ.lookup x
 | [],_,_,_=>rfl
 | (y,d)::r,σ,x,h=>by rw [Ja4,Jf6 r _ x fun p hp=>h p (.tail _ hp),Ja6,if_neg fun q=>h _ (.head _) q.symm]
theorem Ji5:∀ (b:Bd) (σ:Sto),(b.map (·.1)).Nodup->∀ {x d},(x,d)∈b->(Ja4 b σ).lookup x=some (.val d)
 | (y,d)::r,σ,hn,x,d',hm=>by
  rw [List.map_cons,List.nodup_cons] at hn
  rcases List.mem_cons.mp hm with q | hm
  ·cases q
   rw [Ja4,Jf6 r _ _ fun p hp q=>hn.1 (List.mem_map.mpr ⟨p,hp,q⟩),Ja6,if_pos rfl]
  ·exact Ji5 r _ hn.2 hm
theorem Jvj (b:Bd) (σ:Sto) (hn:(b.map (·.1)).Nodup):Sub (Ja4 b σ) (Ja4 b.reverse σ):=fun x sl e=>by
 by_cases h:∃ p∈b,p.1=x
 ·obtain ⟨⟨y,d⟩,hp,rfl⟩:=h
  rw [Ji5 b σ hn hp] at e
  rw [Ji5 b.reverse σ (by rw [List.map_reverse]; exact List.pairwise_reverse.mpr (hn.imp Ne.symm)) (List.mem_reverse.mpr hp)]; exact e
 ·have h1:∀ p∈b,p.1≠x:=fun p hp q=>h ⟨p,hp,q⟩
  rw [Jf6 b σ x h1] at e
  rw [Jf6 b.reverse σ x fun p hp=>h1 p (List.mem_reverse.mp hp)]; exact e
theorem Joa (he:env.scope=sc) (ds:List D):∀ {xs:List Str}{vs:List Value}{σ:Sto}{ow:Ow}{s:Shared},Fm g T av ow env σ s->xs.all (Jh9 sc ow.c)=true->xs.length=ds.length->VDs (ow.adr++av) s.heap vs ds ->
  wpAny (model prog w) A (assignInOrder (xs.map fun x=>bindName env x) vs) (fun V s'=>AsV g T av ow env (Ja4 (xs.zip ds) σ) s s') NoE s:=by
 induction ds with
 | nil =>
  intro xs vs σ ow s F _ hl hv
  cases xs with
  | cons=>cases hl
  | nil=>rw [hv.i0]; exact wpAny_assignInOrder_none ⟨ow,rfl,F,.refl,fun V h=>h,fun V h=>h⟩
 | cons d ds ih =>
  intro xs vs σ ow s F hst hl hv
  cases xs with
  | nil=>cases hl
  | cons x xs =>
  cases hv.i1 with | mk v1 vr =>
  have hh:=Bool.and_eq_true_iff.mp ((List.all_cons ..).symm.trans hst)
  refine wpAny_assignInOrder_more (wpAny_bindName (Ja0 (Jb1 F (Jd1 F.ec he hh.1) v1) fun V sA h=>?_))
  refine Ja0 (ih h.F hh.2 (Nat.succ.inj hl) ((vr.keep (h.m.seq F.gk (av:=ow.adr++av) F.wseq)).sub (Jdp fun V=>Ow.adr_drop))) fun V s2 h₂=>?_
  cases h₂ with | mk ow' c Fb m w l=>exact ⟨ow',c,Fb,h.m.trans m Jei,fun c hc=>(w c hc).drop,fun p hp=>(List.mem_filter.mp (l p hp)).1⟩
theorem Jxf {ds:List D}:∀ {xs:List Str},xs.length=ds.length->xs.reverse.zip ds.reverse=(xs.zip ds).reverse:=by
 induction ds with
 | nil=>intro xs h; cases xs with
  | nil=>rfl
  | cons=>cases h
 | cons d ds ih=>intro xs h; cases xs with
  | nil=>cases h
  | cons x xs=>rw [List.reverse_cons,List.reverse_cons,List.zip_append (by rw [List.length_reverse,List.length_reverse]; exact Nat.succ.inj h),ih (Nat.succ.inj h)]; exact List.reverse_cons.symm
noncomputable abbrev JI5 (ts:List Expr) (k:Nat) (p:Pos) (e:Expr):Prop:=∀ env,swappedStores [.Tuple ts k p] e env=pure none
theorem Sx.assignTup (h:Ev prog w g T n sc σ e (.tup ds)) (hc:NoC e) (hnt:JI5 ts k p e) (ht:Jc6 ts ds b) (hst:Je4 sc (Ja1 sc.names) b):Sx prog w g T n sc σ (.Assign [.Tuple ts k p] e pos) (.next (Ja4 b σ)):=fun A s av ow env he hoc rm F=>
 Assign_Tuple (Ja0 (h A s _ env he rm F.gk F.ec) fun v sA h₁=>Ja0 (Jd4 rm.hand he (F.ext h₁.1) (.tup ht) (hoc.symm▸hst) h₁.2) fun V s2 h₂=>by
  cases h₂ with | mk ow' c Fb m w l=>exact .next ⟨ow',c,Fb,Mv.trans h₁.1.mv m fun b h=>.inl h,fun b h=>.inl (w b h)⟩) (show swapsWith e (some (.Tuple ts k p)) pos.line env=pure false from hc _ _ _) (hnt env)
inductive JGz (Z:List Addr->List D->List Value->Shared->Prop):Value->Shared->Prop
 | mk {av:List Addr}{ds:List D}{t:Addr}{us:List Value}{m:Nat}{s:Shared}(e:s.heap.get? t=some (Jom us m)) (z:Z av ds us s):JGz Z (.ref t) s
inductive JG3 (g:Heap) (T:Ja3) (ow:Ow) (env:Env) (σ:Sto) (xs:List Str) (Z:List Addr->List D->List Value->Shared->Prop):Flow->Shared->Prop
 | mk {av:List Addr}{ds:List D}{us:List Value}{sA s2:Shared}(z:Z av ds us sA) (a:AsV g T av ow env (Ja4 (xs.zip ds) σ) sA s2):JG3 g T ow env σ xs Z .next s2
structure JI3 (g:Heap) (T:Ja3) (ow:Ow) (env:Env) (σ:Sto) (xs:List Str) (av:List Addr) (ds:List D) (us:List Value) (s:Shared):Prop where
 F:Fm g T av ow env σ s
 v:VDs (ow.adr++av) s.heap us ds
 l:xs.length=ds.length
theorem Jf9 {Z:List Addr->List D->List Value->Shared->Prop}(he:env.scope=sc) (rm:Rm n A) (hev:wpAny (model prog w) A (eval (.Tuple es k2 p2) env) (JGz Z) NoE s) (hZ:∀ {av ds us s h'},Z av ds us s->(∀ b o,s.heap.get? b=some o->h'.get? b=some o)->Z av ds us { s with heap:=h' })
  (ht:Jb4 ts xs) (hsw:Jii es=true) (hnd:xs.Nodup) (hst:xs.all (Jh9 sc ow.c)=true) (hF:∀ av ds us sA,Z av ds us sA->JI3 g T ow env σ xs av ds us sA) :
  wpAny (model prog w) A (exec (.Assign [.Tuple ts k p] (.Tuple es k2 p2) pos) env) (JG3 g T ow env σ xs Z) NoE s:=by
 obtain ⟨sw,hsw',hcase⟩:=Jh8 (k:=k) (p:=p) (k2:=k2) (p2:=p2) (env:=env) ht hsw
 have hz:∀ {av ds us sA h'},Z av ds us sA->Heap.ExtBut sA.heap.objs.size sA.heap h'->Z av ds us { sA with heap:=h' }:=fun z hk=>hZ z fun c o e=>hk c o (fun q=>nos (Ja8 _) (q▸e)) e
 rcases hcase with rfl | rfl
 ·refine Assign_Tuple (Ja0 hev fun v sA h₁=>?_) rfl hsw'
  cases h₁ with | mk ho z =>
  have hte:=ht.each env
  refine wpAny_assign_Tuple rm.hand ⟨_,ho,rfl,_,rfl⟩ ?_ ?_ fun h' hk=>?_
  ·rw [hte,List.length_map,List.size_toArray,ht.length,(hF _ _ _ _ z).l,(hF _ _ _ _ z).v.length]
  ·rw [hte,List.findIdx?_eq_none_iff]
   intro y hy
   obtain ⟨e,_,rfl⟩:=List.mem_map.mp hy
   rfl
  ·have z:=hz z hk
   have f:=hF _ _ _ _ z
   rw [hte,List.map_map]
   exact Ja0 (Jlh (ht.tg f.l) f.F (fun x d hm=>he.symm▸List.all_eq_true.mp hst x (List.of_mem_zip hm).1) f.v) fun V s2 h₂=>⟨z,h₂⟩
 ·refine Assign_Tuple_swapped (Ja0 hev fun v sA h₁=>?_) rfl hsw'
  cases h₁ with | mk ho z =>
  have f:=hF _ _ _ _ z
  rw [f.l.trans f.v.length.symm]
  refine wpAny_unpackItems_tuple rm.hand ⟨_,ho,rfl,_,rfl⟩ fun h' hk=>?_
  have z:=hz z hk
  have f:=hF _ _ _ _ z
  refine Ja0 (Joa he _ (xs:=xs.reverse) f.F (by rw [List.all_reverse]; exact hst) (by rw [List.length_reverse,List.length_reverse]; exact f.l) f.v.reverse) fun V s2 h₂=>⟨z,?_⟩
  cases h₂ with | mk ow' c Fb m w l =>
  refine ⟨ow',c,Fb.weak ?_,m,w,l⟩
  rw [show xs.reverse.zip _=(xs.zip _).reverse from Jxf f.l]
  exact Jvj _ _ (by rw [List.map_fst_zip (Nat.le_of_eq f.l)]; exact hnd)
structure ZV (g:Heap) (T:Ja3) (av0:List Addr) (ow:Ow) (s:Shared) (ds0:List D) (av:List Addr) (ds:List D) (us:List Value) (sA:Shared):Prop where
 ea:av=av0
 ed:ds=ds0
 x:Ext g T s sA
 v:VDs (ow.adr++av0) sA.heap us ds0
theorem Sx.assignTupX (h:EvL prog w g T n sc σ es ds) (hz:ds.length<=lim) (ht:Jb4 ts xs) (hl:xs.length=ds.length) (hsw:Jii es=true) (hnd:xs.Nodup) (hst:xs.all (Jh9 sc (Ja1 sc.names))=true) :
  Sx prog w g T n sc σ (.Assign [.Tuple ts k p] (.Tuple es k2 p2) pos) (.next (Ja4 (xs.zip ds) σ)):=fun A s av ow env he hoc rm F=>
 Ja0 (Jf9 he rm (Z:=ZV g T av ow s ds) (wpAny_Tuple (Ja0 (h.run A s _ env p2 he rm F.gk F.ec) fun us sA h₁=>⟨JB3 h₁.2 hz,.mk (m:=0) (Heap.get?_push_size _ rfl) ⟨rfl,rfl,h₁.1.trans (.push _),(Ext.push (g:=g) (T:=T) _).vds (h₁.1.gk F.gk) h₁.2⟩⟩))
  (fun z hk=>have x:=Ext.of _ _ hk; ⟨z.ea,z.ed,z.x.trans x,x.vds (z.x.gk F.gk) z.v⟩) ht hsw hnd (hoc.symm▸hst) fun av ds us sA z=>⟨z.ea▸F.ext z.x,z.ea▸z.ed▸z.v,z.ed▸hl⟩) fun fl s2 h₂=>by
  cases h₂ with | mk z a =>
  obtain ⟨rfl,rfl,x,v⟩:=z
  cases a with | mk ow' c Fb m w l=>exact .next ⟨ow',c,Fb,Mv.trans x.mv m fun b h=>.inl h,fun b h=>.inl (w b h)⟩
inductive JH4 (g:Heap) (T:Ja3) (av:List Addr) (s:Shared) (ods:List D) (f:Addr->List D) (us:List Value) (s':Shared):Prop
 | mk (P:Addr) (ls:List Value) (m:Nat) (x:Ext g T s s') (hn:s.heap.get? P=none) (ho:s'.heap.get? P=some (Jb0 ls m)) (hd:VDs (P::av) s'.heap ls ods) (hv:VDs (P::av) s'.heap us (f P))
section
variable (prog:Program) (w:World) (g:Heap) (T:Ja3)
noncomputable def Jw3 (n:Nat) (sc:Scope) (σ:Sto) (es:List Expr) (ods:List D) (f:Addr->List D):Prop :=
 ∀ (A:Around) (s:Shared) (av:List Addr) (env:Env) (pos:Pos),env.scope=sc->Rm n A->GK g T s->EC av env σ s.heap->wpAny (model prog w) A (spliced (backTo pos (starEach es env))) (JH4 g T av s ods f) NoE s
end
theorem Jw3.val {f:Addr->List D}(hst:∀ env,starEach (e::es) env=(false,eval e env)::starEach es env) (h:Ev prog w g T n sc σ e d) (hs:Jw3 prog w g T n sc σ es ods f):Jw3 prog w g T n sc σ (e::es) ods (fun b=>d::f b):=fun A s av env pos he rm hg hc=>
 wpAny_items_cons (Ja0 (h A s av env he rm hg hc) fun v sA h₁=>Ja0 (hs A sA av env pos he rm (h₁.1.gk hg) (hc.ext h₁.1 hg)) fun vs s2 h₂=>by
  cases h₂ with | mk P ls m x hn ho hd hv =>
  exact ⟨P,ls,m,h₁.1.trans x,h₁.1.none hg hn,ho,hd,.cons (x.vd (h₁.1.gk hg) (h₁.2.to fun b hb=>(List.mem_cons.mp hb).elim (fun q=>.inr (q▸hn)) .inl)) hv⟩) (hst env)
theorem Jw3.own (hst:∀ env,starEach (e::es) env=(false,eval e env)::starEach es env) (h:EvO prog w g T n sc σ e ods) (hs:EvL prog w g T n sc σ es ds):Jw3 prog w g T n sc σ (e::es) ods (fun b=>.adr b::ds):=fun A s av env pos he rm hg hc=>
 wpAny_items_cons (Ja0 (h A s av env he rm hg hc) fun v sA h₁=>by
  cases h₁ with | mk xA hn ho hd =>
  have gA:=xA.gk hg
  have cA:EC (_::av) env σ sA.heap:=(hc.grow xA hg (fun b hb=>List.mem_singleton.mp hb▸hn) fun b hb=>List.mem_singleton.mp hb▸⟨_,ho,Jai _ _⟩:EC ([_]++av) env σ sA.heap)
  exact Ja0 (hs.run A sA _ env pos he rm gA cA) fun vs s2 h₂=>⟨_,_,_,xA.trans h₂.1,hn,h₂.1.get' gA ho (Jai _ _),h₂.1.vds gA hd,.cons (.adr _) h₂.2⟩) (hst env)
inductive ZO (g:Heap) (T:Ja3) (av0:List Addr) (ow:Ow) (s:Shared) (ods:List D) (f:Addr->List D):List Addr->List D->List Value->Shared->Prop
 | mk {P:Addr}{us:List Value}{sA:Shared}(o:JH4 g T (ow.adr++av0) s ods f us sA) (ls:List Value) (m:Nat) (x:Ext g T s sA) (hn:s.heap.get? P=none) (ho:sA.heap.get? P=some (Jb0 ls m)) (hd:VDs (P::(ow.adr++av0)) sA.heap ls ods) (hv:VDs (P::(ow.adr++av0)) sA.heap us (f P)):ZO g T av0 ow s ods f ([P]++av0) (f P) us sA
theorem Sx.assignTupO {f:Addr->List D}(h:Jw3 prog w g T n sc σ es ods f) (hz:∀ b,(f b).length<=lim) (ht:Jb4 ts xs) (hl:∀ b,xs.length=(f b).length) (hsw:Jii es=true) (hnd:xs.Nodup) (hst:xs.all (Jh9 sc (Ja1 sc.names))=true) (hx:∀ b,(x,D.adr b)∈xs.zip (f b))
  (hσ:∀ b,Sub σ' ((x,.own ods)::Ja4 (xs.zip (f b)) σ)):Sx prog w g T n sc σ (.Assign [.Tuple ts k p] (.Tuple es k2 p2) pos) (.next σ'):=fun A s av ow env he hoc rm F=>
 Ja0 (Jf9 he rm (Z:=ZO g T av ow s ods f) (wpAny_Tuple (Ja0 (h A s _ env p2 he rm F.gk F.ec) fun us sA h₁=>by
   cases h₁ with | mk P ls m x hn ho hd hv =>
   have y:Ext g T sA { sA with heap:=sA.heap.push (Jom us 0) }:=.push _
   have q:=x.gk F.gk
   exact ⟨JB3 hv (hz P),.mk (m:=0) (Heap.get?_push_size _ rfl) (.mk ⟨P,ls,m,x.trans y,hn,y.get' q ho (Jai _ _),y.vds q hd,y.vds q hv⟩ ls m (x.trans y) hn (y.get' q ho (Jai _ _)) (y.vds q hd) (y.vds q hv))⟩))
  (fun {_ _ _ sA _} z hk=>by
   cases z with | mk o ls m x hn ho hd hv =>
   have y:=Ext.of (g:=g) (T:=T) _ sA.toks hk
   have q:=x.gk F.gk
   exact .mk ⟨_,ls,m,x.trans y,hn,hk _ _ ho,y.vds q hd,y.vds q hv⟩ ls m (x.trans y) hn (hk _ _ ho) (y.vds q hd) (y.vds q hv)) ht hsw hnd (hoc.symm▸hst) fun av' ds us sA z=>by
   cases z with | mk o ls m x hn ho hd hv =>
   exact ⟨F.grow1 x hn ho,hv.sub fun a ha=>(List.mem_append.mp ha).elim (fun q=>.tail _ (List.mem_append_left _ q)) fun q=>(List.mem_append.mp q).elim (fun q=>List.mem_singleton.mp q▸.head _) fun q=>.tail _ (List.mem_append_right _ q),hl _⟩) fun fl s2 h₂=>by
  cases h₂ with | mk z a =>
  cases z with | mk o ls m x hn ho hd hv =>
  cases a with | mk ow' c Fb mQ w l =>
  exact .next ⟨ow'.add _ _,c,(F.adopt' x hn ho hd mQ l Fb (Ji5 _ _ (by rw [List.map_fst_zip (Nat.le_of_eq (hl _))]; exact hnd) (hx _))).weak (hσ _),Mv.trans x.mv mQ fun b h=>.inl h,fun b hb=>(Jw5 hn b hb).elim (fun q=>.inl (w b q)) .inr⟩
end
end
end
section
open PySem PySem.W PyProof.Rows
end
section
open PySem PySem.Spec PySem.Calls PyProof.Rows PyProof.V PySem.W
section
section
variable {prog:Program}{w:World}{g:Heap}{T:Ja3}{n:Nat}{sc:Scope}{σ:Sto}{s s':Shared}{av:List Addr}{ow:Ow}{env:Env}{A:Around}{x:Str}{ds ds':List D}{a:Addr}{vs vs':List Value}{k k' tk:Nat}{h':Heap}{p apos cpos pos:Pos}{e:Expr}{d:D}
theorem Fm.ownMv (F:Fm g T av ow env σ s) (hax:(x,a)∈ow.l) (lx:Jat env s.heap x (.ref a)) (mv:GK g T s') (kp:∀ b o,b≠a->s.heap.get? b=some o->NT o->s'.heap.get? b=some o) (ho:s'.heap.get? a=some (Jb0 vs' k')) (hd:VDs (ow.adr++av) s'.heap vs' ds'):Fm g T av ow env ((x,.own ds')::σ) s':=by
 have haa:=Jb7 hax
 have hav:a∈ow.adr++av:=List.mem_append_left _ haa
 obtain ⟨us,k,e0⟩:=F.isl a haa
 have ks:Ja9 (ow.adr++av) s.heap s'.heap:=fun b o e ho' nb=>kp b o (fun q=>nb (q▸hav)) e ho'.nt
 have kcell:∀ {c v},s.heap.IsCell c v->s'.heap.IsCell c v:=fun h=>Jbf h fun o e=>kp _ o (fun q=>Jdh (q▸h) e0 ⟨_,_,.inr rfl⟩) e
 have kns:∀ {m},s.heap.Ns env.locals m->s'.heap.Ns env.locals m:=fun h=>Jfl h fun o e=>kp _ o (fun q=>Jdn (q▸h) e0 ⟨_,_,.inr rfl⟩) e
 have kl:∀ {x v},Jat env s.heap x v->Jat env s'.heap x v:=fun l=>l.to kns fun V=>kcell
 refine ⟨mv,⟨F.ec.kind,F.ec.glob,F.ec.blt,fun b hb=>?_,fun y sl e=>?_,fun y h=>(F.ec.cells y h).imp fun V p=>⟨p.1,p.2.imp fun V=>kcell⟩⟩,F.ns.imp fun V=>kns,fun y c hm k e=>(F.own y c hm k e).imp fun V=>kcell,F.inj,F.off,
  fun y es e=>?_,F.nd,F.apt,fun b hb=>?_⟩
 ·by_cases q:b=a
  ·exact q▸⟨_,ho,Jai _ _⟩
  ·exact (F.ec.avok b hb).imp fun o p=>⟨kp b o q p.1 p.2,p.2⟩
 ·rcases Jaj e with ⟨rfl,rfl⟩ | ⟨q,e⟩
  ·exact ⟨_,kl lx,hav,ho,hd⟩
  ·cases F.ec.vars y sl e with | mk v l r =>
   refine ⟨v,kl l,?_⟩
   cases sl with
   | val d=>exact VD.keep ks r
   | own es =>
    obtain ⟨b,hb,l'⟩:=F.reg y es e
    cases r with | mk m eo r =>
    cases l.uniq l'
    exact ⟨m,kp b _ (fun z=>q (Jfm F.nd (z▸hb) hax)) eo (Jai _ _),r.keep ks⟩
 ·rcases Jaj e with ⟨rfl,_⟩ | ⟨_,e⟩
  ·exact ⟨a,hax,kl lx⟩
  ·exact (F.reg y es e).imp fun b p=>⟨p.1,kl p.2⟩
 ·by_cases q:b=a
  ·exact q▸⟨_,_,ho⟩
  ·exact (F.isl b hb).imp fun V=>Exists.imp fun V e=>kp b _ q e (Jai _ _)
theorem Fm.setOwn (F:Fm g T av ow env σ s) (hax:(x,a)∈ow.l) (lx:Jat env s.heap x (.ref a)) (hs:Heap.SameBut a s.heap h') (ho:h'.get? a=some (Jb0 vs' k')) (hd:VDs (ow.adr++av) s.heap vs' ds'):JH8 g T av ow ow env ((x,.own ds')::σ) s { s with heap:=h',toks:=tk } :=
 have mv:=F.wrote (tk:=tk) hs (.inr (.inr (Jb7 hax)))
 ⟨F.ownMv hax lx (mv.gk F.gk) (fun b o n e V=>(hs.2 b n).trans e) ho (hd.keep fun b o e ho' nb=>(hs.2 b fun q=>nb (q▸List.mem_append_left _ (Jb7 hax))).trans e),mv⟩
theorem Jac (F:Fm g T av ow env σ s):interactive env=false:=by rw [interactive,F.ec.kind]; rfl
inductive JDw (ow:Ow) (av:List Addr) (env:Env) (x:Str) (ds:List D) (h:Heap):Prop
 | mk {a:Addr}{vs:List Value}{k:Nat}(m:(x,a)∈ow.l) (l:Jat env h x (.ref a)) (e:h.get? a=some (Jb0 vs k)) (r:VDs (ow.adr++av) h vs ds):JDw ow av env x ds h
theorem Fm.ownAt (F:Fm g T av ow env σ s) (hx:σ.lookup x=some (.own ds)):JDw ow av env x ds s.heap:=by
 cases F.ec.vars x _ hx with | mk v l r =>
 obtain ⟨a,hax,la⟩:=F.reg x ds hx
 cases r with | mk m e r=>cases l.uniq la; exact ⟨hax,la,e,r⟩
theorem Jf2 (h:VDs av s.heap vs ds) (hz:ds.length<=lim):vs.toArray.size<=sizeLine:=by rw [List.size_toArray,h.length]; exact Nat.le_trans (Nat.le_trans hz (Nat.le_add_left ..)) Je8
theorem Sx.append (hx:σ.lookup x=some (.own ds)) (hst:∀ env,starEach [e] env=[(false,eval e env)]) (hln:(apos.endLine==cpos.line)=true) (h:Ev prog w g T n sc σ e d) (hz:ds.length<=lim) :
  Sx prog w g T n sc σ (.Expr (.Call (.Attribute (.Name x p) "append" apos) [e] [] cpos) pos) (.next ((x,.own (ds++[d]))::σ)):=fun A s av ow env he hoc rm F=>by
 refine wpAny_Expr_any ?_ (Jac F) rfl
 cases F.ownAt hx with | @mk a vs k hax la e3 e4 =>
 refine wpAny_Call_method_late rfl (by rw [hst]; rfl) hln rfl (Jab F.ec.kind la ?_)
 refine ⟨"list", "list.append",PySem.F.plainAttrs_list,PySem.F.slot_list_append,PySem.F.type_list_append,⟨_,e3,rfl⟩,fun b hb=>by cases hb; exact ⟨_,e3,rfl⟩,?_⟩
 refine callWith_method1 (Ja0 ((EvL.more hst h EvL.nil).run A s _ env cpos he rm F.gk F.ec) fun us sA h₁=>?_) (hst _) rfl
 cases h₁.2.i1 with | mk r0 r2 =>
 cases r2.i0
 have r5:=h₁.1.vds F.gk e4
 refine wpAny_list_append_plain ⟨k,h₁.1.get' F.gk e3 (Jai _ _)⟩ (fun h' hp hs=>hp.elim fun k' e6=>?_) (Jf2 r5 hz)
 have f:=(F.ext h₁.1).setOwn (tk:=sA.toks) (vs':=vs++[_]) (k':=k') hax (la.ext h₁.1 F.gk) hs (by simpa [List.push_toArray] using e6) (r5.append (.one r0))
 exact .next ⟨ow,rfl,f.F,Mv.trans h₁.1.mv f.m fun b h=>.inl h,fun b h=>.inl h⟩
theorem Sx.reverse (hx:σ.lookup x=some (.own ds)) (hln:(apos.endLine==cpos.line)=true) (hz:ds.length<=lim) :
  Sx prog w g T n sc σ (.Expr (.Call (.Attribute (.Name x p) "reverse" apos) [] [] cpos) pos) (.next ((x,.own ds.reverse)::σ)):=fun A s av ow env he hoc rm F=>by
 refine wpAny_Expr_any ?_ (Jac F) rfl
 cases F.ownAt hx with | @mk a vs k hax la e3 e4 =>
 refine wpAny_Call_method_late rfl rfl hln rfl (Jab F.ec.kind la ?_)
 refine ⟨"list", "list.reverse",PySem.F.plainAttrs_list,PySem.F.slot_list_reverse,PySem.F.type_list_reverse,⟨_,e3,rfl⟩,fun b hb=>by cases hb; exact ⟨_,e3,rfl⟩,P.reverse_list e3 ?_ (Jf2 e4 hz)⟩
 have f:=F.setOwn (tk:=s.toks) (vs':=vs.reverse) hax la (Heap.SameBut.update ..) ((PySem.IsL.update (h:=s.heap) (l:=a) (items:=vs.toArray) (n:=k) e3 fun x=>x.reverse).trans (by rw [List.reverse_toArray])) e4.reverse
 exact .next ⟨ow,rfl,f.F,f.m,fun b h=>.inl h⟩
end
end
section
noncomputable abbrev Jvv (h h':Heap):Prop:=∀ a vs n,h.get? a=some (Jom vs n)->h'.get? a=some (Jom vs n)
inductive NxU (U:Addr->Prop) (g:Heap) (T:Ja3) (av:List Addr) (ow:Ow) (env:Env) (s:Shared) (σ':Sto) (s':Shared):Prop
 | mk (ow':Ow) (c:ow'.c=ow.c) (F:Fm g T av ow' env σ' s') (m:Mv g T (fun b=>Wr env ow b\/U b) s s') (w:∀ b,Wr env ow' b->Wr env ow b\/s.heap.get? b=none)
inductive Js4 (J B:Sto->Shared->Prop) (D':D->Prop) (U:Addr->Prop) (g:Heap) (T:Ja3) (av:List Addr) (ow:Ow) (env:Env) (s:Shared):Flow->Shared->Prop
 | next {σ':Sto}{s':Shared}(n:NxU U g T av ow env s σ' s') (j:J σ' s'):Js4 J B D' U g T av ow env s .next s'
 | cont {σ':Sto}{s':Shared}(n:NxU U g T av ow env s σ' s') (j:J σ' s'):Js4 J B D' U g T av ow env s .cont s'
 | brk {σ':Sto}{s':Shared}(n:NxU U g T av ow env s σ' s') (j:B σ' s'):Js4 J B D' U g T av ow env s .brk s'
 | ret {d:D}{v:Value}{s':Shared}(r:VD av s'.heap v d) (m:Mv g T (fun b=>Wr env ow b\/U b) s s') (j:D' d):Js4 J B D' U g T av ow env s (.ret v) s'
section
variable {prog:Program}{w:World}{g:Heap}{T:Ja3}{n:Nat}{sc scope:Scope}{σ σ':Sto}{s s' sA s2 s3:Shared}{av fp:List Addr}{ow ow' ow0:Ow}{env:Env}{A:Around}{R:Rz}{tg t iter:Expr}{body orelse:List Stmt}{pos:Pos}{ds:List D}{U pr:Addr->Prop}{B:Sto->Shared->Prop}{D':D->Prop}{Q:Flow->Shared->Prop}{b:Addr}{o:Obj}{K:Prop}{it:Value}{St:List D->Heap->Prop}
theorem NxU.of_nx (h:Nx g T av ow env s σ' s'):NxU U g T av ow env s σ' s':=h.rec fun ow' c F m w=>⟨ow',c,F,m.sub fun b q=>.inl (.inl q),w⟩
theorem NxU.nx (h:NxU (fun V=>False) g T av ow env s σ' s'):Nx g T av ow env s σ' s':=h.rec fun ow' c F m w=>⟨ow',c,F,m.sub fun b q=>q.elim .inl False.elim,w⟩
theorem NxU.up {U':Addr->Prop}(h:NxU U g T av ow env s σ' s') (hu:∀ b,U b->U' b):NxU U' g T av ow env s σ' s':=h.rec fun ow' c F m w=>⟨ow',c,F,m.sub fun b q=>.inl (q.imp id (hu b)),w⟩
theorem NxU.then (c:ow'.c=ow.c) (q:GK g T sA) (m:Mv g T (fun b=>Wr env ow b\/U b) s sA) (w:∀ b,Wr env ow' b->Wr env ow b\/s.heap.get? b=none) (hU:∀ b,U b->sA.heap.get? b≠none) (k:NxU U g T av ow' env sA σ' s'):NxU U g T av ow env s σ' s' :=
 k.rec fun ow2 cB Fb mQ wB=>⟨ow2,cB.trans c,Fb,m.trans mQ fun b hb=>hb.elim (fun z=>(w b z).imp .inl id) fun z=>.inl (.inr z),fun b hb=>(wB b hb).elim (w b) fun z=>(m.new q z).elim (fun y=>y.elim .inl fun y=>absurd z (hU b y)) .inr⟩
theorem Fm.wlst' (F:Fm g T av ow env σ s) (hc:ow.c=ow0.c) (e:s.heap.get? b=some o) (ho:Jaq o) (hw:Wr env ow0 b):b∈ow0.adr:=by
 rcases hw with rfl | ⟨x,hm,k,hx⟩ | hb
 ·exact F.ns.elim fun m n=>(Jdn n e ho).elim
 ·exact (F.own x b (hc▸hm) k hx).elim fun v hv=>(Jdh hv e ho).elim
 ·exact hb
theorem Fm.tupK (F:Fm g T av ow env σ s) {W:Addr->Prop}(m:Mv g T W s s') (hU:∀ b,W b->Wr env ow b):Jvv s.heap s'.heap:=fun q us k e=>m.get' F.gk e (fun hw=>(F.isl q (F.wlst e ⟨_,_,.inl rfl⟩ (hU q hw))).elim fun V p=>p.elim fun V e'=>Jbe tgP (e.symm.trans e') rfl) (Jdm _ _)
theorem Itr.tupK {h0:Heap}{l:List Addr}(I:Itr prog w K l fp h0 tg it St) (st:St ds s.heap) (on:Jmk fp s s') (hK:K):Jvv s.heap s'.heap:=fun q us k e=>on.get e fun hb=>by
 cases I.obj _ _ st q hb with | mk o e' i nl f =>
 obtain ⟨vs,hd⟩:=f hK
 exact Jbe tgB ((congrArg Obj.data (Jav e e')).trans hd) rfl
inductive JGi (prog:Program) (w:World) (g:Heap) (T:Ja3) (n:Nat) (sc:Scope) (tg:Expr) (body:List Stmt) (pr U:Addr->Prop) (Inv:Shared->Prop) (J B:Sto->Shared->Prop) (D':D->Prop) (A:Around) (av:List Addr) (env:Env) (d:D) (σ:Sto):Prop
 | mk (b:Bd) (t:Tg tg d b) (st:Je4 sc (Ja1 sc.names) b)
  (run:∀ (fp:List Addr) (s:Shared) (ow:Ow),ow.c=Ja1 sc.names->Fm g T (fp++av) ow env (Ja4 b σ) s->Inv s->(∀ b,pr b->¬ Wr env ow b)->wpAny (model prog w) A (execs body env) (Js4 J B D' U g T (fp++av) ow env s) NoE s)
inductive JE1 (U:Addr->Prop) (g:Heap) (T:Ja3) (av:List Addr) (ow:Ow) (env:Env) (s0:Shared) (St:List D->Heap->Prop) (Inv:List D->Sto->Shared->Prop) (k:Nat) (s:Shared):Prop
 | mk (ds:List D) (σ:Sto) (l:ds.length=k) (inv:Inv ds σ s) (n:NxU U g T av ow env s0 σ s) (st:St ds s.heap)
structure Jo0 (K:Prop) (g:Heap) (T:Ja3) (av:List Addr) (pr U:Addr->Prop) (Inv:List D->Sto->Shared->Prop):Prop where
 obj:∀ ds σ s,Inv ds σ s->∀ b,pr b->∃ o,s.heap.get? b=some o/\NT o
 seq:∀ ds σ s,Inv ds σ s->∀ b o,U b->s.heap.get? b=some o->Jaq o->b∈av
 up:∀ b,U b->pr b
 st:∀ ds σ sA s2 W,Inv ds σ sA->GK g T sA->Mv g T W sA s2->(∀ b,W b->¬ pr b)->(K->Jvv sA.heap s2.heap)->Inv ds σ s2
variable {Inv:List D->Sto->Shared->Prop}
theorem Joc (L:Jo0 K g T av pr U Inv) (hi:EvK prog w g T K n sc σ tg iter ds) (hsd:Jez iter) (he:env.scope=sc) (hoc:ow0.c=Ja1 sc.names) (rm:Rm n A) (F:Fm g T av ow0 env σ s) (hnw:∀ b,pr b->¬ Wr env ow0 b) (h0:Inv ds σ s)
  (hb:∀ d ds' σ' sA,Inv (d::ds') σ' sA->JGi prog w g T n sc tg body pr U (Inv (d::ds') σ') (Inv ds') B D' A av env d σ')
  (hN:∀ σ' s',Inv [] σ' s'->NxU U g T av ow0 env s σ' s'->wpAny (model prog w) A (execs orelse env) Q NoE s')
  (hB:∀ σ' s',B σ' s'->NxU U g T av ow0 env s σ' s'->Q .next s')
  (hR:∀ d v s',D' d->VD av s'.heap v d->Mv g T (fun b=>Wr env ow0 b\/U b) s s'->Q (.ret v) s'):wpAny (model prog w) A (exec (.For tg iter body orelse pos) env) Q NoE s:=by
 refine wpAny_For (Ja0 (hi A s _ env he rm F.gk F.ec) fun x sA h₁=>Ja0 h₁ fun it s2 h₂=>?_) fun x=>hsd env x
 cases h₂ with | mk xB fp hn hI =>
 cases hI [] nofun with | mk St I0 st =>
 have I:Itr prog w K (fp++(ow0.adr++av)) fp s2.heap tg it St:=I0
 have Fb:Fm g T (fp++av) ow0 env σ s2:=F.grow xB hn fun b hb=>(I.obj _ _ st b hb).rec fun o e i V V=>⟨o,e,i.1.2⟩
 have gf:∀ b∈fp,g.get? b=none:=fun b hb=>F.gk.new (hn b hb)
 have prfp:∀ b,pr b->b∉fp:=fun b hp hb=>(L.obj _ _ _ h0 b hp).elim fun o p=>nos (hn b hb) p.1
 have iB:Inv ds σ s2:=L.st _ _ _ _ (fun V=>False) h0 F.gk xB.mv (fun V f=>f.elim) fun V V V V e=>xB.get' F.gk e (Jdm _ _)
 have prw:∀ {ow:Ow},(∀ b,Wr env ow b->Wr env ow0 b\/s2.heap.get? b=none)->∀ b,pr b->¬ Wr env ow b:=fun hw b hp h=>(hw b h).elim (hnw b hp) fun q=>(L.obj _ _ _ iB b hp).elim fun o p=>nos q p.1
 have outM:∀ {s'},Mv g T (fun b=>Wr env ow0 b\/(U b\/b∈fp)) s2 s'->Mv g T (fun b=>Wr env ow0 b\/U b) s s':=fun m=>Mv.trans xB.mv m fun b hb=>hb.elim (fun q=>.inl (.inl q)) fun q=>q.elim (fun q=>.inl (.inr q)) fun q=>.inr (hn b q)
 have outW:∀ {ow:Ow},(∀ b,Wr env ow b->Wr env ow0 b\/s2.heap.get? b=none)->∀ b,Wr env ow b->Wr env ow0 b\/s.heap.get? b=none:=fun hw b hb=>(hw b hb).imp id (xB.none F.gk)
 have out:∀ {σ' s'},NxU (fun b=>U b\/b∈fp) g T (fp++av) ow0 env s2 σ' s'->NxU U g T av ow0 env s σ' s':=fun k=>k.rec fun ow' c F' m w=>⟨ow',c,F'.shrink fun a ha=>List.mem_append_right _ ha,outM m,outW w⟩
 refine codeAny_mono (codeAny_forLoop_any (R:=fun r s'=>Except.rec (fun V=>False) (fun f=>Q f s') r) (JE1 (fun b=>U b\/b∈fp) g T (fp++av) ow0 env s2 St Inv) ?_ ds.length ⟨ds,σ,rfl,iB,⟨ow0,rfl,Fb,.refl,fun b h=>.inl h⟩,st⟩) fun r s' hr=>?_
 ·intro k sA h₁
  cases h₁ with | mk ds' σ' l inv nx st1 =>
  cases nx with | mk ow c FA mP wA =>
  have wo:=fun b hb=>(I.obj _ _ st1 b hb).wo
  have hfp:∀ b∈fp,b∈fp++av:=fun b=>List.mem_append_left _
  cases ds' with
  | nil =>
   refine wpAny_mono (E:=NoE) (I.done A sA rm.hand st1) (fun r s3 h₃=>?_) fun V V f=>f.elim
   obtain ⟨rfl,on⟩:=h₃
   have f:=FA.changed' (av':=av) on gf hfp (fun a=>List.mem_append_right _) wo fun b hb hb'=>(F.ec.avok b (List.mem_append_right _ hb')).elim fun o p=>(nos (hn b hb) p.1).elim
   exact wpAny_mono (hN σ' s3 (L.st _ _ _ _ _ inv FA.gk f.m (fun b hb hp=>prfp b hp hb) (I.tupK st1 on)) ⟨ow,c,f.F,Mv.trans (outM mP) f.m fun b hb=>.inr (hn b hb),outW wA⟩) (fun V V q=>q) fun V V f=>f.elim
  | cons d ds' =>
   cases hb d ds' σ' sA inv with | mk b t hsa run =>
   refine wpAny_mono (E:=NoE) (I.item A d ds' sA (ow.adr++(fp++av)) rm.hand (fun b hb=>?_) (fun b hb=>(FA.ec.avok b hb).elim fun o p q=>nos q p.1) st1) (fun r s3 h₃=>?_) fun V V f=>f.elim
   ·exact (List.mem_append.mp hb).elim (fun q=>(wA b (.inr (.inr q))).imp (fun z=>List.mem_append_right _ (List.mem_append_left _ ((FA.isl b q).elim fun V p=>p.elim fun V e=>FA.wlst' c e ⟨_,_,.inr rfl⟩ z))) id) fun q=>.inl ((List.mem_append.mp q).elim (List.mem_append_left _) fun q=>List.mem_append_right _ (List.mem_append_right _ q))
   cases h₃ with | mk h₃ =>
   refine wpAny_mono h₃ (fun V s4 h₄=>?_) fun V V f=>f.elim
   have f:=FA.changed h₄.on gf hfp wo fun b hb=>(I.obj _ _ h₄.st b hb).wo
   refine wpAny_mono (Jd4 rm.hand he f.F t ((c.trans hoc).symm▸hsa) h₄.vd) (fun V s5 h₅=>?_) fun V V f=>f.elim
   cases h₅ with | mk ow5 cE F5 m5 w5 _ =>
   have ex1:∀ b,(U b\/b∈fp)->sA.heap.get? b≠none:=fun b hb q=>hb.elim (fun z=>(L.obj _ _ _ inv b (L.up b z)).elim fun o p=>nos q p.1) fun z=>(wo b z).rec fun o e V=>nos q e
   have n5:NxU (fun b=>U b\/b∈fp) g T (fp++av) ow0 env s2 (Ja4 b σ') s5:=.then c FA.gk mP wA ex1 ⟨ow5,cE,F5,Mv.trans (f.m.sub fun b hb=>.inl (.inr (.inr hb))) m5 fun b hb=>.inl (.inl hb),fun b hb=>.inl (w5 b hb)⟩
   have iE:Inv (d::ds') σ' s5:=L.st _ _ _ _ _ (L.st _ _ _ _ _ inv FA.gk f.m (fun b hb hp=>prfp b hp hb) (I.tupK st1 h₄.on)) f.F.gk m5 (fun b hb hp=>prw wA b hp hb) fun V=>f.F.tupK m5 fun b hb=>hb
   have c':=cE.trans (c.trans hoc)
   have hw5:=fun b hb=>wA b (w5 b hb)
   have m25:Mv g T (fun b=>Wr env ow0 b\/(U b\/b∈fp)) s2 s5:=Mv.trans (Mv.trans mP f.m fun b hb=>.inl (.inr (.inr hb))) m5 fun b hb=>(wA b hb).imp .inl id
   have fpk:∀ {s6},Mv g T (fun b=>Wr env ow5 b\/U b) s5 s6->∀ b∈fp,∀ o,s4.heap.get? b=some o->s6.heap.get? b=some o:=fun m b hb o e=>by
    have i:=(I.obj _ _ h₄.st b hb).wo.at e
    have nf:b∉ow.adr:=fun z=>FA.apt b z (hfp b hb)
    exact (Mv.trans (W:=fun b=>Wr env ow b\/U b) (m5.sub fun b q=>.inl (.inl q)) m fun b q=>.inl (q.imp (w5 b) id)).get' f.F.gk e (fun q=>q.elim (Jh1 f.F nf e i) fun z=>prfp b (L.up b z) hb) i.1.2
   have ex5:∀ b,(U b\/b∈fp)->s5.heap.get? b≠none:=fun b hb q=>hb.elim (fun z=>(L.obj _ _ _ iE b (L.up b z)).elim fun o p=>nos q p.1) fun z=>(I.obj _ _ h₄.st b z).rec fun o e V V V=>nos q (fpk .refl b z o e)
   have go:∀ {σ6 s6},NxU U g T (fp++av) ow5 env s5 σ6 s6->NxU (fun b=>U b\/b∈fp) g T (fp++av) ow0 env s2 σ6 s6:=fun k=>.then (cE.trans c) F5.gk m25 hw5 ex5 (k.up fun V=>.inl)
   have again:∀ {σ6 s6},NxU U g T (fp++av) ow5 env s5 σ6 s6->Inv ds' σ6 s6->∃ m,m<k/\JE1 (fun b=>U b\/b∈fp) g T (fp++av) ow0 env s2 St Inv m s6:=fun kx j=>by
    have n6:=go kx
    refine ⟨ds'.length,l▸Nat.lt_succ_self _,ds',_,rfl,j,n6,I.frame0 _ _ _ h₄.st (kx.rec fun V V V m V=>fpk m) ?_⟩
    cases n6 with | mk _ _ _ m _ =>
    exact m.seq Fb.gk fun b o e ho hb=>hb.elim (fun z=>List.mem_append_right _ (List.mem_append_left _ (Fb.wlst e ho z))) fun z=>z.elim (fun z=>List.mem_append_right _ (List.mem_append_right _ (L.seq _ _ _ iB b o z e ho))) (List.mem_append_left _)
   refine wpAny_mono (run fp s5 ow5 c' F5 iE (prw hw5)) (fun fl s6 h₆=>?_) fun V V f=>f.elim
   cases h₆ with
   | next kx j=>exact again kx j
   | cont kx j=>exact again kx j
   | brk kx j=>exact hB _ _ j (out (go kx))
   | ret r m j=>exact hR _ _ _ j (r.sub fun a=>List.mem_append_right _) (outM (Mv.trans m25 m fun b hb=>hb.elim (fun q=>(hw5 b q).imp .inl id) fun q=>.inl (.inr (.inl q))))
 ·cases r with
  | ok f=>exact hr
  | error e=>exact hr.elim
end
end
section
section
variable (prog:Program) (w:World) (g:Heap) (T:Ja3) (n:Nat) (sc:Scope)
inductive JIb (N:Sto->Prop) (σ:Sto):Prop
 | mk (σ':Sto) (h:N σ') (hs:Sub σ' σ)
inductive JIa (tg:Expr) (body:List Stmt) (K B:Sto->Prop) (D':D->Prop) (d:D) (σ:Sto):Prop
 | mk (b:Bd) (R':Rz) (t:Tg tg d b) (st:Je4 sc (Ja1 sc.names) b) (run:SxL prog w g T n sc (Ja4 b σ) body R') (go:R'.rec K K B D')
noncomputable def JAz (tg:Expr) (body:List Stmt) (N B:Sto->Prop) (D':D->Prop) (ds:List D):Sto->Prop:=ds.rec (JIb N) fun d V ih=>JIa prog w g T n sc tg body ih B D' d
noncomputable def Jie (tg:Expr) (body:List Stmt) (ds:List D) (σ:Sto) (R:Rz):Prop:=JAz prog w g T n sc tg body (fun σ=>R=.next σ) (fun σ=>R=.next σ) (fun d=>R=.ret d) ds σ
inductive WhS (t:Expr) (body:List Stmt) (R:Rz) (K:Sto->Prop) (σ:Sto):Prop
 | stop (h:EvT prog w g T n sc (froz σ) t false) (σ':Sto) (e:R=.next σ') (hs:Sub σ' σ)
 | step (h:EvT prog w g T n sc (froz σ) t true) (σA:Sto) (run:SxL prog w g T n sc σ body (.next σA)) (k:K σA)
noncomputable def WhR (t:Expr) (body:List Stmt) (k:Nat) (σ:Sto) (R:Rz):Prop:=k.rec (WhS prog w g T n sc t body R fun V=>False) (fun V ih=>WhS prog w g T n sc t body R ih) σ
end
theorem Jjm (b:Bd):∀ {σ σ':Sto},Sub σ σ'->Sub (Ja4 b σ) (Ja4 b σ'):=by
 induction b with
 | nil=>exact fun h=>h
 | cons p r ih =>
  refine fun h=>ih fun y sl e=>?_
  rw [Ja6]
  rcases Jaj e with ⟨q,e⟩ | ⟨q,e⟩
  ·rw [if_pos q,e]
  ·rw [if_neg q]; exact h y sl e
theorem Sub.trans {a b c:Sto}(x:Sub a b) (y:Sub b c):Sub a c:=fun z sl e=>y z sl (x z sl e)
theorem Sub.refl {a:Sto}:Sub a a:=fun V V e=>e
theorem Jm2 {σ σ':Sto}(h:Sub σ σ'):Sub (froz σ) (froz σ'):=fun x sl e=>by
 rw [Jfr] at e ⊢
 obtain ⟨sl',e',rfl⟩:=Option.map_eq_some_iff.mp e
 rw [h x sl' e']; rfl
section
variable {prog:Program}{w:World}{g:Heap}{T:Ja3}{n:Nat}{sc scope:Scope}{σ σ' σA:Sto}{s s':Shared}{av:List Addr}{ow ow' ow0:Ow}{env:Env}{A:Around}{R:Rz}{tg t iter e:Expr}{body orelse:List Stmt}{N B:Sto->Prop}{D':D->Prop}{d:D}{ds:List D}{b:Bd}{pos:Pos}{Q:Flow->Shared->Prop}{k:Nat}{c:Bool}
theorem EvT.pre (hs:Sub σA σ) (h:EvT prog w g T n sc σA e c):EvT prog w g T n sc σ e c:=fun A s av env he rm hg hc=>h A s av env he rm hg ⟨hc.kind,hc.glob,hc.blt,hc.avok,fun x sl e=>hc.vars x sl (hs x sl e),hc.cells⟩
theorem JAz.weak (hs:Sub σA σ) (h:JAz prog w g T n sc tg body N B D' ds σA):JAz prog w g T n sc tg body N B D' ds σ:=by
 cases ds with
 | nil=>cases h with | mk σ' h q=>exact ⟨σ',h,q.trans hs⟩
 | cons d ds=>cases h with | mk b R' t st run go=>exact ⟨b,R',t,st,run.pre (Jjm b hs),go⟩
theorem Jie.nil:Jie prog w g T n sc tg body [] σ (.next σ):=⟨σ,rfl,.refl⟩
section
variable (ht:Tg tg d b) (hst:Je4 sc (Ja1 sc.names) b)
include ht hst
theorem Jie.step (h:SxL prog w g T n sc (Ja4 b σ) body (.next σA)) (k:Jie prog w g T n sc tg body ds σA R):Jie prog w g T n sc tg body (d::ds) σ R:=⟨b,.next σA,ht,hst,h,k⟩
end
theorem Jie.weak (hs:Sub σA σ) (h:Jie prog w g T n sc tg body ds σA R):Jie prog w g T n sc tg body ds σ R:=JAz.weak hs h
theorem Jo0.none {K:Prop}{Inv:List D->Sto->Prop}:Jo0 K g T av (fun V=>False) (fun V=>False) fun ds σ V=>Inv ds σ:=⟨fun V V V V V f=>f.elim,fun V V V V V V f=>f.elim,fun V f=>f,fun V V V V V i V V V V=>i⟩
theorem Mv.off {W:Addr->Prop}(m:Mv g T (fun b=>W b\/False) s s'):Mv g T W s s':=m.sub fun b q=>q.elim .inl False.elim
theorem Jxk (h:JAz prog w g T n sc tg body N B D' ds σ) (hi:EvI prog w g T n sc σ tg iter ds) (hsd:Jez iter) (he:env.scope=sc) (hoc:ow0.c=Ja1 sc.names) (rm:Rm n A) (F:Fm g T av ow0 env σ s)
  (hN:∀ σ' s',N σ'->Nx g T av ow0 env s σ' s'->wpAny (model prog w) A (execs orelse env) Q NoE s') (hB:∀ σ' s',B σ'->Nx g T av ow0 env s σ' s'->Q .next s') (hR:∀ d v s',D' d->VD av s'.heap v d->Mv g T (Wr env ow0) s s'->Q (.ret v) s') :
  wpAny (model prog w) A (exec (.For tg iter body orelse pos) env) Q NoE s:=by
 refine Joc (Inv:=fun ds σ V=>JAz prog w g T n sc tg body N B D' ds σ) (B:=fun σ V=>B σ) Jo0.none hi hsd he hoc rm F (fun V f=>f.elim) h (fun d ds' σ' sA i=>?_) (fun σ' s' i nx=>?_) (fun σ' s' j nx=>hB σ' s' j nx.nx) fun d v s' j r m=>hR d v s' j r m.off
 ·cases i with | mk b R' t st run go =>
  refine ⟨b,t,st,fun fp s ow c F V V=>Ja0 (run A s _ ow env he c rm F) fun fl s' k=>?_⟩
  cases k with
  | next nx=>exact .next (.of_nx nx) go
  | cont nx=>exact .cont (.of_nx nx) go
  | brk nx=>exact .brk (.of_nx nx) go
  | ret r m=>exact .ret r (m.sub fun b q=>.inl (.inl q)) go
 ·cases i with | mk σ'' h hs=>exact hN σ'' s' h (nx.nx.weak hs)
theorem Sx.for (hi:EvI prog w g T n sc σ tg iter ds) (hsd:Jez iter) (h:Jie prog w g T n sc tg body ds σ R):Sx prog w g T n sc σ (.For tg iter body [] pos) R:=fun A s av ow0 env he hoc rm F=>
 Jxk h hi hsd he hoc rm F (fun σ' s' e nx=>wpAny_execs_nil (e▸.next nx)) (fun σ' s' e nx=>e▸.next nx) fun d v s' e r m=>e▸.ret r m
theorem WhR.weak (hs:Sub σA σ) (h:WhR prog w g T n sc t body k σA R):WhR prog w g T n sc t body k σ R:=by
 cases k <;> cases h with
 | stop h σ' e q=>exact .stop (h.pre (Jm2 hs)) σ' e (q.trans hs)
 | step h σB run k=>exact .step (h.pre (Jm2 hs)) σB (run.pre hs) k
theorem WhR.stop (h:EvT prog w g T n sc (froz σ) t false):WhR prog w g T n sc t body k σ (.next σ):=by cases k <;> exact .stop h σ rfl .refl
theorem WhR.step (h:EvT prog w g T n sc (froz σ) t true) (hb:SxL prog w g T n sc σ body (.next σA)) (hr:WhR prog w g T n sc t body k σA R):WhR prog w g T n sc t body (k+1) σ R:=WhS.step h σA hb hr
inductive JG8 (prog:Program) (w:World) (g:Heap) (T:Ja3) (n:Nat) (sc:Scope) (t:Expr) (body:List Stmt) (R:Rz) (av:List Addr) (ow:Ow) (env:Env) (s:Shared) (k:Nat) (s':Shared):Prop
 | mk (σ:Sto) (h:WhR prog w g T n sc t body k σ R) (nx:Nx g T av ow env s σ s')
theorem WhR.inv (h:WhR prog w g T n sc t body k σ R):WhS prog w g T n sc t body R (fun σ'=>∃ j,j<k/\WhR prog w g T n sc t body j σ' R) σ:=by
 cases k with
 | zero=>cases h with
  | stop h σ' e q=>exact .stop h σ' e q
  | step _ _ _ f=>exact f.elim
 | succ k=>cases h with
  | stop h σ' e q=>exact .stop h σ' e q
  | step h σA r k=>exact .step h σA r ⟨_,Nat.lt_succ_self _,k⟩
theorem EvT.go (h:EvT prog w g T n sc (froz σ) t c) (he:env.scope=sc) (rm:Rm n A) (F:Fm g T av ow env σ s) {K:Bool->Shared->Prop}{E:Value->Shared->Prop}(hK:∀ s2,Ext g T s s2->K c s2):wpAny (model prog w) A (isTrue t env (eval t env)) K E s :=
 wpAny_mono (h A s _ env he rm F.gk F.froz) (fun c s2 h₂=>h₂.1▸hK s2 h₂.2) fun V V f=>f.elim
theorem Sx.while (h:WhR prog w g T n sc t body k σ R):Sx prog w g T n sc σ (.While t body [] pos) R:=fun A s av ow0 env he hoc rm F=>by
 refine wpAny_While (codeAny_mono (codeAny_whileLoop (R:=fun r s'=>Except.rec (fun V=>False) (fun f=>Jg2 g T av ow0 env s R f s') r) (JG8 prog w g T n sc t body R av ow0 env s) ?_ k ⟨σ,h,.of_ext F .refl⟩) fun r s' hr=>?_)
 ·intro k sA h₁
  cases h₁ with | mk σA h nx =>
  cases nx with | mk ow c FA mP wA =>
  cases h.inv with
  | stop h σ' e q=>exact h.go he rm FA fun s2 x=>wpAny_execs_nil (e▸.next ((Nx.then c FA.gk mP wA (.of_ext FA x)).weak q))
  | step h σB run hk =>
   refine h.go he rm FA fun s2 x=>wpAny_mono (run A s2 av ow env he (c.trans hoc) rm (FA.ext x)) (fun fl s3 h₃=>?_) fun V V f=>f.elim
   cases h₃ with | next nx=>exact hk.imp fun j p=>⟨p.1,σB,p.2,Nx.then c (x.gk FA.gk) (Mv.trans mP x.mv fun V=>.inl) wA nx⟩
 ·cases r with
  | ok f=>exact hr
  | error e=>exact hr.elim
noncomputable def params (xs:List Str) (ds:List D):Sto:=Ja4 (xs.zip ds) []
inductive Jjr (P:Value->Str->Prop) (g:Heap) (fd:FuncData) (vs:List Value) (r:List (Str×Value)):Prop
 | pure (e:bindArgs fd ⟨vs,[]⟩=Pure.pure r)
 | look (n:¬ ∀ c q,P c q) (l:∀ M:Model,Looks M g (bindArgs fd ⟨vs,[]⟩) r)
inductive FnO (P:Value->Str->Prop) (g:Heap) (a:Addr) (sc:Scope) (cl:List (Str×Addr)) (xs:List Str) (body:List Stmt):Prop
 | mk (o:Obj) (fd:FuncData) (at_:g.get? a=some o) (dat:o.data=.func fd) (sc_:fd.scope=sc) (bd:fd.body=.stmts body) (clo:fd.closure=cl) (glob:fd.globals=mainGlobals) (blt:fd.builtins=builtinsNs) (code:g.CodeRec fd.code fd.qualname) (bind:∀ vals,vals.length=xs.length->Jjr P g fd vals (xs.zip vals))
  (p:P fd.code (fd.qualname ++ ".<locals>.")) (lim:g.NoLimit)
noncomputable abbrev Jw2 (P:Value->Str->Prop) (g:Heap) (a:Addr) (sc:Scope) (xs:List Str) (body:List Stmt):Prop:=FnO P g a sc [] xs body
noncomputable abbrev Jg4:=Jw2 fun V V=>True
structure FnS0 (sc:Scope) (xs:List Str):Prop where
 kind:sc.kind=.function
 coro:sc.isCoroutine=false
 gen:sc.isGenerator=false
 st:xs.all (Jh9 sc (Ja1 sc.names))=true
structure FnS (sc:Scope) (xs:List Str):Prop extends FnS0 sc xs where
 nofree:(sc.names.all fun p=>p.2 != .free)=true
structure FnEnv (P:Value->Str->Prop) (sc:Scope) (cl:List (Str×Addr)) (env:Env):Prop where
 sc_:env.scope=sc
 cells:∀ x,(x,NameKind.cell)∉sc.names->env.cells.lookup x=cl.lookup x
 p:P env.code env.qual
inductive JHd (sc:Scope) (cl:List (Str×Addr)) (av:List Addr) (h:Heap) (x:Str):Sl->Prop
 | mk (d:D) (c:Addr) (v:Value) (ok:Jay x=true) (k:sc.names.lookup x=some .free) (nc:(x,NameKind.cell)∉sc.names) (e:cl.lookup x=some c) (i:h.IsCell c (some v)) (r:VD av h v d):JHd sc cl av h x (.val d)
structure Jbi (sc:Scope) (cl:List (Str×Addr)) (σc:Sto) (av:List Addr) (h:Heap):Prop where
 ce:∀ x c,cl.lookup x=some c->∃ v,h.IsCell c v
 free:∀ x,sc.names.lookup x=some .free->(cl.lookup x).isSome=true
 cap:∀ x sl,σc.lookup x=some sl->JHd sc cl av h x sl
variable {xs:List Str}{vs:List Value}{a:Addr}{P:Value->Str->Prop}{f:Str}
theorem Jh3 (he:env.scope=sc) (xs:List Str):∀ {vs:List Value}{ds:List D}{σ:Sto}{ow:Ow}{s:Shared},Fm g T av ow env σ s->xs.length=vs.length->VDs (ow.adr++av) s.heap vs ds->xs.all (Jh9 sc ow.c)=true ->
  wpAny (model prog w) A (forIn (xs.zip vs) PUnit.unit (fun x V=>do storeName env x.1 x.2; pure (ForInStep.yield PUnit.unit))) (fun V s'=>AsV g T av ow env (Ja4 (xs.zip ds) σ) s s') NoE s:=by
 induction xs with
 | nil=>intro vs ds σ ow s F _ _ _; exact wpAny_pure ⟨ow,rfl,F,.refl,fun b h=>h,fun V h=>h⟩
 | cons x xs ih =>
  intro vs ds σ ow s F hl hv hst
  cases hv with
  | nil=>cases hl
  | cons v1 vr =>
  obtain ⟨h1,h2⟩:=Bool.and_eq_true_iff.mp ((List.all_cons ..).symm.trans hst)
  rw [List.zip_cons_cons,List.forIn_cons]
  refine wpAny_bind (wpAny_bind (Ja0 (Jb1 F (Jd1 F.ec he h1) v1) fun V sA h=>wpAny_pure ?_))
  refine Ja0 (ih h.F (Nat.succ.inj hl) ((vr.keep (h.m.seq F.gk (av:=ow.adr++av) F.wseq)).sub (Jdp fun V=>Ow.adr_drop)) h2) fun V s2 h₂=>?_
  cases h₂ with | mk ow' c Fb m w l=>exact ⟨ow',c,Fb,h.m.trans m Jei,fun c hc=>(w c hc).drop,fun p hp=>(List.mem_filter.mp (l p hp)).1⟩
theorem Jbi.nil {h:Heap}(hs:FnS sc xs):Jbi sc [] [] av h:=⟨(nofun),fun x q=>(nomatch List.all_eq_true.mp hs.nofree _ (Jas q)),(nofun)⟩
theorem FnO.looks {cl:List (Str×Addr)}(hf:FnO P g a sc cl xs body) (h:vs.length=xs.length) {o:Obj}{fd:FuncData}(e:g.get? a=some o) (d:o.data=.func fd):Looks (model prog w) g (bindArgs fd ⟨vs,[]⟩) (xs.zip vs):=by
 cases hf with | mk o' fd' e' d' _ _ _ _ _ _ b =>
 cases Jav e e'
 cases d.symm.trans d'
 cases b vs h with
 | pure e=>exact .of_pure e
 | look _ l=>exact l _
structure JB4 (P:Value->Str->Prop) (g:Heap) (T:Ja3) (n:Nat) (a:Addr) (sc:Scope) (cl:List (Str×Addr)) (av:List Addr) (A:Around) (s:Shared) (σ:Sto) (env:Env) (ow:Ow) (sA:Shared):Prop extends FnEnv P sc cl env where
 fn:env.func=some a
 c:ow.c=Ja1 sc.names
 l:ow.l=[]
 rm:Rm n (A.deeper env)
 F:Fm g T av ow env σ sA
 x:Ext g T s sA
 w:∀ b,Wr env ow b->s.heap.get? b=none
noncomputable abbrev Jle (Q:Value->Shared->Prop) (r:Result) (s':Shared):Prop:=match r with | .ok (.ret v)=>Q v s' | .ok _=>False | .error e=>NoE e s'
theorem Jen {vs':List Value}{cl:List (Str×Addr)}{σc:Sto}{Q:Value->Shared->Prop}(hf:FnO P g a sc cl xs body) (hs:FnS0 sc xs) (hb:∀ {o fd},g.get? a=some o->o.data=.func fd->Looks (model prog w) g (bindArgs fd ⟨vs,[]⟩) (xs.zip vs')) (hc:Jbi sc cl σc av s.heap) (rm:Rm (n+1) A) (hg:GK g T s) (hav:Jdk av s.heap) (hv:VDs av s.heap vs' ds) (hl:ds.length=xs.length)
  (h:∀ (env:Env) (ow:Ow) (sA:Shared),JB4 P g T n a sc cl av A s (Ja4 (xs.zip ds) σc) env ow sA->_root_.PySem.wpAt (model prog w) (A.deeper env) (.func body env) (execs body env) (fun fl s'=>Q (match fl with | .ret v=>v | _=>.none) s') NoE sA) :
  codeAny (model prog w) A (.call (.ref a) ⟨vs,[]⟩) (Jle Q) s:=by
 cases hf with | mk o fd ho hdat hsc hbody hclo hglob hblt hcr hbind hp hlim =>
 subst hsc
 have hvl:vs'.length=xs.length:=hv.length.trans hl
 refine codeAny_call_function (Nat.lt_of_le_of_lt (Nat.le_add_right _ _) rm.depth) (hg.keep _ _ ho) hdat hs.coro hs.gen hbody (hcr.keeps hg.keep) (hb ho hdat _ _ _ _ hg.keep ?_)
 rw [hclo,hglob,hblt]
 refine Je3 fun env henv=>?_
 have N:Jeg fd.scope.names cl s.heap env:=henv▸⟨hs.kind,rfl,rfl,rfl,rfl⟩
 have hes:env.scope=fd.scope:=henv▸rfl
 have hk:∀ x,env.kindOf x=fd.scope.names.lookup x:=fun x=>congrArg (fun z:Scope=>z.names.lookup x) hes
 have f:=Fm.fresh (b:=false) (tk:=s.toks) (σ:=σc) N hg hav hc.ce (fun x h=>h.imp (fun h=>Jas (hk x▸h)) fun h=>hc.free x (hk x▸h)) fun x sl e=>(hc.cap x sl e).rec fun d c v ok k nc e i r=>⟨d,c,v,ok,.inr ((hk x).trans k),nc,e,i,r⟩
 refine wpAny_mono (Jh3 (prog:=prog) (w:=w) (A:=A.in1) hes xs (vs:=vs') (ds:=ds) f.F hvl.symm (f.x.vds hg hv) hs.st) (fun V s2 h₂=>?_) fun V V f=>f.elim
 cases h₂ with | mk ow2 cB Fb mQ wB lB =>
 exact ⟨hlim.keeps Fb.gk.keep,ks_codeAny_funcAt (ks_wpAt_mono (h env ow2 s2 ⟨⟨hes,fun x=>N.out,henv▸hp⟩,henv▸rfl,cB,List.eq_nil_iff_forall_not_mem.mpr (fun p hp=>nomatch lB p hp),rm.deeper,Fb,(Mv.trans f.x.mv mQ fun b hb=>.inl hb).ext f.w,fun b hb=>f.w b (wB b hb)⟩) (fun V V q=>q) fun V V f=>f.elim)⟩
theorem Jf0 {cl:List (Str×Addr)}{σc:Sto}{Q:Value->Shared->Prop}(hf:FnO P g a sc cl xs body) (hs:FnS0 sc xs) (hc:Jbi sc cl σc av s.heap) (rm:Rm (n+1) A) (hg:GK g T s) (hav:Jdk av s.heap) (hv:VDs av s.heap vs ds) (hl:ds.length=xs.length)
  (h:∀ (env:Env) (ow:Ow) (sA:Shared),FnEnv P sc cl env->ow.c=Ja1 sc.names->ow.l=[]->Rm n (A.deeper env)->Fm g T av ow env (Ja4 (xs.zip ds) σc) sA->Ext g T s sA->(∀ b,Wr env ow b->s.heap.get? b=none) ->
   wpAny (model prog w) (A.deeper env) (execs body env) (fun fl s'=>Q (match fl with | .ret v=>v | _=>.none) s') NoE sA) :
  wpAny (model prog w) A (call (.ref a) vs) Q NoE s:=wpAny_call (Jen hf hs (hf.looks (hv.length.trans hl)) hc rm hg hav hv hl fun env ow sA n=>wpAt_of_wpAny (h env ow sA n.toFnEnv n.c n.l n.rm n.F n.x n.w))
theorem Jog (hf:Jw2 P g a sc xs body) (hs:FnS sc xs) (rm:Rm (n+1) A) (hg:GK g T s) (hav:Jdk av s.heap) (hv:VDs av s.heap vs ds) (hl:ds.length=xs.length)
  (h:∀ (env:Env) (ow:Ow) (sA:Shared),FnEnv P sc [] env->ow.c=Ja1 sc.names->Rm n (A.deeper env)->Fm g T av ow env (params xs ds) sA->wpAny (model prog w) (A.deeper env) (execs body env) (Jg2 g T av ow env sA (.ret d)) NoE sA) :
  wpAny (model prog w) A (call (.ref a) vs) (Out g T av s d) NoE s:=Jf0 hf hs.toFnS0 (.nil hs) rm hg hav hv hl fun env ow sA E c V rm F x hw=>Ja0 (h env ow sA E c rm F) fun fl s3 h₃=>by
 cases h₃ with | ret r m=>exact ⟨(Mv.trans x.mv m fun b hb=>.inr (hw b hb)).ext fun b q=>q,r⟩
theorem ClV.fnP (hx:Glb g f (.ref a)) (hf:Jw2 P g a sc xs body) (hs:FnS sc xs) (hl:ds.length=xs.length)
  (h:∀ (A:Around) (av:List Addr) (env:Env) (ow:Ow) (sA:Shared),FnEnv P sc [] env->ow.c=Ja1 sc.names->Rm n A->Fm g T av ow env (params xs ds) sA->wpAny (model prog w) A (execs body env) (Jg2 g T av ow env sA (.ret d)) NoE sA):ClV prog w g T (n+1) f ds d :=
 ⟨_,hx,hf.rec fun V V e d V V V V V V V V V=>.fn e d,fun A s av vs rm hg hav hv=>Jog hf hs rm hg hav hv hl fun env ow sA=>h (A.deeper env) av env ow sA⟩
theorem ClV.fn (hx:Glb g f (.ref a)) (hf:Jg4 g a sc xs body) (hs:FnS sc xs) (hl:ds.length=xs.length) (h:SxL prog w g T n sc (params xs ds) body (.ret d)):ClV prog w g T (n+1) f ds d :=
 ClV.fnP hx hf hs hl fun A av env ow sA E c rm F=>h A sA av ow env E.sc_ c rm F
end
end
section
noncomputable abbrev NoT (e:Expr):Prop:=∀ (env:Env) (m:Sem Value),isTrue e env m=(do let v <- m; standAt e.pos; holding [v] (truthy v))
section
variable (prog:Program) (w:World) (g:Heap) (T:Ja3)
noncomputable def EvA (n:Nat) (sc:Scope) (σ:Sto) (op:BoolOp) (es:List Expr) (b:Bool):Prop :=
 ∀ (A:Around) (s:Shared) (av:List Addr) (env:Env),env.scope=sc->Rm n A->GK g T s->EC av env σ s.heap->wpAny (model prog w) A (allTrue op es env) (fun c s'=>c=b/\Ext g T s s') NoE s
noncomputable def EvV (n:Nat) (sc:Scope) (σ:Sto) (op:BoolOp) (es:List Expr) (b:Bool):Prop :=
 ∀ (A:Around) (s:Shared) (av:List Addr) (env:Env) (pos:Pos),env.scope=sc->Rm n A->GK g T s->EC av env σ s.heap->wpAny (model prog w) A (boolOp pos op (evalEach es env)) (Out g T av s (.bool b)) NoE s
end
section
variable {prog:Program}{w:World}{g:Heap}{T:Ja3}{n:Nat}{sc:Scope}{σ:Sto}{av:List Addr}{s:Shared}{A:Around}{e e':Expr}{es:List Expr}{pos:Pos}{a b c:Bool}{d:D}{op:BoolOp}
theorem EvT.val (h:Ev prog w g T n sc σ e d) (hp:NoT e) (ht:JEf prog w g T d b):EvT prog w g T n sc σ e b:=fun A s av env he rm hg hc=>
 wpAny_isTrue_value (Ja0 (h A s av env he rm hg hc) fun v sA h₁=>Ja0 (ht A sA av v h₁.2) fun c s2 h₂=>⟨h₂.1,h₁.1.trans h₂.2⟩) (hp _ _)
theorem EvA.and_nil:EvA prog w g T n sc σ .And [] true:=fun A s av env he rm hg hc=>wpAny_allTrue_And_nil ⟨rfl,.refl⟩
theorem EvA.or_nil:EvA prog w g T n sc σ .Or [] false:=fun A s av env he rm hg hc=>wpAny_allTrue_Or_nil ⟨rfl,.refl⟩
theorem EvA.and_cons (h:EvT prog w g T n sc σ e a) (hs:a=true->EvA prog w g T n sc σ .And es b):EvA prog w g T n sc σ .And (e::es) (a&&b):=fun A s av env he rm hg hc=>
 wpAny_allTrue_And_cons (Ja0 (h A s av env he rm hg hc) fun c sA h₁=>by
  cases h₁.1
  cases a with
  | false=>exact ⟨rfl,h₁.2⟩
  | true=>exact Ja0 (hs rfl A sA av env he rm (h₁.2.gk hg) (hc.ext h₁.2 hg)) fun c s2 h₂=>⟨h₂.1,h₁.2.trans h₂.2⟩)
theorem EvA.or_cons (h:EvT prog w g T n sc σ e a) (hs:a=false->EvA prog w g T n sc σ .Or es b):EvA prog w g T n sc σ .Or (e::es) (a||b):=fun A s av env he rm hg hc=>
 wpAny_allTrue_Or_cons (Ja0 (h A s av env he rm hg hc) fun c sA h₁=>by
  cases h₁.1
  cases a with
  | true=>exact ⟨rfl,h₁.2⟩
  | false=>exact Ja0 (hs rfl A sA av env he rm (h₁.2.gk hg) (hc.ext h₁.2 hg)) fun c s2 h₂=>⟨h₂.1,h₁.2.trans h₂.2⟩)
theorem EvT.bool (h:EvA prog w g T n sc σ op es b):EvT prog w g T n sc σ (.BoolOp op es pos) b:=fun A s av env he rm hg hc=>wpAny_isTrue_BoolOp (h A s av env he rm hg hc)
theorem EvV.one (h:Ev prog w g T n sc σ e (.bool b)):EvV prog w g T n sc σ op [e] b:=fun A s av env pos he rm hg hc=>h A s av env he rm hg hc
theorem EvV.more (h:Ev prog w g T n sc σ e (.bool a)) (h0:(op=.And)=(a=false)->c=a) (hs:(op=.And)=(a=true)->EvV prog w g T n sc σ op (e'::es) c):EvV prog w g T n sc σ op (e::e'::es) c:=fun A s av env pos he rm hg hc=>
 (wpAny_bind (Ja0 (h A s av env he rm hg hc) fun v sA h₁=>wpAny_bind (wpAny_standAt (wpAny_bind (wpAny_holding (by
  cases h₁.2.i3
  refine wpAny_truthy_bool ?_
  have go:=fun q=>Ja0 (hs q A sA av env pos he rm (h₁.1.gk hg) (hc.ext h₁.1 hg)) fun v s2 h₂=>Out.trans h₁.1 h₂
  cases op <;> cases a
  ·exact wpAny_pure ⟨h₁.1,h0 (by simp)▸.bool _⟩
  ·exact go (by simp)
  ·exact go (by simp)
  ·exact wpAny_pure ⟨h₁.1,h0 (by simp)▸.bool _⟩))))):wpAny _ A (eval e env >>= _) _ _ s)
theorem EvV.and_cons (h:Ev prog w g T n sc σ e (.bool a)) (hs:a=true->EvV prog w g T n sc σ .And (e'::es) b):EvV prog w g T n sc σ .And (e::e'::es) (a&&b):=by
 cases a with
 | false=>exact .more h (fun V=>rfl) fun q=>nomatch q.mp rfl
 | true=>exact .more h (fun q=>nomatch q.mp rfl) fun V=>hs rfl
theorem EvV.or_cons (h:Ev prog w g T n sc σ e (.bool a)) (hs:a=false->EvV prog w g T n sc σ .Or (e'::es) b):EvV prog w g T n sc σ .Or (e::e'::es) (a||b):=by
 cases a with
 | false=>exact .more h (fun q=>nomatch q.mpr rfl) fun V=>hs rfl
 | true=>exact .more h (fun V=>rfl) fun q=>nomatch q.mpr rfl
theorem Ev.bool2 (h:EvV prog w g T n sc σ op es b):Ev prog w g T n sc σ (.BoolOp op es pos) (.bool b):=fun A s av env he rm hg hc=>h A s av env pos he rm hg hc
theorem EvT.cmp2 {l m r:Expr}{o1 o2:CmpOp}{x y z:D}{c1 c2:Bool}(hl:Ev prog w g T (n+1) sc σ l x) (hm:Ev prog w g T (n+1) sc σ m y) (hr:Ev prog w g T (n+1) sc σ r z) (h2:behindInMarks o2 r=false)
  (e1:Jg5 prog w g T o1 x y c1) (e2:Jg5 prog w g T o2 y z c2):EvT prog w g T (n+1) sc σ (.Compare l [o1,o2] [m,r] pos) (c1&&c2):=fun A s av env he rm hg hc=>by
 have rm1:=rm.le (Nat.le_add_left 1 n)
 refine (wpAny_bind (Ja0 (hl A s av env he rm hg hc) fun u sA h₁=>?_):wpAny _ A (eval l env >>= _) _ _ s)
 have gA:=h₁.1.gk hg
 refine wpAny_bind (wpAny_holding (Ja0 (hm A sA av env he rm gA (hc.ext h₁.1 hg)) fun v s2 h₂=>?_))
 have gQ:=h₂.1.gk gA
 refine wpAny_bind (wpAny_standAt (wpAny_bind (wpAny_holding (Ja0 (e1 A s2 av u v rm1 (h₂.1.vd gA h₁.2) h₂.2) fun cv s3 h₃=>?_))))
 cases h₃.2.i3
 refine wpAny_bind (wpAny_release (wpAny_bind (wpAny_holding (wpAny_truthy_bool ?_))))
 have x:=(h₁.1.trans h₂.1).trans h₃.1
 cases c1 with
 | false=>exact wpAny_pure ⟨rfl,x⟩
 | true =>
  show wpAny _ A (holding [v] (markedBehindIn o2 r (eval r env)) >>= _) _ _ s3
  rw [markedBehindIn_of_false h2]
  refine wpAny_bind (wpAny_holding (Ja0 (hr A s3 av env he rm (x.gk hg) (hc.ext x hg)) fun wv s4 h₄=>?_))
  refine wpAny_bind (wpAny_standAt (wpAny_bind (wpAny_operateT (Ja0 (e2 A s4 av v wv rm1 (h₄.1.vd (x.gk hg) (h₃.1.vd gQ h₂.2)) h₄.2) fun cv s5 h₅=>?_))))
  cases h₅.2.i3
  exact wpAny_holding (wpAny_truthy_bool ⟨rfl,(x.trans h₄.1).trans h₅.1⟩)
end
end
section
section
variable {prog:Program}{w:World}{g:Heap}{T:Ja3}{n:Nat}{av:List Addr}{h:Heap}{vs:List Value}{ds:List D}{l:List Int}{f x:Str}{a b:Int}
theorem Juh (l:List Int):∀ {vs:List Value},VDs av h vs (l.map .int)->PyProof.Rows.IntsAre vs l:=by
 induction l with
 | nil=>exact fun r=>r.i0▸.nil
 | cons i l ih =>
  intro vs r
  cases r.i1 with | mk a q =>
  obtain ⟨_,rfl⟩:=a.i4
  exact .cons _ _ (ih q)
inductive One (av:List Addr) (h:Heap) (d:D):List Value->Prop
 | mk {v:Value}(r:VD av h v d):One av h d [v]
theorem VDs.one1 {d:D}(r:VDs av h vs [d]):One av h d vs:=by
 cases r.i1 with | mk a q=>cases q.i0; exact ⟨a⟩
theorem Jbb (hg:Glb g f (.builtin "len")) (hz:ds.length<=lim):ClV prog w g T n f [.lst ds] (.int ds.length):=⟨_,hg,.bi _,fun A s av vs rm hg hav hv=>by
 cases hv.one1 with | mk r =>
 cases r.i8 with | mk na eo q =>
 rw [<- q.length]
 exact PyProof.Rows.len_list ⟨_,eo,rfl,_,rfl⟩ (by rw [List.size_toArray,q.length]; exact Ju4 hz) (by rw [List.size_toArray]; exact Jao)⟩
theorem Jce (hg:Glb g f (.builtin "len")) (hz:x.length<=lim):ClV prog w g T n f [.str x] (.int x.length):=⟨_,hg,.bi _,fun A s av vs rm hg hav hv=>by
 cases hv.one1 with | mk r =>
 obtain ⟨_,rfl⟩:=r.i5
 exact P.len_str (Int.not_le.mpr (Ju4 hz)) Jao⟩
theorem JD8 (hg:Glb g f (.builtin "sum")):ClV prog w g T n f [.lst (l.map .int)] (.int l.sum):=⟨_,hg,.bi _,fun A s av vs rm hg hav hv=>by
 cases hv.one1 with | mk r =>
 cases r.i8 with | mk na eo q =>
 have hi:=Juh l q
 obtain ⟨xs,hx⟩:=hi.allInts.items
 refine sum_intListG rm.hand (xs:=xs) ⟨_,eo,rfl,_,congrArg (fun z=>Data.seq z _) hx⟩ fun h' tk t' hk=>?_
 have e1:l=xs.toList.map (·.1):=(show numsOf _=l from hi.numsOf).symm.trans (by rw [<- nums_intItems, <- hx])
 rw [preSum_eq,List.take_of_length_le (by rw [<- Array.length_toList]; simp), <- e1]
 exact ⟨.of h' tk hk,.int _ _⟩⟩
theorem JDe (hg:Glb g f (.builtin "abs")):ClV prog w g T n f [.int a] (.int (if a<0 then -a else a)):=⟨_,hg,.bi _,fun A s av vs rm hg hav hv=>by
 cases hv.one1 with | mk r=>obtain ⟨_,rfl⟩:=r.i4; exact call_abs_int fun u tk=>Jao⟩
theorem JDb (hg:Glb g f (.type "int")):ClV prog w g T n f [.int a] (.int a):=⟨_,hg,.ty _,fun A s av vs rm hg hav hv=>by
 cases hv.one1 with | mk r=>obtain ⟨_,rfl⟩:=r.i4; exact call_int_int ⟨.refl,.int _ _⟩⟩
theorem Jjk (hg:Glb g f (.builtin "divmod")) (h0:b≠0) (hs:sm b=true):ClV prog w g T n f [.int a,.int b] (.tup [.int (a.fdiv b),.int (a.fmod b)]):=⟨_,hg,.bi _,fun A s av vs rm hg hav hv=>by
 cases hv.i1 with | mk r q =>
 cases q.one1 with | mk r' =>
 obtain ⟨_,rfl⟩:=r.i4
 obtain ⟨_,rfl⟩:=r'.i4
 exact divmod_int h0 (Jpl (n:=0) (vs:=[_,_]) hav (.cons (.int _ _) (.cons (.int _ _) .nil))) (.inl (Bool.not_eq_true _▸Jfn hs))⟩
end
end
section
noncomputable def Jgi (sep:Str) (l:List Str):Nat:=l.foldl (fun n p=>n+p.length+sep.length) 0
inductive JDs (l:List Str):List Value->Prop
 | mk (p:List (Str×Tok)) (e:p.map (·.1)=l):JDs l (strValues p)
section
variable {prog:Program}{w:World}{g:Heap}{T:Ja3}{n:Nat}{av:List Addr}{h:Heap}{s:Shared}{x sep:Str}{l:List Int}{ls:List Str}{k a:Int}
theorem Jou (l:List Str):∀ {vs:List Value},VDs av h vs (l.map .str)->JDs l vs:=by
 induction l with
 | nil=>exact fun r=>r.i0▸⟨[],rfl⟩
 | cons x l ih =>
  intro vs r
  cases r.i1 with | mk a q =>
  obtain ⟨t,rfl⟩:=a.i5
  cases ih q with | mk p e=>exact ⟨(x,t)::p,congrArg (x :: ·) e⟩
theorem Jj3 {p:List (Str×Tok)}(h:(Str.join sep (p.map (·.1))).length<=lim):(joinMade sep p).post (Out g T av s (.str (Str.join sep (p.map (·.1))))) s:=by
 have k:(Made.str (PySem.Builtin.Str.glued sep (p.map (·.1)))).post (Out g T av s (.str (Str.join sep (p.map (·.1))))) s:=by
  rw [StrLaws.glued_eq_join]
  exact ⟨Nat.le_trans (Nat.le_trans h (Nat.le_add_left ..)) Je8,Jck⟩
 cases p with
 | nil=>exact k
 | cons a p=>cases p with
  | nil=>exact ⟨.refl,.str _ _⟩
  | cons b p=>exact k
theorem Jyo (h1:Jgi sep ls<=lim) (h2:(Str.join sep ls).length<=lim):MtV prog w g T n "join" (.str sep) [.lst (ls.map .str)] (.str (Str.join sep ls)) :=
 ⟨_,_,F.plainAttrs_str,F.slot_str_join,F.type_str_join,fun V V V=>Jho,fun A s av ov vs rm hg hav ho hv=>by
  obtain ⟨t,rfl⟩:=ho.i5
  cases hv.one1 with | mk r =>
  cases r.i8 with | mk na eo q =>
  cases Jou ls q with | mk p e =>
  subst e
  exact call_meets F.slot_str_join (typeIs_str _ _ _) F.entry_str_join (F.args_str_join_2 _ _) (meets_str_join_list sep t _ p (decide_eq_false (by
   rw [List.foldl_toArray]
   exact Nat.not_lt.mpr (Nat.le_trans (Nat.le_trans h1 (Nat.le_add_left ..)) Je8)))) ⟨⟨_,eo,rfl,_,rfl⟩,Jj3 h2⟩⟩
theorem Jkm:MtV prog w g T n "bit_length" (.int a) [] (.int (Builtin.Int.intBits a)) :=
 ⟨_,_,F.plainAttrs_int,F.slot_int_bit_length,F.type_int_bit_length,fun V V V=>Jue,fun A s av ov vs rm hg hav ho hv=>by
  obtain ⟨_,rfl⟩:=ho.i4
  cases hv.i0
  exact call_gives F.slot_int_bit_length (typeIs_int _ _ _) F.entry_int_bit_length (F.args_int_bit_length_1 _) (AutoIntG2.int_bit_length_int_0 _ _) Jao⟩
end
end
section
section
open Builtin
theorem Jr5 {c:UInt8}{cs:List UInt8}{t u:Tok} : «bytes.decode» ⟨[.bytes (c::cs).toArray t,.str (Str.ofString "ascii") u],[]⟩=(mkStr (Str.ofString "utf-8") >>= fun V=>mkStr (Str.ofString "ascii") >>= fun e=>mkStr (Str.ofString "bytes.decode") >>= fun d=>
  call (.builtin "_codecs.decode.text") [.bytes (c::cs).toArray t,e,.none,d] >>= fun v=>ret v):=by kernel_rfl
theorem Jr6 {t u:Tok} : «bytes.decode» ⟨[.bytes #[] t,.str (Str.ofString "ascii") u],[]⟩=(rule "bytes.decode.empty" >>= fun V=>retStr Str.empty):=by kernel_rfl
theorem Jv8 {id:String}{b:Array UInt8}:_codecs.decodeRoad id b (Str.ofString "ascii") none []=(_codecs.runDecoder id _codecs.asciiDecoder none true b 0 [] >>= fun r=>mkStr ⟨r.1⟩):=by kernel_rfl
noncomputable def JC1 (b:Array UInt8):Bool:=b.all fun c=>decide (c.toNat<128)
theorem Jm8 {σ:Type}(b:List Nat) (f:Nat->Nat×Array Nat×σ->Sem (ForInStep (Nat×Array Nat×σ))) (hf:∀ x i out st c,b[i]?=some c->out.size=i->f x (i,out,st)=pure (.yield (i+1,out++[c].toArray,st))) :
  ∀ (l:List Nat) (i:Nat) (out:Array Nat) (st:σ),out.size=i->i+l.length=b.length->forIn l (i,out,st) f=pure (b.length,out++(b.drop i).toArray,st)
 | [],i,out,st,ho,hl=>by
  rw [List.forIn_nil]
  have:i=b.length:=by simpa using hl
  subst this
  simp
 | x::l,i,out,st,ho,hl=>by
  rw [List.length_cons] at hl
  have hlt:i<b.length:=by lia
  have hc:b[i]?=some b[i]:=List.getElem?_eq_getElem hlt
  rw [List.forIn_cons,hf x i out st b[i] hc ho]
  show forIn l (i+1,out++[b[i]].toArray,st) f=_
  rw [Jm8 b f hf l (i+1) _ st (by simp [ho]) (by lia)]
  congr 3
  rw [List.drop_eq_getElem_cons hlt]
  simp
theorem JA2 {id:String}{b:Array UInt8}(hb:JC1 b=true) (hz:b.size<=lim):_codecs.runDecoder id _codecs.asciiDecoder none true b 0 []=pure (b.map (·.toNat),b.size):=by
 unfold _codecs.runDecoder
 simp only [Std.Legacy.Range.forIn_eq_forIn_range']
 have hlen:(List.range' 0 [:b.size].size).length=b.size:=by simp [Std.Legacy.Range.size]
 refine (congrArg (fun z:Sem (Nat×Array Nat×_codecs.Faults)=>z >>= fun s=>pure (s.snd.fst,s.fst)) (Jm8 (b.toList.map (·.toNat)) _ (fun x i out st c hc ho=>?_) _ 0 #[] { } rfl (by rw [hlen]; simp))).trans ?_
 rotate_left
 ·show (pure (#[]++(List.drop 0 (b.toList.map (·.toNat))).toArray,(b.toList.map (·.toNat)).length):Sem (Array Nat×Nat))=_
  have e1:(#[]++(List.drop 0 (b.toList.map (·.toNat))).toArray:Array Nat)=b.map (·.toNat):=by
   apply Array.ext'; simp
  have e2:(b.toList.map (·.toNat)).length=b.size:=by simp
  rw [e1,e2]
 ·have hi:i<b.size:=by
   have:=Jbd hc
   simpa using this
  have hc':(b.getD i 0).toNat=c:=by
   simp only [List.getElem?_map] at hc
   obtain ⟨y,hy,rfl⟩:=Option.map_eq_some_iff.mp hc
   have:b[i]?=some y:=by simpa using hy
   simp [Array.getD_eq_getD_getElem?,this]
  have hlow:c<128:=by
   rw [<- hc']
   simp only [JC1,Array.all_eq_true,decide_eq_true_eq] at hb
   have:=hb i hi
   simpa [Array.getD_eq_getD_getElem?,hi] using this
  have h1:¬ out.size>sizeLine:=by rw [ho]; have:=Je8; lia
  have h2:¬ i>=b.size:=by lia
  simp only [if_neg h1,if_neg h2]
  have h3:_codecs.asciiDecoder.find true b i=.text [c] (i+1):=by
   show (if (b.getD i 0).toNat<128 then _codecs.Found.char (b.getD i 0).toNat (i+1) else _)=_
   rw [hc',if_pos hlow]; rfl
  simp only [h3]
theorem Jv7 {b:Array UInt8}{t t1 t2:Tok}{d:Str}(hb:JC1 b=true) (hz:b.size<=lim) :
  Meets («_codecs.decode.text» ⟨[.bytes b t,.str (Str.ofString "ascii") t1,.none,.str d t2],[]⟩) (fun V R s=>R (.ok (.ret (.str ⟨b.map (·.toNat)⟩ s.toks))) { s with toks:=s.toks+1 }):=by
 refine .of_wp fun prog w A R s h=>?_
 show wpAny _ _ (Bytes.bytesLike _ (.bytes b t) >>= fun r=>_) _ _ s
 refine wpAny_bind (wpAny_of_eq KBd.like_eq ?_)
 refine wpAny_bind (wpAny_of_eq KBd.held_eq ?_)
 show wpAny _ _ (_codecs.decodeRoad _ b (Str.ofString "ascii") none [] >>= fun v=>_) _ _ s
 rw [Jv8,JA2 hb hz]
 refine wpAny_bind (wpAny_bind (wpAny_pure ?_))
 refine wpAny_mkStr (wpAny_pure ⟨_,rfl,h⟩) ?_
 show (b.map (·.toNat)).size<=sizeLine
 rw [Array.size_map]
 have:=Je8; lia
theorem Jex (a b:Value):argsOk "bytes.decode" ⟨[a,b],[]⟩:=by unfold argsOk; kernel_rfl
end
noncomputable def Jgh (b:Array UInt8):Str:=⟨b.map (·.toNat)⟩
section
variable {prog:Program}{w:World}{g:Heap}{T:Ja3}{n:Nat}
theorem Jps {b:Array UInt8}(hb:JC1 b=true) (hz:b.size<=lim):MtV prog w g T n "decode" (.bytes b) [.str (Str.ofString "ascii")] (.str (Jgh b)) :=
 ⟨_,_,FB.plainAttrs_bytes,FB.slot_bytes_decode,FB.type_bytes_decode,fun V V V=>Juf,fun A s av ov vs rm hg hav ho hv=>by
  obtain ⟨t,rfl⟩:=ho.i6
  cases hv.one1 with | mk r =>
  obtain ⟨u,rfl⟩:=r.i5
  obtain ⟨l⟩:=b
  cases l with
  | nil =>
   rw [show Jgh ⟨[]⟩=Str.empty from congrArg Str.mk Array.map_empty]
   exact call_meets FB.slot_bytes_decode (typeIs_bytes _ _ _) FB.entry_bytes_decode (Jex _ _) (S:=fun V R s=>R (.ok (.ret (.str Str.empty s.toks))) { s with toks:=s.toks+1 }) (.of_wp fun prog w A R s h=>by
    rw [Jr6]
    exact wpAny_bind (wpAny_rule (wpAny_bind (m:=mkStr Str.empty) (wpAny_mkStr (wpAny_pure ⟨_,rfl,h⟩) (by decide))))) (Jck:Out g T av s (.str Str.empty) (.str Str.empty s.toks) { s with toks:=s.toks+1 })
  | cons c cs =>
   exact call_meets FB.slot_bytes_decode (typeIs_bytes _ _ _) FB.entry_bytes_decode (Jex _ _) (S:=fun V R s=>∀ t' k,R (.ok (.ret (.str (Jgh (c::cs).toArray) t'))) { s with toks:=k }) (.of_wp fun prog w A R s h=>by
    rw [Jr5]
    exact wpAny_bind (wpAny_mkStr (wpAny_bind (wpAny_mkStr (wpAny_bind (wpAny_mkStr (wpAny_bind (call_function_meets KBd.kind_text KBd.plain_text KBd.entry_text (KBd.args_text _ _ _ _) (Jv7 hb hz) (wpAny_pure ⟨_,rfl,h _ _⟩))) (by decide))) (by decide))) (by decide))) fun t' k=>Jck⟩
end
end
section
theorem Jn1 {i:Int}(h:i.natAbs<=2 ^ 64):sm i=true:=by
 simp only [sm,decide_eq_true_eq]
 exact Nat.lt_of_le_of_lt h (Nat.pow_lt_pow_right (by decide) (by decide))
theorem Sub.nil {σ:Sto}:Sub [] σ:=fun x sl e=>nomatch e
theorem Sub.cons {σ r:Sto}{x:Str}{sl:Sl}(h:σ.lookup x=some sl) (k:Sub r σ):Sub ((x,sl)::r) σ:=fun y sl' e=>(Jaj e).elim (fun q=>q.1▸q.2▸h) fun q=>k y sl' q.2
section
variable {prog:Program}{w:World}{g:Heap}{T:Ja3}{n:Nat}{sc:Scope}{σ:Sto}
theorem Ev.bytes {l:List UInt8}{k:Nat}{pos:Pos}:Ev prog w g T n sc σ (.Constant (.bytes l) k pos) (.bytes l.toArray):=fun A s av env he rm hg hc=>wpAny_mkTextBytes Jfj
end
end
section
section
variable {prog:Program}{w:World}{g:Heap}{T:Ja3}{n m:Nat}{sc scope:Scope}{σ:Sto}{d x y:D}{e elt tg iter ce:Expr}{ds:List D}{pos p:Pos}{i:Int}{k:Nat}{f:Str}
theorem Ev.mono (h:Ev prog w g T n sc σ e d) (hm:n<=m):Ev prog w g T m sc σ e d:=fun A s av env he rm=>h A s av env he (rm.le hm)
theorem Jdx (hi:i=(k:Int)) (hs:Jgk i=true) (h:ds[k]?=some d):Jw1 prog w g T (.lst ds) i d:=by
 subst hi
 exact JCi (Int.ofNat_lt.mp (Int.lt_of_lt_of_le (of_decide_eq_true (Bool.and_eq_true_iff.mp hs).2) (by decide))) h
theorem JAa {β:Type}{xs:List β}{h:β->Int}(hg:Glb g f (.builtin "sum")):ClV prog w g T n f [.lst (xs.map fun x=>D.int (h x))] (.int (xs.map h).sum) :=
 (List.map_map:(xs.map h).map D.int=_)▸JD8 hg
theorem SxL.retEq {sts:List Stmt}{d d':D}(h:SxL prog w g T n sc σ sts (.ret d)) (e:d=d'):SxL prog w g T n sc σ sts (.ret d'):=e▸h
theorem SxL.last {st:Stmt}{sts:List Stmt}{d:D}(h:Sx prog w g T n sc σ st (.ret d)):SxL prog w g T n sc σ (st::sts) (.ret d):=.one h nofun
theorem Jaa {on:List Str}{b:Bd}(h:(b.all fun p=>Jh9 sc on p.1)=true):Je4 sc on b:=fun x d hm=>List.all_eq_true.mp h _ hm
theorem Jcp (a b:Nat):(a:Int).fdiv (b:Int)=((a / b:Nat):Int):=Int.fdiv_eq_ediv_of_nonneg _ (Int.natCast_nonneg b)
theorem Jf5 (a b:Nat):(a:Int).fmod (b:Int)=((a % b:Nat):Int):=Int.fmod_eq_emod_of_nonneg _ (Int.natCast_nonneg b)
noncomputable def Jwo (b:Bd) (σ:Sto):Bool:=b.all fun p=>(σ.lookup p.1).isNone
theorem Jhr {b:Bd}(h:Jwo b σ=true):∀ p∈b,σ.lookup p.1=none:=fun p hp=>Option.isNone_iff_eq_none.mp (List.all_eq_true.mp h p hp)
inductive JB6 (sc:Scope) (on:List Str) (σ:Sto) (tg:Expr) (d:D) (P:Sto->Prop):Prop
 | mk (b:Bd) (t:Tg tg d b) (st:Je4 sc on b) (fr:Jwo b σ=true) (p:P (Ja4 b σ))
structure JGh (p q:Prop):Prop where
 l:p
 r:q
variable {α:Type}{on:List Str}{c:Comprehension}{enc:α->D}{q:α->Bool}{xs:List α}
variable {f:α->D}
theorem Jix (h:∀ x∈xs,JB6 sc on σ tg (enc x) fun σ'=>Ev prog w g T n sc σ' elt (f x)):Jgd prog w g T sc on elt n σ ⟨tg,iter,[],0⟩ [] (xs.map enc) (xs.map f):=by
 induction xs with
 | nil=>exact Jly
 | cons x xs ih=>cases h x (.head _) with | mk b t st fr z=>exact Jlx (o:=[f x]) t st (Jhr fr) .nil (Jjl z) (ih fun y hy=>h y (.tail _ hy))
theorem Jiw (h:∀ x∈xs,JB6 sc on σ tg (enc x) fun σ'=>JGh (EvT prog w g T n sc σ' ce (q x)) (q x=true->Ev prog w g T n sc σ' elt (f x))) :
  Jgd prog w g T sc on elt n σ ⟨tg,iter,[ce],0⟩ [] (xs.map enc) ((xs.filter q).map f):=by
 induction xs with
 | nil=>exact Jly
 | cons x xs ih =>
  have ih:=ih fun y hy=>h y (.tail _ hy)
  cases h x (.head _) with | mk b t st fr z =>
  cases hq:q x with
  | true=>rw [List.filter_cons_of_pos hq]; exact Jlx (o:=[f x]) t st (Jhr fr) (.yes (hq▸z.l) .nil) (Jjl (z.r hq)) ih
  | false=>rw [List.filter_cons_of_neg (by rw [hq]; exact Bool.false_ne_true)]; exact Jyx t st (Jhr fr) (.no (hq▸z.l)) ih
section
variable (hok:Jcy sc scope=true) (hcap:((cap scope σ).all fun p=>Jhp p.2)=true) (hsd:Jez iter) (hi:EvI prog w g T n sc σ tg iter (xs.map enc)) (hz:xs.length<=lim)
include hok hcap hsd hi hz
theorem EvO.each (h:∀ x∈xs,JB6 (Jad scope sc) (Ja1 scope.names) (cap scope σ) tg (enc x) fun σ'=>Ev prog w g T n (Jad scope sc) σ' elt (f x)):EvO prog w g T n sc σ (.ListComp elt [⟨tg,iter,[],0⟩] scope pos) (xs.map f) :=
 EvO.comp (c:=⟨tg,iter,[],0⟩) (fun c hc=>List.mem_singleton.mp hc▸rfl) hsd hok hcap hi (Jix h) (List.length_map (as:=xs) f▸hz)
theorem EvO.some (h:∀ x∈xs,JB6 (Jad scope sc) (Ja1 scope.names) (cap scope σ) tg (enc x) fun σ'=>JGh (EvT prog w g T n (Jad scope sc) σ' ce (q x)) (q x=true->Ev prog w g T n (Jad scope sc) σ' elt (f x))) :
  EvO prog w g T n sc σ (.ListComp elt [⟨tg,iter,[ce],0⟩] scope pos) ((xs.filter q).map f) :=
 EvO.comp (c:=⟨tg,iter,[ce],0⟩) (fun c hc=>List.mem_singleton.mp hc▸rfl) hsd hok hcap hi (Jiw h) (List.length_map (as:=xs.filter q) f▸Nat.le_trans (List.length_filter_le _ _) hz)
end
theorem Jit (enc:α->D) (xs:List α):∀ i:Nat,numbered i (xs.map enc)=(xs.zipIdx i).map fun p=>D.tup [.int (p.2:Int),enc p.1]:=by
 induction xs with
 | nil=>exact fun V=>rfl
 | cons x xs ih=>exact fun i=>congrArg (_ :: ·) (ih (i+1))
theorem EvI.enumM {es':List Expr}{k':Nat}{p' p pos:Pos}{F:Str}(hx:sc.names.lookup F=some .globalImplicit) (hgl:Glb g F (.type "enumerate")) (hs:Jlc e) (he:Ev prog w g T n sc σ e (.lst (xs.map enc))) :
  EvI prog w g T n sc σ (.Tuple es' k' p') (.Call (.Name F p) [e] [] pos) (xs.zipIdx.map fun p=>D.tup [.int (p.2:Int),enc p.1]):=Jit enc xs 0▸EvI.enum hx hgl hs he
end
end
section
noncomputable def Jdc:Scope:={ kind:=.function,names:=[],isGenerator:=false,isCoroutine:=false,more:=[] }
structure StP where
 name:Str
 test:Expr
 iter:Expr
 body:List Stmt
 orelse:List Stmt
 scope:Scope
 args:Arguments
noncomputable def noE:Expr:=.Constant .none 0 ⟨0,0,0,0⟩
noncomputable def noA:Arguments:={ posonlyargs:=[],args:=[],vararg:=none,kwonlyargs:=[],kw_defaults:=[],kwarg:=none,defaults:=[] }
noncomputable def stP:Stmt->StP
 | .FunctionDef n a b _ _ _ sc .. => ⟨n,noE,noE,b,[],sc,a⟩
 | .While t b .. => ⟨Str.empty,t,noE,b,[],Jdc,noA⟩
 | .For t i b o .. => ⟨Str.empty,t,i,b,o,Jdc,noA⟩
 | .If t b o .. => ⟨Str.empty,t,noE,b,o,Jdc,noA⟩
 | .Assign _ v .. => ⟨Str.empty,v,noE,[],[],Jdc,noA⟩
 | .Return (some v) .. => ⟨Str.empty,v,noE,[],[],Jdc,noA⟩
 | .Expr v .. => ⟨Str.empty,v,noE,[],[],Jdc,noA⟩
 | .ClassDef n _ _ b .. => ⟨n,noE,noE,b,[],Jdc,noA⟩
 | _=>⟨Str.empty,noE,noE,[],[],Jdc,noA⟩
noncomputable abbrev Jdq:Program:=PySem.Challenge.pw_wz0031_02
noncomputable def fn1 (x:String):Stmt:=(Jdq.main.body.find? fun st=>(stP st).name==Str.ofString x).getD (.Pass ⟨0,0,0,0⟩)
noncomputable def Ja5 (st:Stmt):List Stmt:=(stP st).body
noncomputable def Ja2 (st:Stmt):Scope:=(stP st).scope
noncomputable def Jx1 (st:Stmt):Arguments:=(stP st).args
noncomputable def Jw8 (st:Stmt):Expr:=(stP st).test
noncomputable def Joj (st:Stmt):List Stmt:=(stP st).body
noncomputable def JFd (st:Stmt):Expr:=(stP st).test
noncomputable def nth (l:List Stmt) (k:Nat):Stmt:=l.getD k (.Pass ⟨0,0,0,0⟩)
noncomputable def Jbm (k:Nat):UInt8:=(65+k).toUInt8
noncomputable def apL:Nat->Nat->List UInt8->List UInt8
 | 0,_,acc=>acc
 | f+1,n,acc=>if n=0 then acc else apL f (n / 16) (Jbm (n % 16)::acc)
noncomputable def Jg1:Array UInt8:=[65,66,67,68,69,70,71,72,73,74,75,76,77,78,79,80].toArray
theorem Jrw (m:Nat) (hm:m<16):KBy.picked Jg1 (some (m:Int)) (some ((m:Int)+1))=[Jbm m].toArray:=by
 have:∀ m:Fin 16,KBy.picked Jg1 (some ((m:Nat):Int)) (some (((m:Nat):Int)+1))=[Jbm m].toArray:=by decide +kernel
 exact this ⟨m,hm⟩
section
variable {prog:Program}{w:World}{g:Heap}{T:Ja3}{n:Nat}
noncomputable def Jxe (k:Nat) (acc:List UInt8):Sto:=[(Str.ofString "num",.val (.int k)),(Str.ofString "val",.val (.bytes acc.toArray)),(Str.ofString "AP",.val (.bytes Jg1))]
theorem Joi (k1:Glb g (Str.ofString "divmod") (.builtin "divmod")) (f:Nat):∀ (k:Nat) (acc:List UInt8),k<16 ^ f->acc.length+f<=1000 ->
  WhR prog w g T n (Ja2 (fn1 "Int2AP")) (Jw8 (nth (Ja5 (fn1 "Int2AP")) 3)) (Joj (nth (Ja5 (fn1 "Int2AP")) 3)) f (Jxe k acc) (.next (Jxe 0 (apL f k acc))):=by
 induction f with
 | zero =>
  intro k acc hk ha
  cases Nat.lt_one_iff.mp hk
  exact WhR.stop (EvT.val (Ev.name rfl) (fun V V=>rfl) Jh4)
 | succ f ih =>
  intro k acc hk ha
  by_cases h0:k=0
  ·subst h0
   exact WhR.stop (EvT.val (Ev.name rfl) (fun V V=>rfl) Jh4)
  ·rw [show apL (f+1) k acc=apL f (k / 16) (Jbm (k % 16)::acc) from if_neg h0]
   have hp:KBy.picked Jg1 (some ((k:Int).fmod 16)) (some ((k:Int).fmod 16+1))=[Jbm (k % 16)].toArray:=(Jf5 k 16).symm▸Jrw _ (Nat.mod_lt _ (by decide))
   have hl:(KBy.picked Jg1 (some ((k:Int).fmod 16)) (some ((k:Int).fmod 16+1))).size<=lim:=hp▸(by decide:(1:Nat)<=lim)
   have ht:EvT prog w g T n (Ja2 (fn1 "Int2AP")) (froz (Jxe k acc)) (Jw8 (nth (Ja5 (fn1 "Int2AP")) 3)) ((k:Int) != 0):=EvT.val (Ev.name rfl) (fun V V=>rfl) Jh4
   rw [bne_iff_ne.mpr (show (k:Int)≠0 by lia)] at ht
   refine WhR.step ht (SxL.cons (Sx.assignTup (b:=[(Str.ofString "num",.int ((k:Int).fdiv 16)),(Str.ofString "mod",.int ((k:Int).fmod 16))]) (Ev.call rfl (EvL.more (fun V=>rfl) (Ev.name rfl) (EvL.more (fun V=>rfl) Ev.int EvL.nil)) (Jjk k1 (by decide) rfl)) (fun V V V=>rfl) (fun V=>rfl) (.cons (.cons .nil)) (Jaa rfl)) (SxL.cons (Sx.assign (Ev.bin (Ev.slice (Ev.name rfl) (EvP.some' (Ev.name rfl)) (EvP.some' (Ev.bin (Ev.name rfl) Ev.int Jag)) EvP.none' (Jk4 hl)) (Ev.name rfl) (Jrt hl (Nat.le_trans (show acc.toArray.size<=1000 by rw [List.size_toArray]; lia) (by decide)))) (fun V V V=>rfl) rfl) SxL.nil)) ?_
   ·refine WhR.weak ?_ (ih (k / 16) (Jbm (k % 16)::acc) (by rw [Nat.pow_succ] at hk; lia) (by rw [List.length_cons]; lia))
    rw [hp,List.append_toArray,show ((k:Int).fdiv 16)=((k / 16:Nat):Int) from Jcp k 16]
    exact Sub.cons rfl (Sub.cons rfl (Sub.cons rfl Sub.nil))
noncomputable def apB (k:Nat):Array UInt8:=(apL 200 k []).toArray
theorem Jnh:FnS (Ja2 (fn1 "Int2AP")) [Str.ofString "num"]:=⟨⟨rfl,rfl,rfl,by decide +kernel⟩,by decide +kernel⟩
theorem Jrj {a:Addr}{i:Int}(k1:Glb g (Str.ofString "divmod") (.builtin "divmod")) (k2:Glb g (Str.ofString "int") (.type "int")) (k3:Glb g (Str.ofString "abs") (.builtin "abs"))
  (hf:Jg4 g a (Ja2 (fn1 "Int2AP")) [Str.ofString "num"] (Ja5 (fn1 "Int2AP"))) (hg:Glb g (Str.ofString "Int2AP") (.ref a)) (hi:i.natAbs<16 ^ 200):ClV prog w g T (n+1) (Str.ofString "Int2AP") [.int i] (.bytes (apB i.natAbs)):=by
 refine .fn hg hf Jnh rfl ?_
 refine SxL.cons (Sx.assign Ev.bytes (fun V V V=>rfl) rfl) (SxL.cons (Sx.assign Ev.bytes (fun V V V=>rfl) rfl) (SxL.cons (Sx.assign (Ev.call rfl (EvL.more (fun V=>rfl) (Ev.call rfl (EvL.more (fun V=>rfl) (Ev.name rfl) EvL.nil) (JDe k3)) EvL.nil) (JDb k2)) (fun V V V=>rfl) rfl) (SxL.cons (Sx.while (k:=200) (WhR.weak ?_ (Joi k1 200 i.natAbs [] hi (by decide)))) (SxL.last (Sx.ret (Ev.name rfl))))))
 rw [show (if i<0 then -i else i)=((i.natAbs:Nat):Int) by split <;> lia]
 exact Sub.cons rfl (Sub.cons rfl (Sub.cons rfl Sub.nil))
end
end
section
noncomputable def Jls {α:Type}(xs:List α) (lo hi st:Option Int):List α:=(Jbl xs.length lo hi st).filterMap (xs[·]?)
theorem Jpj {α:Type}(enc:α->D) (xs:List α) (lo hi st:Option Int):Jy9 (xs.map enc) lo hi st=(Jls xs lo hi st).map enc:=by
 unfold Jy9 Jls
 rw [List.length_map,List.map_filterMap]
 exact congrArg (List.filterMap · _) (funext fun k=>List.getElem?_map)
theorem Jjg (d k:Int) (hd:1<=d) (hk:1<=k):(d+k - 1) / k<=d:=Int.ediv_le_of_le_mul hk (by
 have h:0<=(d - 1)*(k - 1):=Int.mul_nonneg (Int.sub_nonneg.mpr hd) (Int.sub_nonneg.mpr hk)
 rw [Int.sub_mul,Int.mul_sub,Int.mul_one,Int.one_mul] at h; lia)
theorem Jkd {α:Type}(xs:List α) {lo hi st:Option Int}(hk:st.getD 1>0):(Jls xs lo hi st).length<=xs.length:=by
 refine Nat.le_trans (List.length_filterMap_le _ _) ?_
 have h1:0<=(sliceBounds lo hi st xs.length).1:=by
  cases lo with
  | none=>exact Int.le_of_eq (if_pos hk).symm
  | some i=>exact Int.le_trans (Int.le_max_left ..) (Int.le_of_eq (if_pos hk).symm)
 have h2:(sliceBounds lo hi st xs.length).2.1<=xs.length:=by
  cases hi with
  | none=>exact Int.le_of_eq (if_pos hk)
  | some i=>exact Int.le_trans (Int.le_of_eq (if_pos hk)) (Int.max_le.mpr ⟨Int.natCast_nonneg _,Int.min_le_right ..⟩)
 rw [Jbl,sliceRange,List.length_map,List.length_range,if_pos (show (sliceBounds lo hi st xs.length).2.2>0 from hk)]
 refine Int.toNat_le.mpr ?_
 split
 ·rename_i h
  exact Int.le_trans (Jjg _ _ (Int.sub_pos_of_lt h) hk) (Int.le_trans (Int.sub_le_self _ h1) h2)
 ·exact Int.natCast_nonneg _
section
variable {prog:Program}{w:World}{g:Heap}{T:Ja3}
theorem Jbt {α:Type}{enc:α->D}{xs:List α}{lo hi st:Option Int}(hs:(st==some 0)=false) (h:xs.length<=lim):JDt prog w g T (.lst (xs.map enc)) lo hi st (.lst ((Jls xs lo hi st).map enc)) :=
 Jpj enc xs lo hi st▸Jp0 hs (by rwa [List.length_map])
end
end
theorem Jnf (m:Nat) (h:m<16):(Jbm m).toNat<128:=(by decide:∀ m:Fin 16,(Jbm m).toNat<128) ⟨m,h⟩
theorem Jvp (f:Nat):∀ (n:Nat) (acc:List UInt8),(∀ c∈acc,c.toNat<128)->∀ c∈apL f n acc,c.toNat<128:=by
 induction f with
 | zero=>exact fun n acc h=>h
 | succ f ih =>
  intro n acc h
  rw [apL]
  split
  ·exact h
  ·exact ih _ _ fun c hc=>(List.mem_cons.mp hc).elim (fun q=>q▸Jnf _ (Nat.mod_lt _ (by decide))) (h c)
theorem Jnv (f:Nat):∀ (n:Nat) (acc:List UInt8),(apL f n acc).length<=f+acc.length:=by
 induction f with
 | zero=>exact fun n acc=>Nat.le_add_left ..
 | succ f ih =>
  intro n acc
  rw [apL]
  split
  ·exact Nat.le_add_left ..
  ·exact Nat.le_trans (ih _ _) (Nat.le_of_eq (Nat.succ_add_eq_add_succ f acc.length).symm)
theorem Jvr (k:Nat):JC1 (apB k)=true:=List.all_toArray.trans (List.all_eq_true.mpr fun c hc=>decide_eq_true (Jvp 200 k [] nofun c hc))
theorem Jvq (k:Nat):(apB k).size<=200:=Jnv 200 k []
noncomputable def apS (k:Nat):Str:=Jgh (apB k)
section
theorem Jgv {pos:Pos}{a b:Int}{c cv:Value}{ta tb:Tok}{l:List Value}:TriplesOk l->codeAmong pos (l++[.int a ta,.int b tb,c])=some cv->codeAmong pos l=some cv\/cv=c:=by
 fun_induction TriplesOk l with
 | case1 =>
  intro _ h
  by_cases q:(a==pos.line&&b==pos.col)=true
  ·exact .inr (Option.some.inj ((if_pos q).symm.trans h)).symm
  ·exact nomatch (if_neg q).symm.trans h
 | case2 a' t b' u x rest ih =>
  intro ht h
  by_cases q:(a'==pos.line&&b'==pos.col)=true
  ·exact .inl ((if_pos q).trans ((if_pos q).symm.trans h))
  ·exact (ih ht ((if_neg q).symm.trans h)).imp (if_neg q).trans id
 | case3 l h1 h2=>intro h; exact h.elim
theorem Jci {ps vs:Array Value}{q:Str}{t:Tok}(htr:TriplesOk ps.toList) (e3:(tabObj ps).data=.fields vs) (e4:vs[1]?=some (.str q t)):False:=by
 cases e3
 rw [<- Array.getElem?_toList] at e4
 revert htr e4
 fun_induction TriplesOk ps.toList with
 | case1=>exact fun V=>nofun
 | case2=>exact fun V=>nofun
 | case3 l h1 h2=>exact fun f=>f.elim
theorem Jfx {h h':Heap}{cv:Value}{q:Str}(x:h.CodeRec cv q) (k:∀ c o vs t,h.get? c=some o->o.data=.fields vs->vs[1]?=some (.str q t)->h'.get? c=some o):h'.CodeRec cv q:=by
 obtain ⟨c,oc,vs,t,e1,e2,e3,e4⟩:=x
 exact ⟨c,oc,vs,t,e1,k c oc vs t e2 e3 e4,e3,e4⟩
inductive Jb5 (g:Heap) (T:Ja3) (cv:Value) (q:Str):Prop
 | mk (mg:Str->Option Value) (c P:Addr) (code:cv=.ref c) (ns:g.Ns mainGlobals mg) (hd:CodeHd g c P) (b:g.BuiltinsAt mg P) (m:(P,q)∈T.tabs) (one:∀ P q q',(P,q)∈T.tabs->(P,q')∈T.tabs->q=q')
section
variable {prog:Program}{w:World}{g:Heap}{T:Ja3}{n:Nat}{sc scope:Scope}{s s':Shared}{env:Env}{A:Around}{f:Addr}{cl:List (Str×Addr)}{xs:List Str}{body:List Stmt}{name q:Str}{ps:Arguments}{pos:Pos}
theorem Jla.off {h h':Heap}{P:Addr}{tab:Array Value}{b:Addr}(x:Jla h b q) (hP:h.get? P=some (tabObj tab)) (htr:TriplesOk tab.toList) (hb:b≠P) (k:∀ b o,b≠P->h.get? b=some o->h'.get? b=some o):Jla h' b q:=by
 obtain ⟨ps',e,t,cs⟩:=x
 exact ⟨ps',k _ _ hb e,t,fun pos cv hc=>Jfx (cs pos cv hc) fun c o vs t e2 e3 e4=>k c o (fun z=>Jci htr (Jav (z▸e2) hP▸e3) e4) e2⟩
theorem Jj7 {P c':Addr}{tab:Array Value}{h':Heap}{o:Obj}{tk:Nat}{line col:Int}{t1 t2:Tok}(hone:∀ P q q',(P,q)∈T.tabs->(P,q')∈T.tabs->q=q') (hm:(P,q)∈T.tabs) (hP:s.heap.get? P=some (tabObj tab)) (htr:TriplesOk tab.toList)
  (hcs:∀ pos cv,codeAmong pos tab.toList=some cv->s.heap.CodeRec cv q) (hx:Heap.ExtBut P s.heap h') (hrec:h'.CodeRec (.ref c') q) (htb:h'.get? P=some (tabObj (tab ++ #[Value.int line t1,Value.int col t2,Value.ref c']))) (htr':TriplesOk (tab ++ #[Value.int line t1,Value.int col t2,Value.ref c']).toList) :
  Ext g T s { s with heap:=h'.push o,toks:=tk }:=by
 have k:∀ b ob,b≠P->s.heap.get? b=some ob->(h'.push o).get? b=some ob:=fun b ob n e=>Heap.get?_push_of_some _ (hx b ob n e)
 refine ⟨rfl,rfl,fun b ob e hoff=>k b ob (fun q=>hoff _ hm q.symm) e,fun Q=>⟨fun b ob e=>k b ob (fun z=>nos (Q.off _ hm) (z▸e)) (Q.keep b ob e),fun p hp=>?_,Q.off,Q.bare⟩⟩
 by_cases hpP:p.1=P
 ·have e:p.2=q:=hone P _ _ (hpP▸hp) hm
  rw [hpP,e]
  refine ⟨_,Heap.get?_push_of_some _ htb,htr',fun pos cv hc=>?_⟩
  rw [Array.toList_append] at hc
  rcases Jgv htr hc with h1 | rfl
  ·exact Jfx (hcs pos cv h1) fun c o vs t e2 e3 e4=>k c o (fun z=>Jci htr (Jav (z▸e2) hP▸e3) e4) e2
  ·exact hrec.push o
 ·exact (Q.tabs p hp).off hP htr hpP k
noncomputable abbrev Jw4 (ps:Arguments) (xs:List Str):Prop:=∀ (fd:FuncData) (vals:List Value),fd.params=ps->fd.defaults=.none->fd.kwdefaults=.none->vals.length=xs.length->bindArgs fd ⟨vals,[]⟩=pure (xs.zip vals)
noncomputable abbrev Jx7:=FnO fun V V=>True
inductive JDz (g:Heap) (T:Ja3) (sc:Scope) (cl:List (Str×Addr)) (xs:List Str) (body:List Stmt) (s:Shared):Value->Shared->Prop
 | mk {f:Addr}{s':Shared}(x:Ext g T s s') (n:s.heap.get? f=none) (o:Jx7 s'.heap f sc cl xs body):JDz g T sc cl xs body s (.ref f) s'
theorem Jz3 (x:Ext g T s s') (hg:GK g T s) (h:s.heap.NoLimit):s'.heap.NoLimit:=h.imp fun V p=>⟨x.ns hg p.1,p.2⟩
theorem Jxj {fl:Nat}(hb:Jw4 ps xs) (hlim:g.NoLimit) (hg:GK g T s) (mk:Jb5 g T env.code q) (hge:env.globals=mainGlobals) (hcl:closureFor scope env=pure cl) :
  wpAny (model prog w) A (makeFunction name q ps (.stmts body) scope env [] [] [] pos fl) (JDz g T scope cl xs body s) NoE s:=by
 cases mk with | mk mg c P hcode hns hcd hbi hm hone =>
 obtain ⟨tab,hP,htr,hcs⟩:=hg.tabs (P,q) hm
 have hbi:s.heap.BuiltinsAt mg P:=by
  obtain ⟨bm,o,b1,b2,b3,b4,b5,r⟩:=hbi
  exact ⟨bm,o,b1,b2,b3,b4,hg.keep _ _ b5,r⟩
 have hlim:=hlim.keeps hg.keep
 cases hf:codeAmong pos tab.toList with
 | none =>
  refine makeFunction_K hcl hge (hns.keeps hg.keep) hcode (hcd.keeps hg.keep) hP htr hf (fun z=>hns.elim fun o n=>n.elim fun V n=>n.elim fun V n=>nos (hg.off (P,q) hm) (z▸n.1)) hbi fun c' ctv doc h' tk hx hge' hlt hrec htb=>?_
  have x:=Jj7 (g:=g) (tk:=tk) (o:=fnMade name q ps body scope cl doc ((mg "__name__").getD .none) c' ctv) hone hm hP htr hcs hx hrec htb (by rw [Array.toList_append]; exact TriplesOk_snoc _ _ _ _ htr)
  exact ⟨x,Jds (Nat.le_of_lt (Nat.lt_of_le_of_lt hge' hlt)),_,_,Heap.get?_push_size _ rfl,rfl,rfl,rfl,rfl,rfl,rfl,hrec.push _,fun vals h=>.pure (hb _ vals rfl rfl rfl h),trivial,Jz3 x hg hlim⟩
 | some cv =>
  refine makeFunction_hit hcl hge (hns.keeps hg.keep) hcode (hcd.keeps hg.keep) hP htr hf hbi fun ctv doc h' tk hk hsz=>?_
  exact ⟨.of _ _ fun b o e=>Heap.get?_push_of_some _ (hk b o e),Jds hsz,_,_,Heap.get?_push_size _ rfl,rfl,rfl,rfl,rfl,rfl,rfl,((hcs pos cv hf).keeps hk).push _,fun vals h=>.pure (hb _ vals rfl rfl rfl h),trivial,hlim.keeps fun b o e=>Heap.get?_push_of_some _ (hk b o e)⟩
end
end
section
inductive JHb (g:Heap) (T:Ja3) (av:List Addr) (ow:Ow) (env:Env) (σ:Sto) (name:Str) (sc:Scope) (xs:List Str) (body:List Stmt) (s:Shared):Flow->Shared->Prop
 | mk {f:Addr}{cl:List (Str×Addr)}{s':Shared}(n:s.heap.get? f=none) (o:Jx7 s'.heap f sc cl xs body) (F:Fm g T av (ow.drop name) env ((name,.val (.adr f))::σ) s') (m:Mv g T (Wr env ow) s s') (c:Jx8 env sc.names cl):JHb g T av ow env σ name sc xs body s .next s'
noncomputable def Jbp (T:Ja3) (h:Heap):Heap:={ h with objs:=h.objs.mapIdx fun i o=>if T.tabs.any (fun p=>p.1==i) then { o with data:=.freed } else o }
section
variable {prog:Program}{w:World}{g g':Heap}{T:Ja3}{n:Nat}{sc scope:Scope}{σ σc:Sto}{s s' sA:Shared}{av:List Addr}{ow:Ow}{env:Env}{A:Around}{f b:Addr}{cl:List (Str×Addr)}{xs:List Str}{body:List Stmt}{name q x:Str}{ps:Arguments}{pos p:Pos}{h h':Heap}{o:Obj}{P:Value->Str->Prop}{e:Expr}{es:List Expr}{ds:List D}{d:D}
theorem Jcr (hb:Off T b):(Jbp T h).get? b=h.get? b:=by
 have e:T.tabs.any (fun p=>p.1==b)=false:=List.any_eq_false.mpr fun p hp q=>hb p hp (eq_of_beq q)
 unfold Heap.get? Jbp
 rw [Array.getElem?_mapIdx]
 cases h.objs[b]? with
 | none=>rfl
 | some o=>rw [Option.map_some,e]; rfl
theorem Jdg {p:Addr×Str}(hp:p∈T.tabs):(Jbp T h).get? p.1=none:=by
 have e:T.tabs.any (fun q=>q.1==p.1)=true:=List.any_eq_true.mpr ⟨p,hp,beq_self_eq_true _⟩
 unfold Heap.get? Jbp
 rw [Array.getElem?_mapIdx]
 cases h.objs[p.1]? with
 | none=>rfl
 | some o=>rw [Option.map_some,e]; rfl
theorem Jbh (e:(Jbp T h).get? b=some o):Off T b/\h.get? b=some o:=by
 have hb:Off T b:=fun p hp q=>nos (Jdg (h:=h) hp) (q▸e)
 exact ⟨hb,Jcr hb▸e⟩
theorem GK.core (q:GK g T s) (x:Ext g T s sA):GK (Jbp T s.heap) T sA:=⟨fun b o e=>x.keep b o (Jbh e).2 (Jbh e).1,(x.gk q).tabs,fun p=>Jdg,(x.gk q).bare⟩
theorem Ext.base (x:Ext g' T s s') (q':GK g' T s):Ext g T s s':=⟨x.dr,x.os,x.keep,fun q=>⟨fun b o e=>x.keep b o (q.keep b o e) fun p hp z=>nos (q.off p hp) (z▸e),(x.gk q').tabs,q.off,(x.gk q').bare⟩⟩
theorem GK.core_get (q:GK g T s) (e:s.heap.get? b=some o) (nt:NT o):(Jbp T s.heap).get? b=some o:=(Jcr (q.away e nt)).trans e
theorem GK.code_off (q:GK g T s) {vs:Array Value}{t:Str}{u:Tok}(e:s.heap.get? b=some o) (e3:o.data=.fields vs) (e4:vs[1]?=some (.str t u)):Off T b:=fun p hp z=>by
 obtain ⟨tab,e',htr,_⟩:=q.tabs p hp
 exact Jci htr (Jav (z▸e) e'▸e3) e4
theorem FnO.to (hP:∀ c q,P c q) (hf:FnO P h f sc cl xs body) (hlim:h'.NoLimit) (k1:∀ o,h.get? f=some o->NT o->h'.get? f=some o) (k2:∀ c o vs q t,h.get? c=some o->o.data=.fields vs->vs[1]?=some (.str q t)->h'.get? c=some o):FnO P h' f sc cl xs body:=by
 cases hf with | mk o fd ho hd a1 a2 a3 a4 a5 hcr hb hp _=>exact ⟨o,fd,k1 o ho (by rintro ps rfl; cases hd),hd,a1,a2,a3,a4,a5,Jfx hcr fun c o vs t=>k2 c o vs _ t,fun vs h=>(hb vs h).rec .pure fun n V=>(n hP).elim,hp,hlim⟩
theorem Jw7 (hb:Jw4 ps xs) (hlim:g.NoLimit) (F:Fm g T av ow env σ s) (mk:Jb5 g T env.code q) (hq:qualnameIn env name name=q) (hst:Jlf env ow.c name) (hd0:ps.defaults=[]) (hk0:ps.kw_defaults=[]) (ha:annTrees ps none env=[])
  (hfree:∀ x,(x,NameKind.free)∈scope.names->env.kindOf x=some .cell\/env.kindOf x=some .free):wpAny (model prog w) A (exec (.FunctionDef name ps body [] none [] scope none name pos) env) (JHb g T av ow env σ name scope xs body s) NoE s:=by
 obtain ⟨cl,hcl,hat⟩:=Jcs (scope:=scope) (env:=env) fun x hx=>(F.ec.cells x (hfree x hx)).imp fun V p=>p.1
 refine nestDef_K hd0 hk0 ha (hq.symm▸Ja0 (Jxj hb hlim F.gk mk F.ec.glob hcl) fun v sA h₁=>?_)
 cases h₁ with | @mk f _ x hn ho =>
 refine Ja0 (Jb1 (F.ext x) hst (d:=.adr f) (.adr f)) fun V s2 h₂=>⟨hn,ho.to (fun V V=>trivial) (hlim.keeps h₂.F.gk.keep) (fun o e nt=>h₂.m.get' (x.gk F.gk) e (F.wr_not hn) nt) fun c o vs q t e e3 e4=>h₂.m.get e (fun hw=>((F.ext x).wcode c hw).2 o e |>.1 vs q t e3 e4) ((x.gk F.gk).code_off e e3 e4),h₂.F,Mv.trans x.mv h₂.m fun b h=>.inl h,hat⟩
inductive ClA (prog:Program) (w:World) (g:Heap) (T:Ja3) (n:Nat) (a:Addr) (ds:List D) (d:D):Prop
 | mk (o:Obj) (fd:FuncData) (e:g.get? a=some o) (h:o.data=.func fd) (run:∀ (A:Around) (s:Shared) (vs:List Value),Rm n A->GK g T s->VDs [] s.heap vs ds->wpAny (model prog w) A (call (.ref a) vs) (Out g T [] s d) NoE s)
noncomputable abbrev Flat (d:D):Prop:=∀ (av:List Addr) (h:Heap) (v:Value),VD [] h v d->VD av h v d
theorem Jc3 {i:Int}:Flat (.int i):=fun av h v r=>by obtain ⟨_,rfl⟩:=r.i4; exact .int _ _
theorem Jsu (he:env.scope=sc) (rm:Rm n A) (q:GK g T s) (hg':∀ {sA},Ext g T s sA->GK g' T sA) (c:EC av env σ s.heap) (hx:σ.lookup x=some (.val (.adr f))) (ha:EvL prog w g T n sc σ (e::es) ds) (h:ClA prog w g' T n f ds d) (hd:Flat d) :
  wpAny (model prog w) A (eval (.Call (.Name x p) (e::es) [] pos) env) (Out g T av s d) NoE s:=by
 cases h with | mk o fd ho hdat run =>
 exact wpAny_Call_NameR (Jab c.kind (c.adr hx) (callWith_def hdat (Ja0 (ha.run A s av env pos he rm q c) fun vs sA h₁=>⟨(hg' h₁.1).keep _ _ ho,Ja0 (run A sA vs rm (hg' h₁.1) (h₁.2.sub fun a (ha:a∈([]:List Addr))=>nomatch ha)) fun v s2 h₂=>⟨h₁.1.trans (h₂.1.base (hg' h₁.1)),hd _ _ _ h₂.2⟩⟩) (ha.plain.1 _)))
theorem Ev.callA (hx:σ.lookup x=some (.val (.adr f))) (ha:EvL prog w g T n sc σ (e::es) ds) (h:ClA prog w g T n f ds d) (hd:Flat d):Ev prog w g T n sc σ (.Call (.Name x p) (e::es) [] pos) d:=fun A s av env he rm hg hc=>Jsu he rm hg (fun x=>x.gk hg) hc hx ha h hd
theorem Jbi.keeps (c:Jbi sc cl σc av h) (k:∀ b o,h.get? b=some o->h'.get? b=some o):Jbi sc cl σc av h' :=
 ⟨fun x a e=>(c.ce x a e).imp fun V i=>Jbf i fun o e V=>k _ _ e,c.free,fun x sl e=>(c.cap x sl e).rec fun d a v ok kk nc e i r=>⟨d,a,v,ok,kk,nc,e,Jbf i fun o e V=>k _ _ e,r.keep fun b o e V V=>k _ _ e⟩⟩
theorem ClA.fn (hf:Jx7 g f sc cl xs body) (hs:FnS0 sc xs) (hc:Jbi sc cl σc [] g) (hl:ds.length=xs.length) (h:SxL prog w g T n sc (Ja4 (xs.zip ds) σc) body (.ret d)):ClA prog w g T (n+1) f ds d :=
 hf.rec fun o fd ho hd a1 a2 a3 a4 a5 a6 a7 a8 a9=>⟨o,fd,ho,hd,fun A s vs rm hg hv=>Jf0 hf hs (hc.keeps hg.keep) rm hg nofun hv hl fun env ow sA E c V rm F x hw=>Ja0 (h _ sA [] ow env E.sc_ c rm F) fun fl s3 h₃=>by
  cases h₃ with | ret r m=>exact ⟨(Mv.trans x.mv m fun b hb=>.inr (hw b hb)).ext fun b q=>q,r⟩⟩
end
end
section
section
variable {prog:Program}{w:World}{g:Heap}{T:Ja3}{n:Nat}{sc scope:Scope}{σ:Sto}{s:Shared}{av:List Addr}{env:Env}{A:Around}{cl:List (Str×Addr)}{x:Str}{v:Value}{e:Expr}{d:D}
theorem GK.sub (q:GK g T s) (b:Addr) (o:Obj) (e:g.get? b=some o):(Jbp T s.heap).get? b=some o:=(Jcr fun p hp z=>nos (q.off p hp) (z▸e)).trans (q.keep b o e)
theorem Glb.core (q:GK g T s) (h:Glb g x v):Glb (Jbp T s.heap) x v:=by
 cases h with
 | glob o m n e=>exact .glob o m (n.keeps q.sub) e
 | blt o m b n e n' e'=>exact .blt o m b (n.keeps q.sub) e (n'.keeps q.sub) e'
theorem Ev.core (h:Ev prog w (Jbp T s.heap) T n sc σ e d) (he:env.scope=sc) (rm:Rm n A) (q:GK g T s) (c:EC av env σ s.heap):wpAny (model prog w) A (eval e env) (Out g T av s d) NoE s :=
 Ja0 (h A s av env he rm (q.core .refl) c) fun v s' h=>⟨h.1.base (q.core .refl),h.2⟩
theorem Jji {σc:Sto}{av':List Addr}{h':Heap}(hok:Jcy sc scope=true) (hnc:Ja1 scope.names=[]) (hcap:(σc.all fun p=>scope.names.lookup p.1==some .free&&Jhp p.2)=true) (hs:Sub σc σ) (he:env.scope=sc) (c:EC av env σ s.heap) (H:Jx8 env scope.names cl)
  (kc:∀ {a u},s.heap.IsCell a u->h'.IsCell a u) (kd:∀ {v d},VD av s.heap v d->VD av' h' v d):Jbi scope cl σc av' h':=by
 refine ⟨fun x a e=>?_,fun x h=>(H.all x (Jas h)).elim fun a e=>e▸rfl,fun x sl e=>?_⟩
 ·have h:=H.at_ x a e
  obtain ⟨b,e',i⟩:=c.cells x (show env.scope.names.lookup x=_\/env.scope.names.lookup x=_ from he▸(Jhi hok h.1).2.1)
  cases Jav e' h.2
  exact i.imp fun V=>kc
 ·have hv:=Bool.and_eq_true_iff.mp (List.all_eq_true.mp hcap _ (mem_of_lookup e))
  obtain ⟨a,ea⟩:=H.all x (Jas (eq_of_beq hv.1))
  have h:=H.at_ x a ea
  cases sl with
  | own _=>cases hv.2
  | val d =>
  cases c.vars x _ (hs _ _ e) with | mk v l r =>
  have hk:env.kindOf x=some .cell\/env.kindOf x=some .free:=show env.scope.names.lookup x=_\/env.scope.names.lookup x=_ from he▸(Jhi hok h.1).2.1
  cases l with
  | loc o k=>rw [k] at hk; exact hk.elim nofun nofun
  | cel o k b e' i =>
   cases Jav e' h.2
   exact ⟨d,_,v,o,eq_of_beq hv.1,(fun z=>nomatch hnc▸Jau.mpr z),ea,kc i,kd r⟩
theorem GK.core_cell (q:GK g T s) {a:Addr}{u:Option Value}(i:s.heap.IsCell a u):(Jbp T s.heap).IsCell a u:=Jbf i fun o e nt=>q.core_get e nt
theorem GK.core_vd (q:GK g T s) {v:Value}{d:D}(r:VD av s.heap v d):VD [] (Jbp T s.heap) v d:=(VD.sub (av':=[]) (fun V z=>nomatch z) r).keep fun V o e ho V=>q.core_get e ho.nt
theorem Jpd (he:env.scope=sc) (hk:sc.names.lookup x=some .cell):qualnameIn env x x=env.qual++x:=by
 have:env.kindOf x=some .cell:=(congrArg (fun z:Scope=>z.names.lookup x) he).trans hk
 unfold qualnameIn; rw [this]; rfl
end
noncomputable def Jdz (k:Nat):List Int->Int
 | []=>0
 | d::r=>d+Jdz k r*2 ^ k
theorem Jfv (k:Nat) (a b:List Int):Jdz k (a++b)=Jdz k a+Jdz k b*2 ^ (k*a.length):=by
 induction a with
 | nil=>simp [Jdz]
 | cons d a ih=>rw [List.cons_append,Jdz,Jdz,ih,List.length_cons,Nat.mul_add,Int.add_mul,Int.add_assoc,Int.mul_assoc, <- Int.pow_add,Nat.mul_one]
theorem Jnj (k:Nat) (a:List Int):(∀ d∈a,0<=d/\d<2 ^ k)->0<=Jdz k a/\Jdz k a<2 ^ (k*a.length):=by
 induction a with
 | nil=>exact fun V=>⟨Int.le_refl 0,by rw [List.length_nil,Nat.mul_zero]; exact (by decide:(0:Int)<2 ^ 0)⟩
 | cons d a ih =>
  intro h
  have h1:=h d (.head _)
  have i:=ih fun x hx=>h x (.tail _ hx)
  have hp:(0:Int)<2 ^ k:=Int.pow_pos (by decide)
  rw [Jdz,List.length_cons,Nat.mul_add,Nat.mul_one,Int.pow_add]
  refine ⟨Int.add_nonneg h1.1 (Int.mul_nonneg i.1 (Int.le_of_lt hp)),?_⟩
  have:=Int.mul_le_mul_of_nonneg_right (show Jdz k a+1<=_ from i.2) (Int.le_of_lt hp)
  rw [Int.add_mul] at this; lia
noncomputable def Jv6:Stmt:=nth (Ja5 (fn1 "_digits2int")) 0
noncomputable abbrev LR:List Str:=[Str.ofString "L",Str.ofString "R"]
theorem Jky {α:Type}{l:List α}{n:Nat}(h:l.length=n+1):∃ a r,l=a::r/\r.length=n:=by
 cases l with
 | nil=>cases h
 | cons a r=>exact ⟨a,r,rfl,Nat.succ.inj h⟩
theorem Jw9 {α:Type}{l:List α}(h:l.length=2):∃ a b,l=[a,b]:=by
 obtain ⟨a,r,e,h1⟩:=Jky h
 obtain ⟨b,r',e',h2⟩:=Jky h1
 exact ⟨a,b,by rw [e,e',List.eq_nil_of_length_eq_zero h2]⟩
theorem Jrr:Jw4 (Jx1 Jv6) LR:=fun fd vals h1 h2 h3 hl=>by
 obtain ⟨a,b,rfl⟩:=Jw9 hl
 cases fd; cases h1; cases h2; cases h3; rfl
theorem Jmb:FnS0 (Ja2 Jv6) LR:=⟨rfl,rfl,rfl,by decide +kernel⟩
noncomputable def Jxb (f:Addr) (k:Nat) (digits:List Int):Sto:=[(Str.ofString "inner",.val (.adr f)),(Str.ofString "n",.val (.int k)),(Str.ofString "digits",.val (.lst (digits.map .int)))]
theorem Jt3 {L:Nat}(h:L<=1000):Jgk (L:Int)=true:=Bool.and_eq_true_iff.mpr ⟨decide_eq_true (Int.le_trans (by decide) (Int.natCast_nonneg L)),decide_eq_true (Int.lt_of_le_of_lt (Int.ofNat_le.mpr h) (by decide))⟩
theorem Jp2 {α:Type}(l:List α) (L M R:Nat) (h1:L<=M) (h2:M<=R):(l.drop L).take (R - L)=(l.drop L).take (M - L)++(l.drop M).take (R - M):=by
 rw [<- Nat.sub_add_sub_cancel h2 h1,Nat.add_comm,List.take_add,List.drop_drop,Nat.add_sub_of_le h1]
theorem Jxx {α:Type}{l:List α}{L k:Nat}{x:α}(h:x∈(l.drop L).take k):x∈l:=List.mem_of_mem_drop (List.mem_of_mem_take h)
section
variable {prog:Program}{w:World}{g:Heap}{T:Ja3}{n:Nat}{f:Addr}{cl:List (Str×Addr)}{k:Nat}{digits:List Int}
theorem JA1 (hk:k*digits.length<=400) (hd:∀ d∈digits,0<=d/\d<2 ^ k) (L m:Nat):sm (Jdz k ((digits.drop L).take m))=true:=by
 have h:=Jnj k ((digits.drop L).take m) fun d hm=>hd d (Jxx hm)
 have hl:((digits.drop L).take m).length<=digits.length:=Nat.le_trans (List.length_take_le' ..) (Nat.le_trans (Nat.le_of_eq List.length_drop) (Nat.sub_le ..))
 have h4:(2:Nat) ^ (k*((digits.drop L).take m).length)<2 ^ 500:=Nat.pow_lt_pow_right (by decide) (Nat.lt_of_le_of_lt (Nat.le_trans (Nat.mul_le_mul_left k hl) hk) (by decide))
 refine decide_eq_true (Nat.lt_trans ?_ h4)
 have h5:((2:Int) ^ (k*((digits.drop L).take m).length))=((2 ^ (k*((digits.drop L).take m).length):Nat):Int):=(Int.natCast_pow 2 _).symm
 rw [h5] at h
 lia
theorem Jim {n:Nat}(h:n<=400):sm (n:Int)=true:=Jn1 (Nat.le_trans h (by decide))
section
variable (hd:∀ d∈digits,0<=d/\d<2 ^ k) (hk:1<=k) (hk2:k*digits.length<=400)
theorem Jvn {L:Nat}(hlen:digits.length<=400) (hL:L<digits.length):SxL prog w g T (n+1) (Ja2 Jv6) (Ja4 (LR.zip [D.int L,D.int (L+1:Nat)]) (Jxb f k digits)) (Ja5 Jv6) (.ret (.int digits[L])):=by
 have hb:((L:Int)+1==((L+1:Nat):Int))=true:=beq_iff_eq.mpr rfl
 apply SxL.last
 apply Sx.ite (b:=true)
 ·rw [<- hb]; exact EvT.cmp (Ev.bin (Ev.name rfl) Ev.int Jag) (Ev.name rfl) rfl Jcd
 apply SxL.last
 apply Sx.ret
 exact Ev.item (Ev.name rfl) (Ev.name rfl) (fun V V=>rfl) (Jdx (k:=L) rfl (Jt3 (by lia)) (List.getElem?_map.trans (congrArg _ (List.getElem?_eq_getElem hL))))
include hd hk hk2
theorem Jqa (hf:Jx7 g f (Ja2 Jv6) cl LR (Ja5 Jv6)) (hc:Jbi (Ja2 Jv6) cl (Jxb f k digits) [] g) (m:Nat):∀ L R:Nat,L<R->R<=digits.length->R<=L+2 ^ m->ClA prog w g T (m+2) f [.int L,.int R] (.int (Jdz k ((digits.drop L).take (R - L)))):=by
 have hlen:digits.length<=400:=Nat.le_trans (Nat.le_mul_of_pos_left _ hk) hk2
 have base:∀ (n L R:Nat),R<=digits.length->L+1=R->ClA prog w g T (n+2) f [.int L,.int R] (.int (Jdz k ((digits.drop L).take (R - L)))):=fun n L R hr e=>by
  subst e
  rw [Nat.add_sub_cancel_left,List.drop_eq_getElem_cons hr,show Jdz k (List.take 1 (digits[L]::digits.drop (L+1)))=digits[L] from (congrArg (digits[L] + ·) (Int.zero_mul _)).trans (Int.add_zero _)]
  exact .fn hf Jmb hc rfl (Jvn hlen hr)
 induction m with
 | zero=>exact fun L R h1 h2 h3=>base 0 L R h2 (Nat.le_antisymm h1 h3)
 | succ m ih =>
  intro L R hlr hr hm
  by_cases h1:L+1=R
  ·exact base (m+1) L R hr h1
  have hb:((L:Int)+1==(R:Int))=false:=beq_eq_false_iff_ne.mpr fun q=>h1 (Int.ofNat.inj q)
  rw [Nat.pow_succ] at hm
  obtain ⟨M,hM⟩:∃ M,M=(L+R) / 2:=⟨_,rfl⟩
  have h2:L<M:=by lia
  have h3:M<R:=by lia
  have c1:=ih M R h3 hr (by lia)
  have c2:=ih L M h2 (Nat.le_trans (Nat.le_of_lt h3) hr) (by lia)
  have hk3:k<=400:=Nat.le_trans (Nat.le_mul_of_pos_right k (Nat.zero_lt_of_lt (Nat.lt_of_lt_of_le hlr hr))) hk2
  have hML:M - L<=digits.length:=Nat.le_trans (Nat.sub_le ..) (Nat.le_trans (Nat.le_of_lt h3) hr)
  have hsh:(M - L)*k<=400:=Nat.le_trans (Nat.mul_comm .. ▸ Nat.mul_le_mul_left k hML) hk2
  refine .fn hf Jmb hc rfl (SxL.retEq (d:=.int (Jdz k ((digits.drop M).take (R - M))*2 ^ (((M - L)*k:Nat):Int).toNat+Jdz k ((digits.drop L).take (M - L)))) ?_ ?_)
  ·apply SxL.cons
   ·apply Sx.ite (b:=false)
    ·rw [<- hb]; exact EvT.cmp (Ev.bin (Ev.name rfl) Ev.int Jag) (Ev.name rfl) rfl Jcd
    ·exact SxL.nil
   refine SxL.cons (σA:=(Str.ofString "mid",.val (.int (M:Int)))::_) (Sx.assign (Ev.bin (Ev.bin (Ev.name rfl) (Ev.name rfl) Jag) Ev.int ?_) (fun V V V=>rfl) rfl) ?_
   ·rw [hM]; exact Jcp (L+R) 2▸Jl1 (b:=1)
   refine SxL.cons (σA:=(Str.ofString "shift",.val (.int (((M - L)*k:Nat):Int)))::_) (Sx.assign (Ev.bin (Ev.bin (Ev.name rfl) (Ev.name rfl) Jap) (Ev.name rfl) ?_) (fun V V V=>rfl) rfl) ?_
   ·rw [Int.natCast_mul, <- Int.natCast_sub (Nat.le_of_lt h2)]
    exact Jbw (Jim (Nat.le_trans hML hlen)) (Jim hk3)
   apply SxL.last
   apply Sx.ret
   exact Ev.bin (Ev.bin (Ev.callA rfl (EvL.more (fun V=>rfl) (Ev.name rfl) (EvL.more (fun V=>rfl) (Ev.name rfl) EvL.nil)) c1 Jc3) (Ev.name rfl) (Jl2 (Int.natCast_nonneg _) (Int.ofNat_le.mpr (Nat.le_trans hsh (by decide))) (JA1 hk2 hd _ _))) (Ev.callA rfl (EvL.more (fun V=>rfl) (Ev.name rfl) (EvL.more (fun V=>rfl) (Ev.name rfl) EvL.nil)) c2 Jc3) Jag
  ·rw [Jp2 digits L M R (Nat.le_of_lt h2) (Nat.le_of_lt h3),Jfv,List.length_take,List.length_drop,Nat.min_eq_left (Nat.sub_le_sub_right (Nat.le_trans (Nat.le_of_lt h3) hr) L),Nat.mul_comm k,Int.toNat_natCast,Int.add_comm]
end
end
end
section
theorem Jzp:FnS (Ja2 (fn1 "_digits2int")) [Str.ofString "digits",Str.ofString "n"]:=⟨⟨rfl,rfl,rfl,by decide +kernel⟩,by decide +kernel⟩
noncomputable abbrev JGc (g:Heap) (T:Ja3) (a:Addr) (sc:Scope) (xs:List Str) (body:List Stmt) (sub:Str):Prop:=Jw2 (fun c q=>Jb5 g T c (q++sub)) g a sc xs body
section
variable {prog:Program}{w:World}{g:Heap}{T:Ja3}{n:Nat}{sc scope:Scope}{s:Shared}{f:Addr}{cl:List (Str×Addr)}{xs:List Str}{body:List Stmt}{P:Value->Str->Prop}
theorem FnO.lim (hf:FnO P g f sc cl xs body):g.NoLimit:=hf.rec fun V V V V V V V V V V V V l=>l
theorem FnO.core (hP:∀ c q,P c q) (hf:FnO P s.heap f sc cl xs body) (q:GK g T s) (hlim:g.NoLimit):FnO P (Jbp T s.heap) f sc cl xs body:=hf.to hP (hlim.keeps q.sub) (fun o e nt=>q.core_get e nt) fun c o vs u t e e3 e4=>(Jcr (q.code_off e e3 e4)).trans e
theorem Jqj {env:Env}(he:env.scope=sc) (h:∀ p∈scope.names,p.2=.free->sc.names.lookup p.1=some .cell):∀ x,(x,NameKind.free)∈scope.names->env.kindOf x=some .cell\/env.kindOf x=some .free:=fun x hx=>.inl ((congrArg (fun z:Scope=>z.names.lookup x) he).trans (h _ hx rfl))
theorem JDd {a:Addr}{l:List Int}{k:Nat}(k1:Glb g (Str.ofString "len") (.builtin "len")) (hf:JGc g T a (Ja2 (fn1 "_digits2int")) [Str.ofString "digits",Str.ofString "n"] (Ja5 (fn1 "_digits2int")) (Str.ofString "inner")) (hg:Glb g (Str.ofString "_digits2int") (.ref a))
  (hk:1<=k) (hk2:k*l.length<=400) (hd:∀ d∈l,0<=d/\d<2 ^ k):ClV prog w g T 13 (Str.ofString "_digits2int") [.lst (l.map .int),.int k] (.int (Jdz k l)):=.fnP hg hf Jzp rfl fun A av env ow s E hoc rm F=>by
 have hm:(l.map D.int).length=l.length:=List.length_map ..
 have hlen:l.length<=400:=Nat.le_trans (Nat.le_mul_of_pos_left _ hk) hk2
 have hz:(l.map D.int).length<=lim:=hm▸Nat.le_trans hlen (by decide)
 refine wpAny_execs_cons (Ja0 (Jw7 (scope:=Ja2 Jv6) Jrr hf.lim F E.p (Jpd E.sc_ rfl) (Jd1 F.ec E.sc_ (by rw [hoc]; decide +kernel)) rfl rfl rfl (Jqj E.sc_ (by decide +kernel))) fun fl sA h₁=>?_)
 cases h₁ with | @mk f cl _ hnf ho FA mP hat =>
 have hc:Jbi (Ja2 Jv6) cl (Jxb f k l) [] (Jbp T sA.heap):=Jji (sc:=Ja2 (fn1 "_digits2int")) (σ:=froz ((Str.ofString "inner",.val (.adr f))::params [Str.ofString "digits",Str.ofString "n"] [.lst (l.map .int),.int k])) (by decide +kernel) rfl rfl (Sub.cons rfl (Sub.cons rfl (Sub.cons rfl Sub.nil))) E.sc_ FA.froz hat FA.gk.core_cell FA.gk.core_vd
 refine wpAny_execs_cons (wpAny_Return_some (Ja0 (Ev.core (n:=12) (d:=.int (Jdz k l)) ?_ E.sc_ rm FA.gk FA.froz) fun v s2 h₂=>.ret (VD.sub (fun a ha=>ha) h₂.2) (Mv.trans mP h₂.1.mv fun b hb=>.inl hb)))
 refine Ev.ite (c := !(l.map D.int).isEmpty) (EvT.val (Ev.name rfl) (fun V V=>rfl) (Jon hz)) ?_
 cases l with
 | nil=>exact Ev.int
 | cons i l =>
  have c:=Jqa (prog:=prog) (w:=w) (T:=T) hd hk hk2 (ho.core (fun V V=>trivial) FA.gk hf.lim) hc 10 0 ((i::l).map D.int).length (Nat.succ_pos _) (Nat.le_of_eq hm) (hm▸Nat.le_trans hlen (by decide))
  rw [hm,List.drop_zero,Nat.sub_zero,List.take_length, <- hm] at c
  exact Ev.callA rfl (EvL.more (fun V=>rfl) Ev.int (EvL.more (fun V=>rfl) (Ev.call rfl (EvL.more (fun V=>rfl) (Ev.name rfl) EvL.nil) (Jbb (k1.core FA.gk) hz)) EvL.nil)) c Jc3
end
end
section
section
variable {prog:Program}{w:World}{g:Heap}{T:Ja3}{n:Nat}{sc:Scope}{σ:Sto}{s s':Shared}{av:List Addr}{env:Env}{A:Around}
theorem Jjx {l:Addr}{vs:List Value}{n:Nat}{k:Int}{t:Tok}{v:Value}{Q:Unit->Shared->Prop}{E:Value->Shared->Prop}(ho:s.heap.get? l=some (Jb0 vs n)) (h0:0<=k) (hfit:k<2 ^ 63) (hn:k<vs.length)
  (h:∀ h' n',h'.get? l=some (Jb0 (vs.set k.toNat v) n')->Heap.SameBut l s.heap h'->Q () { s with heap:=h' }):wpAny (model prog w) A (setItem (.ref l) (.int k t) v) Q E s:=by
 have hl:s.heap.IsList l vs.toArray:=⟨_,ho,rfl,n,rfl⟩
 unfold setItem
 try with_reducible refine wpAny_holding ?_
 first | refine wpAny_bind (wpAny_pure ?_) | skip
 refine wpAny_bind (wpAny_sequenceKey hl.typeIs (by decide) ?_)
 refine wpAny_bind (wpAny_callSpecial?_slot (name:=Str.ofString "__setitem__") hl.typeIs slot_list_setitem
  (wpAny_call_entry slot_list_setitem hl.typeIs entry_list_setitem ?_ (args_list_setitem _ _ _)))
 show wpAny _ _ (Builtin.List.listSubscript? (.int k t) >>= _) _ _ s
 refine wpAny_bind (wpAny_listSubscript_int (fitsIndex_of h0 hfit) ?_)
 clear hfit
 obtain ⟨j,rfl⟩:=Int.eq_ofNat_of_zero_le h0
 have hj:j<vs.length:=by lia
 have hx':vs.toArray[j]?=some vs[j]:=by simp [hj]
 show wpAny _ _ ((seqItemAt l j >>= fun r=>pure (r.map (j, ·))) >>= _) _ _ s
 refine wpAny_bind (wpAny_bind (wpAny_seqItemAt ho rfl (wpAny_pure ?_)))
 rw [hx']
 show wpAny _ _ (setSeqItemAt l j v >>= _) _ _ s
 have hfin:(s.heap.update l (Obj.mapSeq (·.setIfInBounds j v))).get? l=some (Jb0 (vs.set j v) n):=by
  have:=PySem.IsL.update (h:=s.heap) (l:=l) (items:=vs.toArray) (n:=n) ho (fun x=>x.setIfInBounds j v)
  simpa [Jb0] using this
 refine wpAny_bind (wpAny_setSeqItemAt ho rfl ?_)
 first
  | exact wpAny_bind (wpAny_pure (wpAny_pure ⟨.none,rfl,wpAny_pure (h _ _ hfin (Heap.SameBut.update ..))⟩))
  | exact wpAny_pure ⟨.none,rfl,wpAny_pure (h _ _ hfin (Heap.SameBut.update ..))⟩
theorem Jmn {l:Addr}{vs:List Value}{n i:Nat}{t:Tok}{v:Value}{Q:Unit->Shared->Prop}{E:Value->Shared->Prop}(ho:s.heap.get? l=some (Jb0 vs n)) (hi:i<vs.length) (hz:vs.length<=lim)
  (h:∀ h' n',h'.get? l=some (Jb0 (vs.set i v) n')->Heap.SameBut l s.heap h'->Q () { s with heap:=h' }):wpAny (model prog w) A (setItem (.ref l) (.int (i:Int) t) v) Q E s :=
 Jjx ho (by lia) (Int.lt_of_lt_of_le (Int.ofNat_lt.mpr (Nat.lt_of_lt_of_le hi hz)) (by decide)) (by lia) h
theorem VDs.set {av:List Addr}{h:Heap}{v:Value}{d:D}(hv:VD av h v d) (ds:List D):∀ {vs:List Value}{i:Nat},VDs av h vs ds->VDs av h (vs.set i v) (ds.set i d):=by
 induction ds with
 | nil=>exact fun r=>r.i0▸.nil
 | cons e ds ih =>
  intro vs i r
  cases r.i1 with | mk a q =>
  cases i with
  | zero=>exact .cons hv q
  | succ i=>exact .cons a (ih q)
theorem Jmo {l:Addr}{items:Array Value}{n:Nat}{x:Int}{u:Tok}{Q:Value->Shared->Prop}{E:Value->Shared->Prop}(hl:s.heap.get? l=some { cls:=.type "list",dict:=none,data:=.seq items n,slots := #[] }) (hlo : -(2 ^ 63:Int)<=x) (hhi:x<2 ^ 63) (hsz:items.size*x.toNat<=2 ^ 24)
  (h:Q (.ref s.heap.objs.size) { s with heap:=s.heap.push { cls:=.type "list",data:=.seq (List.foldl (fun x1 x2=>x1++x2) #[] (List.replicate (if items.isEmpty=true then 0 else x.toNat) items)) } }) :
  wpAny (model prog w) A (binaryOp .Mult (.ref l) (.int x u)) Q E s :=
 wpAny_binaryOp_repeat_ref (T := "list") (U := "int") (by decide) ⟨_,hl,rfl⟩ (fun s'=>typeIs_int s' x u) noFill_list_mul F.fills_int_mul F.slot_int_rmul repeat_list F.slot_int_index.lookup
  (call_meets F.slot_int_rmul (typeIs_int s x u) F.entry_int_rmul (F.args_int_rmul_2 _ _) (int___rmul___int_list x u l items n)
   ⟨hl,rfl,⟨_,hl,rfl⟩,call_meets F.slot_list_mul ⟨_,hl,rfl⟩ F.entry_list_mul (F.args_list_mul_2 _ _)
    (AutoListH.list___mul___list_int_3 l items n x u (by simp [Builtin.List.listFitsIndex]; lia) (by lia) (by simp [Builtin.List.listTooLong,sizeLine]; lia))
    ⟨hl,h⟩⟩)
theorem Jql (vs:List Value) (k:Nat):∀ acc:Array Value,List.foldl (fun x1 x2=>x1++x2) acc (List.replicate k vs.toArray)=acc++(List.replicate k vs).flatten.toArray:=by
 induction k with
 | zero=>exact fun acc=>Array.append_empty.symm
 | succ k ih=>exact fun acc=>(ih _).trans (by rw [List.replicate_succ,List.flatten_cons, <- List.append_toArray, <- Array.append_assoc])
theorem VDs.rep {av:List Addr}{h:Heap}{vs:List Value}{ds:List D}(r:VDs av h vs ds) (k:Nat):VDs av h (List.replicate k vs).flatten (List.replicate k ds).flatten:=by
 induction k with
 | zero=>exact .nil
 | succ k ih =>
  rw [List.replicate_succ,List.flatten_cons,List.replicate_succ,List.flatten_cons]
  exact r.append ih
theorem EvO.rep {l r:Expr}{pos:Pos}{d:D}{k:Nat}(hl:EvO prog w g T n sc σ l [d]) (hr:Ev prog w g T n sc σ r (.int (k:Int))) (hk:k<=2 ^ 20):EvO prog w g T n sc σ (.BinOp l .Mult r pos) (List.replicate k [d]).flatten:=fun A s av env he rm hg hc=>
 wpAny_BinOp (Ja0 (hl A s av env he rm hg hc) fun u sA h₁=>by
  cases h₁ with | @mk P vs m _ xA hn ho hd =>
  have gA:=xA.gk hg
  refine Ja0 (hr A sA av env he rm gA (hc.ext xA hg)) fun v s2 h₂=>?_
  obtain ⟨_,rfl⟩:=h₂.2.i4
  have x:=xA.trans h₂.1
  have hd2:=h₂.1.vds gA hd
  cases hd2.one1 with | mk hv =>
  have hk':(k:Int)<=2 ^ 20:=Int.ofNat_le.mpr hk
  have hne:=Ja8 s2.heap
  refine Jmo (h₂.1.get' gA ho (Jai _ _)) (Int.le_trans (by decide) (Int.natCast_nonneg k)) (Int.lt_of_le_of_lt hk' (by decide)) (by rw [Int.toNat_natCast,List.size_toArray,List.length_singleton,Nat.one_mul]; exact Nat.le_trans hk (by decide)) ?_
  rw [Jql,Array.empty_append]
  exact ⟨x.trans (.push _),x.none hg hne,Heap.get?_push_size _ rfl,((VDs.rep (hd2.sub (av':=av) fun a ha=>.tail _ ha) k).avoid hne).keep (.of_keeps (Jae s2 (Jb0 _ 0)))⟩)
end
end
noncomputable def Jd0 (k:Nat):Nat->Nat->List Nat
 | 0,_=>[]
 | m+1,x=>(x % 2 ^ k)::Jd0 k m (x / 2 ^ k)
theorem Jcq (k m:Nat):∀ x,(Jd0 k m x).length=m:=by
 induction m with
 | zero=>exact fun V=>rfl
 | succ m ih=>exact fun x=>congrArg (· + 1) (ih _)
theorem Jkx (k i j:Nat):∀ x,Jd0 k (i+j) x=Jd0 k i x++Jd0 k j (x / 2 ^ (k*i)):=by
 induction i with
 | zero=>intro x; rw [Nat.zero_add,Nat.mul_zero,Nat.pow_zero,Nat.div_one]; rfl
 | succ i ih=>intro x; rw [Nat.succ_add,Jd0,Jd0,ih,List.cons_append,Nat.div_div_eq_div_mul, <- Nat.pow_add,Nat.mul_add,Nat.mul_one,Nat.add_comm k]
theorem Jhw (k i:Nat):∀ x,Jd0 k i (x % 2 ^ (k*i))=Jd0 k i x:=by
 induction i with
 | zero=>exact fun V=>rfl
 | succ i ih =>
  intro x
  rw [Jd0,Jd0,Nat.mod_mod_of_dvd _ (Nat.pow_dvd_pow 2 (Nat.le_mul_of_pos_right k (Nat.succ_pos i))),Nat.mul_add,Nat.mul_one,Nat.add_comm,Nat.pow_add,Nat.mod_mul_right_div_self,ih]
theorem Jr4 (k m:Nat):∀ x,∀ d∈Jd0 k m x,d<2 ^ k:=by
 induction m with
 | zero=>exact fun V V h=>nomatch h
 | succ m ih=>exact fun x d h=>(List.mem_cons.mp h).elim (fun q=>q▸Nat.mod_lt _ (Nat.pow_pos (by decide))) (ih _ d)
theorem Jdi (s:Nat):((2:Int) ^ s)=((2 ^ s:Nat):Int):=(Int.natCast_pow 2 s).symm
theorem Jr2 (k m:Nat):∀ x,x<2 ^ (k*m)->Jdz k ((Jd0 k m x).map fun (d:Nat)=>(d:Int))=(x:Int):=by
 induction m with
 | zero=>intro x h; rw [Nat.mul_zero] at h; cases Nat.lt_one_iff.mp h; rfl
 | succ m ih =>
  intro x h
  rw [Nat.mul_add,Nat.mul_one,Nat.pow_add,Nat.mul_comm] at h
  rw [Jd0,List.map_cons,Jdz,ih _ (Nat.div_lt_of_lt_mul h),Jdi, <- Int.natCast_mul, <- Int.natCast_add,Nat.mul_comm]
  exact congrArg _ (Nat.mod_add_div x (2 ^ k))
theorem Jq1 (x s:Nat):x &&& (x / 2 ^ s*2 ^ s)=x / 2 ^ s*2 ^ s:=by
 rw [<- Nat.shiftRight_eq_div_pow, <- Nat.shiftLeft_eq]
 refine Nat.eq_of_testBit_eq fun i=>?_
 rw [Nat.testBit_and,Nat.testBit_shiftLeft,Nat.testBit_shiftRight]
 by_cases h:s<=i
 ·rw [Nat.add_sub_of_le h,decide_eq_true h,Bool.true_and,Bool.and_self]
 ·rw [decide_eq_false h,Bool.false_and,Bool.and_false]
theorem Jsl (x s:Nat):Builtin.bitXor (x:Int) (((x / 2 ^ s:Nat):Int)*2 ^ s)=((x % 2 ^ s:Nat):Int):=by
 have e2:Builtin.bitAnd (x:Int) ((x / 2 ^ s*2 ^ s:Nat):Int)=((x / 2 ^ s*2 ^ s:Nat):Int):=by
  unfold Builtin.bitAnd
  rw [decide_eq_true (Int.natCast_nonneg x),decide_eq_true (Int.natCast_nonneg (x / 2 ^ s*2 ^ s))]
  exact congrArg _ (Jq1 x s)
 rw [Jdi, <- Int.natCast_mul,bitXor_and,e2]
 have:=Nat.mod_add_div x (2 ^ s)
 rw [Nat.mul_comm] at this
 lia
section
noncomputable abbrev nsD (l:List Nat):List D:=l.map fun (d:Nat)=>D.int d
inductive Jjv (P:Addr) (xs:List Nat) (h:Heap):Prop
 | mk (us:List Value) (k:Nat) (e:h.get? P=some (Jb0 us k)) (r:VDs [P] h us (nsD xs))
inductive JHa (g:Heap) (T:Ja3) (P:Addr) (ys:List Nat) (s:Shared):Value->Shared->Prop
 | mk {s':Shared}(m:Mv g T (fun b=>b=P) s s') (h:Jjv P ys s'.heap):JHa g T P ys s .none s'
inductive ClM (prog:Program) (w:World) (g:Heap) (T:Ja3) (n:Nat) (f P:Addr) (ds:List D) (xs ys:List Nat):Prop
 | mk (o:Obj) (fd:FuncData) (e:g.get? f=some o) (h:o.data=.func fd)
  (run:∀ (A:Around) (s:Shared) (vs:List Value),Rm n A->GK g T s->VDs [P] s.heap vs ds->Jjv P xs s.heap->wpAny (model prog w) A (call (.ref f) vs) (JHa g T P ys s) NoE s)
section
variable {prog:Program}{w:World}{g:Heap}{T:Ja3}{n:Nat}{sc scope:Scope}{σ σA σc:Sto}{s s' sA:Shared}{av:List Addr}{ow:Ow}{env:Env}{A:Around}{P f:Addr}{us:List Value}{U:Addr->Prop}{xs ys:List Nat}{x:Str}{e:Expr}{es:List Expr}{ds:List D}{p pos cpos:Pos}{cl:List (Str×Addr)}{ps:List Str}{body:List Stmt}
theorem Fm.beside (F:Fm g T av ow env σ s) (m:Mv g T U s s') (hl:∀ b∈ow.adr,¬ U b) (hs:∀ b o,s.heap.get? b=some o->Jaq o->U b->b∈av) (hL:¬ U env.locals) (hc:∀ x c,env.cells.lookup x=some c->¬ U c) (ho:∀ b∈av,U b->∃ o,s'.heap.get? b=some o/\NT o):Fm g T av ow env σ s':=by
 have kcell:∀ {x c v},env.cells.lookup x=some c->s.heap.IsCell c v->s'.heap.IsCell c v:=fun e i=>Jbf i fun o eo nt=>m.get' F.gk eo (hc _ _ e) nt
 have kns:∀ {m'},s.heap.Ns env.locals m'->s'.heap.Ns env.locals m':=fun n=>Jfl n fun o eo nt=>m.get' F.gk eo hL nt
 have kl:∀ {x v},Jat env s.heap x v->Jat env s'.heap x v:=fun l=>l.to kns fun e=>kcell e
 have ks:Ja9 (ow.adr++av) s.heap s'.heap:=m.seq F.gk fun b o e q u=>List.mem_append_right _ (hs b o e q u)
 have klst:∀ {a},a∈ow.adr->∀ {vs k},s.heap.get? a=some (Jb0 vs k)->s'.heap.get? a=some (Jb0 vs k):=fun ha V V e=>m.get' F.gk e (hl _ ha) (Jai _ _)
 refine ⟨m.gk F.gk,⟨F.ec.kind,F.ec.glob,F.ec.blt,fun a ha=>?_,fun x sl e=>?_,fun x h=>(F.ec.cells x h).imp fun c p=>⟨p.1,p.2.imp fun V=>kcell p.1⟩⟩,F.ns.imp fun V=>kns,fun x c hm k e=>(F.own x c hm k e).imp fun V=>kcell e,F.inj,F.off,fun x ds e=>(F.reg x ds e).imp fun V p=>⟨p.1,kl p.2⟩,F.nd,F.apt,fun a ha=>(F.isl a ha).imp fun V=>Exists.imp fun V=>klst ha⟩
 ·by_cases u:U a
  ·exact ho a ((List.mem_append.mp ha).resolve_left fun q=>hl a q u) u
  ·exact (F.ec.avok a ha).imp fun o p=>⟨m.get' F.gk p.1 u p.2,p.2⟩
 ·cases F.ec.vars x sl e with | mk v l r =>
  refine ⟨v,kl l,?_⟩
  cases sl with
  | val d=>exact VD.keep ks r
  | own ds =>
   obtain ⟨a,hm,l'⟩:=F.reg x ds e
   cases r with | mk m e r=>cases l.uniq l'; exact ⟨m,klst (Jb7 hm) e,r.keep ks⟩
theorem Jjv.ext (h:Jjv P xs s.heap) (x:Ext g T s s') (q:GK g T s):Jjv P xs s'.heap:=h.rec fun us k e r=>⟨us,k,x.get' q e (Jai _ _),x.vds q r⟩
theorem Jjv.avok (h:Jjv P xs s.heap):Jdk [P] s.heap:=fun a ha=>List.mem_singleton.mp ha▸h.rec fun us k e r=>⟨_,e,Jai _ _⟩
theorem Fm.did (F:Fm g T [P] ow env σ s) (hp:Jjv P xs s.heap) (hc:∀ x c,env.cells.lookup x=some c->∃ v,g.IsCell c v) (m:Mv g T (fun b=>b=P) s s') (h:Jjv P ys s'.heap):Fm g T [P] ow env σ s':=by
 cases hp with | mk us k e r =>
 refine F.beside m (fun b hb u=>F.apt b hb (u▸.head _)) (fun b o V V u=>u▸.head _) (fun u=>?_) (fun x c q u=>(hc x c q).elim fun v i=>Jdh (u▸Jbf i fun o e V=>F.gk.keep _ o e) e ⟨_,_,.inr rfl⟩) fun b hb u=>h.avok b hb
 exact F.ns.elim fun m n=>Jdn (u▸n) e ⟨_,_,.inr rfl⟩
theorem Jc4 (env:Env) (a b:List Stmt):execs (a++b) env=(execs a env >>= fun f=>match f with | .next=>execs b env | f=>pure f):=by
 induction a with
 | nil=>rfl
 | cons st a ih =>
  rw [List.cons_append,execs_cons,execs_cons,ih,bind_assoc]
  congr 1
  funext f
  cases f <;> rfl
theorem Jo9 {pre post:List Stmt}{Q:Flow->Shared->Prop}(h:SxL prog w g T n sc σ pre (.next σA)) (he:env.scope=sc) (hc:ow.c=Ja1 sc.names) (rm:Rm n A) (F:Fm g T av ow env σ s) (k:∀ sA,Nx g T av ow env s σA sA->wpAny (model prog w) A (execs post env) Q NoE sA) :
  wpAny (model prog w) A (execs (pre++post) env) Q NoE s:=by
 rw [Jc4]
 refine wpAny_bind (Ja0 (h A s av ow env he hc rm F) fun fl sA h₁=>?_)
 cases h₁ with | next nx=>exact k sA nx
theorem Jlk {Q:Flow->Shared->Prop}(F:Fm g T [P] ow env σ s) (he:env.scope=sc) (rm:Rm n A) (hp:Jjv P xs s.heap) (hc:∀ x c,env.cells.lookup x=some c->∃ v,g.IsCell c v) (hx:(froz σ).lookup x=some (.val (.adr f))) (ha:EvL prog w g T n sc (froz σ) (e::es) ds) (h:ClM prog w g T n f P ds xs ys)
  (k:∀ s',Fm g T [P] ow env σ s'->Jjv P ys s'.heap->Mv g T (fun b=>b=P) s s'->Q .next s'):wpAny (model prog w) A (exec (.Expr (.Call (.Name x p) (e::es) [] cpos) pos) env) Q NoE s:=by
 cases h with | mk o fd ho hdat run =>
 have c:=F.froz
 refine wpAny_Expr_any (wpAny_Call_NameR (Jab c.kind (c.adr hx) (callWith_def hdat (Ja0 (ha.run A s _ env cpos he rm F.gk c) fun vs sA h₁=>⟨(h₁.1.gk F.gk).keep _ _ ho,Ja0 (run A sA vs rm (h₁.1.gk F.gk) h₁.2 (hp.ext h₁.1 F.gk)) fun v s2 h₂=>?_⟩) (ha.plain.1 _)))) (Jac F) rfl
 cases h₂ with | mk m h=>exact k s2 ((F.ext h₁.1).did (hp.ext h₁.1 F.gk) hc m h) h (Mv.trans h₁.1.mv m fun b q=>.inl q)
inductive JG5 (g:Heap) (T:Ja3) (P:Addr) (ow:Ow) (env:Env) (ys:List Nat) (s:Shared):Flow->Shared->Prop
 | next {s':Shared}(m:Mv g T (fun b=>Wr env ow b\/b=P) s s') (h:Jjv P ys s'.heap):JG5 g T P ow env ys s .next s'
 | ret {s':Shared}(m:Mv g T (fun b=>Wr env ow b\/b=P) s s') (h:Jjv P ys s'.heap):JG5 g T P ow env ys s (.ret .none) s'
theorem ClM.fn (hf:Jx7 g f sc cl ps body) (hs:FnS0 sc ps) (hc:Jbi sc cl σc [P] g) (hnc:Ja1 sc.names=[]) (hl:ds.length=ps.length)
  (h:∀ (A:Around) (s:Shared) (ow:Ow) (env:Env),env.scope=sc->(∀ x c,env.cells.lookup x=some c->∃ v,g.IsCell c v)->ow.c=Ja1 sc.names->Rm n A->Fm g T [P] ow env (Ja4 (ps.zip ds) σc) s->Jjv P xs s.heap->wpAny (model prog w) A (execs body env) (JG5 g T P ow env ys s) NoE s) :
  ClM prog w g T (n+1) f P ds xs ys:=hf.rec fun o fd ho hd a1 a2 a3 a4 a5 a6 a7 a8 a9=>⟨o,fd,ho,hd,fun A s vs rm hg hv hp=>Jf0 hf hs (hc.keeps hg.keep) rm hg hp.avok hv hl fun env ow sA E c V rm F x hw=>
   Ja0 (h _ sA ow env E.sc_ (fun y b e=>hc.ce y b ((E.cells y fun z=>nomatch hnc▸Jau.mpr z).symm.trans e)) c rm F (hp.ext x hg)) fun fl s3 h₃=>by
    cases h₃ with
    | next m h=>exact ⟨Mv.trans x.mv m fun b q=>q.elim (fun z=>.inr (hw b z)) .inl,h⟩
    | ret m h=>exact ⟨Mv.trans x.mv m fun b q=>q.elim (fun z=>.inr (hw b z)) .inl,h⟩⟩
end
end
section
noncomputable def Jj4:Stmt:=nth (Ja5 (fn1 "_int2digits")) 1
noncomputable abbrev XLR:List Str:=[Str.ofString "x",Str.ofString "L",Str.ofString "R"]
theorem Jrq:Jw4 (Jx1 Jj4) XLR:=fun fd vals h1 h2 h3 hl=>by
 obtain ⟨a,r,e,h⟩:=Jky hl
 obtain ⟨b,c,e'⟩:=Jw9 h
 subst e' e
 cases fd; cases h1; cases h2; cases h3; rfl
theorem Jma:FnS0 (Ja2 Jj4) XLR:=⟨rfl,rfl,rfl,by decide +kernel⟩
noncomputable def Jml (f P:Addr) (k:Nat):Sto:=[(Str.ofString "inner",.val (.adr f)),(Str.ofString "a_digits",.val (.adr P)),(Str.ofString "n",.val (.int k))]
noncomputable def putN (xs:List Nat) (L:Nat) (ys:List Nat):List Nat:=xs.take L++ys++xs.drop (L+ys.length)
theorem Jt7 {xs:List Nat}{L x:Nat}(h:L<xs.length):putN xs L [x]=xs.set L x:=by
 rw [List.set_eq_take_append_cons_drop,if_pos h]
 exact (List.append_assoc ..).trans rfl
theorem Jkc {xs ys:List Nat}{L:Nat}(h:L+ys.length<=xs.length):(putN xs L ys).length=xs.length:=by
 rw [putN,List.length_append,List.length_append,List.length_take,List.length_drop]; lia
theorem Jt6 {xs ys zs:List Nat}{L:Nat}(h:L+ys.length+zs.length<=xs.length):putN (putN xs L ys) (L+ys.length) zs=putN xs L (ys++zs):=by
 have hl:(xs.take L++ys).length=L+ys.length:=by rw [List.length_append,List.length_take]; lia
 unfold putN
 rw [List.take_append_of_le_length (Nat.le_of_eq hl.symm),List.take_of_length_le (Nat.le_of_eq hl),List.drop_append,hl,Nat.add_sub_cancel_left,List.drop_drop,List.drop_of_length_le (hl▸Nat.le_add_right ..),List.nil_append,List.length_append,Nat.add_assoc,List.append_assoc,List.append_assoc,List.append_assoc,List.append_assoc]
section
variable {prog:Program}{w:World}{g:Heap}{T:Ja3}{n:Nat}{σ:Sto}{s s':Shared}{av av':List Addr}{ow:Ow}{env:Env}{A:Around}{f P:Addr}{cl:List (Str×Addr)}{k:Nat}{us:List Value}{h h':Heap}
theorem Jd5 (xs:List Nat):∀ {us:List Value},VDs av h us (nsD xs)->VDs av' h' us (nsD xs):=by
 induction xs with
 | nil=>exact fun r=>r.i0▸.nil
 | cons x xs ih =>
  intro us r
  cases r.i1 with | mk a q =>
  obtain ⟨_,rfl⟩:=a.i4
  exact .cons (.int _ _) (ih q)
theorem Fm.hasP {xs:List Nat}(F:Fm g T [P] ow env σ s) (hp:Jjv P xs s.heap) (m:Mv g T (Wr env ow) s s'):Jjv P xs s'.heap:=hp.rec fun us k e r=>⟨us,k,m.get' F.gk e (fun hw=>F.apt P (F.wlst e ⟨_,_,.inr rfl⟩ hw) (.head _)) (Jai _ _),Jd5 xs r⟩
variable (hf:Jx7 g f (Ja2 Jj4) cl XLR (Ja5 Jj4)) (hc:Jbi (Ja2 Jj4) cl (Jml f P k) [P] g) (hgP:g.get? P=none)
include hf hc hgP
theorem Jvm {x L:Nat}{xs:List Nat}(hL:L<xs.length) (hz:xs.length<=400):ClM prog w g T (n+2) f P [.int x,.int L,.int (L+1:Nat)] xs (xs.set L x) :=
 .fn hf Jma hc rfl rfl fun A s ow env he hcc hoc rm F hp=>by
 have hb:((L:Int)+1==((L+1:Nat):Int))=true:=beq_iff_eq.mpr rfl
 have ht:EvT prog w g T (n+1) (Ja2 Jj4) (froz (Ja4 (XLR.zip [D.int x,D.int L,D.int (L+1:Nat)]) (Jml f P k))) (stP (nth (Ja5 Jj4) 0)).test true:=by rw [<- hb]; exact EvT.cmp (Ev.bin (Ev.name rfl) Ev.int Jag) (Ev.name rfl) rfl Jcd
 refine wpAny_execs_cons (wpAny_If (ht.go he rm F fun sA xA=>?_))
 have FA:=F.ext xA
 have c:=FA.froz
 refine wpAny_execs_cons (wpAny_Assign_Subscript (Ja0 ((Ev.name (x:=Str.ofString "x") (d:=.int (x:Int)) rfl) A sA _ env he rm FA.gk c) fun v s2 h₂=>Jab c.kind ((c.adr (x:=Str.ofString "a_digits") (a:=P) rfl).ext h₂.1 FA.gk) (Ja0 ((Ev.name (x:=Str.ofString "L") (d:=.int (L:Int)) rfl) A s2 _ env he rm (h₂.1.gk FA.gk) (c.ext h₂.1 FA.gk)) fun u s3 h₃=>?_)) rfl)
 obtain ⟨_,rfl⟩:=h₃.2.i4
 have x:=(xA.trans h₂.1).trans h₃.1
 cases hp.ext x F.gk with | mk us kk e r =>
 have hl:us.length=xs.length:=r.length.trans (List.length_map ..)
 refine Jmn e (hl▸hL) (hl▸Nat.le_trans hz (by decide)) fun h' k' e6 hs=>wpAny_execs_cons (wpAny_Return_none (.ret (Mv.trans x.mv (Mv.one (tk:=s3.toks) hs e (Jf4 us kk) hgP (.inr rfl)) fun b h=>.inl h) ⟨_,k',e6,?_⟩))
 have r':=VDs.set (h₃.1.vd (h₂.1.gk FA.gk) h₂.2) (i:=L) _ r
 rw [nsD, <- List.map_set] at r'
 exact Jd5 _ r'
end
end
section
theorem JEq {x j:Nat}(h:x<2 ^ j) (hj:j<=450):sm (x:Int)=true:=decide_eq_true (Nat.lt_of_lt_of_le h (Nat.pow_le_pow_right (by decide) (Nat.le_trans hj (by decide))))
section
variable {prog:Program}{w:World}{g:Heap}{T:Ja3}{n:Nat}{f P:Addr}{cl:List (Str×Addr)}{k N:Nat}
noncomputable def σ5 (f P:Addr) (k x L R M:Nat):Sto:=(Str.ofString "lower",.val (.int ((x % 2 ^ ((M - L)*k):Nat):Int)))::(Str.ofString "upper",.val (.int ((x / 2 ^ ((M - L)*k):Nat):Int))) ::
 (Str.ofString "shift",.val (.int (((M - L)*k:Nat):Int)))::(Str.ofString "mid",.val (.int (M:Int)))::Ja4 (XLR.zip [D.int x,D.int L,D.int R]) (Jml f P k)
theorem Jy5 {x L R M j:Nat}(h1:¬ L+1=R) (hM:M=(L+R) / 2) (h2:L<M) (hz:M - L<=400) (hk:k<=400) (hsh:(M - L)*k<=450) (hj:j<=450) (hx:x<2 ^ j) :
  SxL prog w g T (n+1) (Ja2 Jj4) (Ja4 (XLR.zip [D.int x,D.int L,D.int R]) (Jml f P k)) (List.take 5 (Ja5 Jj4)) (.next (σ5 f P k x L R M)):=by
 have hb:((L:Int)+1==(R:Int))=false:=beq_eq_false_iff_ne.mpr fun q=>h1 (Int.ofNat.inj q)
 apply SxL.cons
 ·apply Sx.ite (b:=false)
  ·rw [<- hb]; exact EvT.cmp (Ev.bin (Ev.name rfl) Ev.int Jag) (Ev.name rfl) rfl Jcd
  ·exact SxL.nil
 refine SxL.cons (σA:=(Str.ofString "mid",.val (.int (M:Int)))::_) (Sx.assign (Ev.bin (Ev.bin (Ev.name rfl) (Ev.name rfl) Jag) Ev.int ?_) (fun V V V=>rfl) rfl) ?_
 ·rw [hM]; exact Jcp (L+R) 2▸Jl1 (b:=1)
 refine SxL.cons (σA:=(Str.ofString "shift",.val (.int (((M - L)*k:Nat):Int)))::_) (Sx.assign (Ev.bin (Ev.bin (Ev.name rfl) (Ev.name rfl) Jap) (Ev.name rfl) ?_) (fun V V V=>rfl) rfl) ?_
 ·rw [Int.natCast_mul, <- Int.natCast_sub (Nat.le_of_lt h2)]
  exact Jbw (Jim hz) (Jim hk)
 refine SxL.cons (σA:=(Str.ofString "upper",.val (.int ((x / 2 ^ ((M - L)*k):Nat):Int)))::_) (Sx.assign (Ev.bin (Ev.name rfl) (Ev.name rfl) ?_) (fun V V V=>rfl) rfl) ?_
 ·have b:=Jl1 (prog:=prog) (w:=w) (g:=g) (T:=T) (a:=(x:Int)) (b:=(M - L)*k)
  rwa [Jdi,Jcp] at b
 refine SxL.cons (σA:=σ5 f P k x L R M) (Sx.assign (Ev.bin (Ev.name rfl) (Ev.bin (Ev.name rfl) (Ev.name rfl) (Jl2 (Int.natCast_nonneg _) (Int.ofNat_le.mpr (Nat.le_trans hsh (by decide))) (JEq (Nat.lt_of_le_of_lt (Nat.div_le_self _ _) hx) hj))) ?_) (fun V V V=>rfl) rfl) SxL.nil
 rw [Int.toNat_natCast, <- Jsl]
 exact JAk
theorem Jq9 (hf:Jx7 g f (Ja2 Jj4) cl XLR (Ja5 Jj4)) (hc:Jbi (Ja2 Jj4) cl (Jml f P k) [P] g) (hgP:g.get? P=none) (hk:k<=400) (hN:N<=400) (hkN:k*N<=450) (m:Nat):∀ (x L R:Nat) (xs:List Nat),L<R->R<=N->R<=L+2 ^ m->xs.length=N->x<2 ^ (k*(R - L)) ->
  ClM prog w g T (m+2) f P [.int x,.int L,.int R] xs (putN xs L (Jd0 k (R - L) x)):=by
 have base:∀ (n x L R:Nat) (xs:List Nat),R<=N->xs.length=N->x<2 ^ (k*(R - L))->L+1=R->ClM prog w g T (n+2) f P [.int x,.int L,.int R] xs (putN xs L (Jd0 k (R - L) x)):=fun n x L R xs hr hl hx e=>by
  subst e
  rw [Nat.add_sub_cancel_left,Nat.mul_one] at hx
  rw [Nat.add_sub_cancel_left,show Jd0 k 1 x=[x] from congrArg (· :: []) (Nat.mod_eq_of_lt hx),Jt7 (hl▸hr)]
  exact Jvm hf hc hgP (hl▸hr) (hl▸hN)
 induction m with
 | zero=>exact fun x L R xs h1 h2 h3 hl hx=>base 0 x L R xs h2 hl hx (Nat.le_antisymm h1 h3)
 | succ m ih =>
  intro x L R xs hlr hr hm hl hx
  by_cases h1:L+1=R
  ·exact base (m+1) x L R xs hr hl hx h1
  rw [Nat.pow_succ] at hm
  obtain ⟨M,hM⟩:∃ M,M=(L+R) / 2:=⟨_,rfl⟩
  have h2:L<M:=by lia
  have h3:M<R:=by lia
  have h4:M - L+(R - M)=R - L:=(Nat.add_comm ..).trans (Nat.sub_add_sub_cancel (Nat.le_of_lt h3) (Nat.le_of_lt h2))
  have hML:M - L<=N:=Nat.le_trans (Nat.sub_le ..) (Nat.le_trans (Nat.le_of_lt h3) hr)
  have hsh:(M - L)*k<=450:=Nat.le_trans (Nat.mul_comm .. ▸ Nat.mul_le_mul_left k hML) hkN
  have hlow:x % 2 ^ ((M - L)*k)<2 ^ (k*(M - L)):=Nat.mul_comm k (M - L)▸Nat.mod_lt _ (Nat.pow_pos (by decide))
  have hupp:x / 2 ^ ((M - L)*k)<2 ^ (k*(R - M)):=Nat.div_lt_of_lt_mul (by rw [<- Nat.pow_add,Nat.mul_comm _ k, <- Nat.mul_add,h4]; exact hx)
  have hA:=Jcq k (M - L) (x % 2 ^ ((M - L)*k))
  have hB:=Jcq k (R - M) (x / 2 ^ ((M - L)*k))
  have c1:=ih (x % 2 ^ ((M - L)*k)) L M xs h2 (Nat.le_trans (Nat.le_of_lt h3) hr) (by lia) hl hlow
  have c2:=ih (x / 2 ^ ((M - L)*k)) M R (putN xs L (Jd0 k (M - L) (x % 2 ^ ((M - L)*k)))) h3 hr (by lia) ((Jkc (by rw [hA,Nat.add_sub_of_le (Nat.le_of_lt h2)]; exact hl▸Nat.le_trans (Nat.le_of_lt h3) hr)).trans hl) hupp
  have e1:=Jt6 (xs:=xs) (L:=L) (ys:=Jd0 k (M - L) (x % 2 ^ ((M - L)*k))) (zs:=Jd0 k (R - M) (x / 2 ^ ((M - L)*k))) (by rw [hA,hB,Nat.add_assoc,h4,Nat.add_sub_of_le (Nat.le_of_lt hlr)]; exact hl▸hr)
  rw [hA,Nat.add_sub_of_le (Nat.le_of_lt h2),Nat.mul_comm (M - L) k,Jhw, <- Jkx,h4] at e1
  rw [Nat.mul_comm (M - L) k,Jhw,e1] at c2
  rw [Nat.mul_comm (M - L) k,Jhw] at c1
  refine .fn hf Jma hc rfl rfl fun A s ow env he hcc hoc rm F hp=>?_
  rw [<- List.take_append_drop 5 (Ja5 Jj4)]
  refine Jo9 (Jy5 h1 hM h2 (Nat.le_trans hML hN) hk hsh (Nat.le_trans (Nat.mul_le_mul_left k (Nat.le_trans (Nat.sub_le ..) hr)) hkN) hx) he hoc rm F fun sA nx=>?_
  cases nx with | mk ow1 cc1 FA mP wA =>
  have hp1:=F.hasP hp mP
  rw [Nat.mul_comm k (M - L)] at c1 c2
  refine wpAny_execs_cons (Jlk FA he rm hp1 hcc rfl (EvL.more (fun V=>rfl) (Ev.name rfl) (EvL.more (fun V=>rfl) (Ev.name rfl) (EvL.more (fun V=>rfl) (Ev.name rfl) EvL.nil))) c1 fun s2 Fb hp2 mQ=>?_)
  refine wpAny_execs_cons (Jlk Fb he rm hp2 hcc rfl (EvL.more (fun V=>rfl) (Ev.name rfl) (EvL.more (fun V=>rfl) (Ev.name rfl) (EvL.more (fun V=>rfl) (Ev.name rfl) EvL.nil))) c2 fun s3 F3 hp3 m3=>?_)
  exact wpAny_execs_nil (.next (Mv.trans (mP.sub fun b q=>.inl (.inl q)) (Mv.trans mQ m3 fun b q=>.inl q) fun b q=>.inl (.inr q)) hp3)
end
end
section
noncomputable def Jdv (a:Nat):Nat:=if a=0 then 0 else a.log2+1
theorem Jlw (a:Nat):a<2 ^ Jdv a:=by
 unfold Jdv
 split
 ·rename_i h; subst h; decide
 ·exact Nat.lt_log2_self
noncomputable def Jdu (a k:Nat):Nat:=(Jdv a+k - 1) / k
theorem Jkl {a k:Nat}(hk:1<=k):a<2 ^ (k*Jdu a k):=by
 refine Nat.lt_of_lt_of_le (Jlw a) (Nat.pow_le_pow_right (by decide) ?_)
 have h1:=Nat.div_add_mod (Jdv a+k - 1) k
 have h2:=Nat.mod_lt (Jdv a+k - 1) hk
 unfold Jdu
 lia
theorem Jzo:FnS (Ja2 (fn1 "_int2digits")) [Str.ofString "a",Str.ofString "n"]:=⟨⟨rfl,rfl,rfl,by decide +kernel⟩,by decide +kernel⟩
theorem Jdy (x:Nat):((Builtin.Int.intBits (x:Int):Nat):Int)=(Jdv x:Int):=by
 unfold Builtin.Int.intBits Jdv
 by_cases h:x=0
 ·subst h; rfl
 ·rw [if_neg h,if_neg (by simpa using h)]; rfl
theorem Jt5 (m:Nat):(List.replicate m [D.int 0]).flatten=nsD (List.replicate m 0):=by
 induction m with
 | zero=>rfl
 | succ m ih=>rw [List.replicate_succ,List.flatten_cons,ih]; rfl
section
variable {g:Heap}{T:Ja3}{n:Nat}{σ:Sto}{s:Shared}{av:List Addr}{env:Env}{P:Addr}{y x:Str}
theorem EC.adrOwn (c:EC av env σ s.heap) (l:Jat env s.heap y (.ref P)):EC av env ((y,.val (.adr P))::σ) s.heap:={ c with vars:=fun x sl e=>(Jaj e).elim (fun q=>q.1▸q.2▸⟨_,l,.adr P⟩) fun q=>c.vars x sl q.2 }
noncomputable abbrev coreP (T:Ja3) (P:Addr) (h:Heap):Heap:=Jbp ⟨(P,Str.empty)::T.tabs,T.gens⟩ h
theorem Jfw {h:Heap}{b:Addr}(q:Off T b) (n:b≠P):(coreP T P h).get? b=h.get? b:=Jcr fun p hp=>(List.mem_cons.mp hp).elim (fun e=>e▸n.symm) (q p)
theorem Jgt {h:Heap}{b:Addr}{o:Obj}(e:(coreP T P h).get? b=some o):Off T b/\b≠P/\h.get? b=some o:=⟨fun p hp=>(Jbh e).1 p (.tail _ hp),fun z=>(Jbh e).1 _ (.head _) z.symm,(Jbh e).2⟩
theorem GK.coreP_get (q:GK g T s) {b:Addr}{o:Obj}(e:s.heap.get? b=some o) (n:b≠P) (nt:NT o):(Mine.coreP T P s.heap).get? b=some o:=(Jfw (q.away e nt) n).trans e
theorem GK.subP (q:GK g T s) (hP:g.get? P=none) (b:Addr) (o:Obj) (e:g.get? b=some o):(Mine.coreP T P s.heap).get? b=some o:=(Jfw (fun p hp z=>nos (q.off p hp) (z▸e)) fun z=>nos hP (z▸e)).trans (q.keep b o e)
end
section
variable {prog:Program}{w:World}{g:Heap}{T:Ja3}{x k:Nat}
theorem Mv.base {g':Heap}{W:Addr->Prop}{s s':Shared}(m:Mv g' T W s s') (q':GK g' T s) (hW:∀ b,W b->g.get? b=none):Mv g T W s s':=⟨m.dr,m.os,m.keep,fun q=>⟨fun b o e=>m.keep b o (q.keep b o e) (fun w=>nos (hW b w) e) fun p hp z=>nos (q.off p hp) (z▸e),(m.gk q').tabs,q.off,(m.gk q').bare⟩⟩
theorem Jst {n:Nat}{sc:Scope}{σ:Sto}{s:Shared}{av:List Addr}{ow:Ow}{env:Env}{A:Around}{f:Addr}{o:Obj}{fd:FuncData}{y:Str}{e:Expr}{es:List Expr}{ds:List D}{p cpos pos:Pos}{Q:Flow->Shared->Prop}(F:Fm g T av ow env σ s) (he:env.scope=sc) (rm:Rm n A) (hx:(froz σ).lookup y=some (.val (.adr f))) (ha:EvL prog w g T n sc (froz σ) (e::es) ds) (hdat:o.data=.func fd)
  (k:∀ vs sA,Ext g T s sA->VDs av sA.heap vs ds->sA.heap.get? f=some o/\wpAny (model prog w) A (call (.ref f) vs) (fun V s'=>Q .next s') NoE sA):wpAny (model prog w) A (exec (.Expr (.Call (.Name y p) (e::es) [] cpos) pos) env) Q NoE s :=
 wpAny_Expr_any (wpAny_Call_NameR (Jab F.ec.kind (F.froz.adr hx) (callWith_def hdat (Ja0 (ha.run A s _ env cpos he rm F.gk F.froz) fun vs sA h=>k vs sA h.1 h.2) (ha.plain.1 _)))) (Jac F) rfl
noncomputable abbrev σi0 (x k:Nat):Sto:=params [Str.ofString "a",Str.ofString "n"] [D.int x,.int k]
theorem Jqp (hk:1<=k) (hk4:k<=400) (hn:Jdu x k<=400):Sx prog w g T 12 (Ja2 (fn1 "_int2digits")) (σi0 x k) (nth (Ja5 (fn1 "_int2digits")) 0) (.next ((Str.ofString "a_digits",.own (nsD (List.replicate (Jdu x k) 0)))::σi0 x k)):=by
 rw [<- Jt5]
 refine Sx.assignOwn (EvO.rep (d:=.int 0) (EvO.list (EvL.more (fun V=>rfl) Ev.int EvL.nil) (by decide)) (Ev.bin (a:=.int ((Jdv x:Int)+k - 1)) (Ev.bin (Ev.bin ?_ (Ev.name rfl) Jag) Ev.int Jap) (Ev.name rfl) ?_) (Nat.le_trans hn (by decide))) (fun V V V=>rfl) rfl
 ·exact Jdy x▸Ev.meth0 (fun V=>rfl) rfl (Ev.name rfl) Jkm
 ·have b:=Jep (prog:=prog) (w:=w) (g:=g) (T:=T) (a:=((Jdv x+k - 1:Nat):Int)) (b:=(k:Int)) (by lia) (Jim hk4)
  rw [Jcp] at b
  rwa [show ((Jdv x:Int)+k - 1)=((Jdv x+k - 1:Nat):Int) by lia]
theorem JDc {a:Addr}(k1:Glb g (Str.ofString "len") (.builtin "len")) (hf:JGc g T a (Ja2 (fn1 "_int2digits")) [Str.ofString "a",Str.ofString "n"] (Ja5 (fn1 "_int2digits")) (Str.ofString "inner")) (hg:Glb g (Str.ofString "_int2digits") (.ref a))
  (hk:1<=k) (hk4:k<=400) (hn:Jdu x k<=400) (hkn:k*Jdu x k<=450):ClV prog w g T 13 (Str.ofString "_int2digits") [.int x,.int k] (.lst (nsD (Jd0 k (Jdu x k) x))):=.fnP hg hf Jzo rfl fun A av env ow s E hoc rm F=>by
 refine wpAny_execs_cons (Ja0 (Jqp hk hk4 hn A s av ow env E.sc_ hoc rm F) fun fl sA h₁=>?_)
 cases h₁ with | next nx =>
 cases nx with | mk ow1 cA FA mP wA =>
 refine wpAny_execs_cons (Ja0 (Jw7 (scope:=Ja2 Jj4) Jrq hf.lim FA E.p (Jpd E.sc_ rfl) (Jd1 FA.ec E.sc_ (by rw [cA,hoc]; decide +kernel)) rfl rfl rfl (Jqj E.sc_ (by decide +kernel))) fun fl s2 h₂=>?_)
 cases h₂ with | @mk f cl _ hnf ho Fb mQ hat =>
 cases Fb.ownAt (x:=Str.ofString "a_digits") (ds:=nsD (List.replicate (Jdu x k) 0)) rfl with | @mk P us kk hPm lP eP rP =>
 have hPa:=Jb7 hPm
 have hgP:g.get? P=none:=Fb.off P (.inr (.inr hPa))
 have q:=Fb.gk
 have hc:Jbi (Ja2 Jj4) cl (Jml f P k) [P] (coreP T P s2.heap):=Jji (sc:=Ja2 (fn1 "_int2digits")) (by decide +kernel) rfl rfl (Sub.cons rfl (Sub.cons rfl (Sub.cons rfl Sub.nil))) E.sc_ (Fb.ec.adrOwn lP) hat (fun i=>Jbf i fun o e nt=>q.coreP_get e (fun z=>Jdh i (z▸eP) ⟨_,_,.inr rfl⟩) nt)
  fun r=>(VD.sub (av':=[P]) (fun b hb=>List.mem_singleton.mp hb▸List.mem_append_left _ hPa) r).keep fun b o e ho nb=>q.coreP_get e (fun z=>nb (z▸.head _)) ho.nt
 have hfP:f≠P:=ho.rec fun o fd e hd V V V V V V V V V z=>by cases Jav (z▸e) eP; cases hd
 have ho':Jx7 (coreP T P s2.heap) f (Ja2 Jj4) cl XLR (Ja5 Jj4):=ho.to (fun V V=>trivial) (hf.lim.keeps (q.subP hgP)) (fun o e nt=>q.coreP_get e hfP nt) fun c o vs u t e e3 e4=>(Jfw (q.code_off e e3 e4) fun z=>by cases Jav (z▸e) eP; cases e3).trans e
 have ht:EvT prog w g T 12 (Ja2 (fn1 "_int2digits")) (froz ((Str.ofString "inner",.val (.adr f))::(Str.ofString "a_digits",.own (nsD (List.replicate (Jdu x k) 0)))::σi0 x k)) (stP (nth (Ja5 (fn1 "_int2digits")) 2)).test ((x:Int) != 0):=EvT.val (Ev.name rfl) (fun V V=>rfl) Jh4
 have tail:∀ {s4:Shared},Fm g T av (ow1.drop (Str.ofString "inner")) env ((Str.ofString "a_digits",.own (nsD (Jd0 k (Jdu x k) x)))::(Str.ofString "inner",.val (.adr f))::(Str.ofString "a_digits",.own (nsD (List.replicate (Jdu x k) 0)))::σi0 x k) s4->Mv g T (Wr env (ow1.drop (Str.ofString "inner"))) s2 s4 ->
   wpAny (model prog w) A (execs [nth (Ja5 (fn1 "_int2digits")) 3] env) (Jg2 g T av ow env s (.ret (.lst (nsD (Jd0 k (Jdu x k) x))))) NoE s4:=fun F4 m4=>
  Ja0 (SxL.last (d:=.lst (nsD (Jd0 k (Jdu x k) x))) (Sx.retF (Ev.name rfl)) A _ av (Ow.drop (Str.ofString "inner") ow1) env E.sc_ (cA.trans hoc) rm F4) fun fl s5 h₅=>Jg2.then (ow:=ow) (ow1:=Ow.drop (Str.ofString "inner") ow1) cA F4.gk (Mv.trans (Mv.trans mP mQ wA) m4 fun b hb=>wA b hb.drop) (fun b hb=>wA b hb.drop) h₅
 refine wpAny_execs_cons (wpAny_If (ht.go E.sc_ rm Fb fun s3 x3=>?_))
 have F3:=Fb.ext x3
 by_cases hx:x=0
 ·subst hx
  refine wpAny_execs_nil (tail (F3.weak ?_) x3.mv)
  have hn0:Jdu 0 k=0:=Nat.div_eq_of_lt (show 0+k - 1<k by lia)
  rw [hn0]
  exact Sub.cons rfl .refl
 ·rw [bne_iff_ne.mpr (show (x:Int)≠0 by lia)]
  have hN:0<Jdu x k:=Nat.pos_of_ne_zero fun z=>hx (Nat.lt_one_iff.mp (by have:=Jkl (a:=x) hk; rwa [z,Nat.mul_zero] at this))
  have hlr:(List.replicate (Jdu x k) 0).length=Jdu x k:=List.length_replicate
  have hlD:(nsD (List.replicate (Jdu x k) 0)).length=Jdu x k:=(List.length_map ..).trans hlr
  have c:=Jq9 (prog:=prog) (w:=w) (T:=T) ho' hc (Jdg (T:=⟨(P,Str.empty)::T.tabs,T.gens⟩) (p:=(P,Str.empty)) (.head _)) hk4 hn hkn 10 x 0 (Jdu x k) (List.replicate (Jdu x k) 0) hN (Nat.le_refl _) (Nat.le_trans hn (by decide)) hlr (Jkl hk)
  rw [Nat.sub_zero,putN,List.take_zero,List.nil_append,Nat.zero_add,Jcq,List.drop_of_length_le (Nat.le_of_eq hlr),List.append_nil] at c
  cases c with | mk o fd hfo hdat run =>
  refine wpAny_execs_cons (Jst F3 E.sc_ rm (f:=f) rfl (EvL.more (fun V=>rfl) (Ev.name (d:=.int x) rfl) (EvL.more (fun V=>rfl) Ev.int (EvL.more (fun V=>rfl) (Ev.call rfl (EvL.more (fun V=>rfl) (Ev.name (d:=.lst (nsD (List.replicate (Jdu x k) 0))) rfl) EvL.nil) (Jbb k1 (Nat.le_trans (Nat.le_of_eq hlD) (Nat.le_trans hn (by decide:400<=lim))))) EvL.nil))) hdat fun vs s4 x34 h₄=>?_)
  have xD:=x3.trans x34
  have qD:GK (coreP T P s2.heap) T s4:=⟨fun b o e=>xD.keep b o (Jgt e).2.2 (Jgt e).1,(xD.gk q).tabs,fun p hp=>Jdg (.tail _ hp),(xD.gk q).bare⟩
  refine ⟨qD.keep _ _ hfo,Ja0 (run A s4 vs rm qD (Jd5 [x,0,Jdu x k] (hlD▸h₄)) ⟨us,kk,xD.get' q eP (Jai _ _),Jd5 _ rP⟩) fun v s5 h₅=>?_⟩
  cases h₅ with | mk m hp =>
  cases hp with | mk us' kk' e' r' =>
  have mb:=m.base qD fun b z=>z▸hgP
  exact wpAny_execs_nil (tail ((Fb.ext xD).ownMv hPm (lP.ext xD q) (mb.gk (xD.gk q)) (fun b o n e nt=>m.get' qD e n nt) e' (Jd5 _ r')) (Mv.trans xD.mv mb fun b z=>.inl (z▸.inr (.inr hPa))))
end
end
section
section
variable {prog:Program}{w:World}{g:Heap}{T:Ja3}{n:Nat}{sc:Scope}{σ:Sto}{R:Rz}
theorem SxL.frz {x:Str}{ds:List D}{sts:List Stmt}(h:σ.lookup x=some (.own ds)) (k:SxL prog w g T n sc ((x,.val (.lst ds))::σ) sts R):SxL prog w g T n sc σ sts R:=fun A s av ow env he hc rm F=>
 Ja0 (k A s av (ow.drop x) env he hc rm (F.freeze h)) fun fl s' m=>Jg2.then (ow:=ow) (ow1:=ow.drop x) rfl F.gk .refl (fun b hb=>.inl hb.drop) m
theorem Jus:FnS (Ja2 (fn1 "_div2n1n")) [Str.ofString "a",Str.ofString "b",Str.ofString "n"]:=⟨⟨rfl,rfl,rfl,by decide +kernel⟩,by decide +kernel⟩
theorem JAd {a:Addr}{tk:Tok}{x y z:Int}(k1:Glb g (Str.ofString "divmod") (.builtin "divmod")) (hlimit:Glb g (Str.ofString "_DIV_LIMIT") (.int 4000 tk)) (hf:Jg4 g a (Ja2 (fn1 "_div2n1n")) [Str.ofString "a",Str.ofString "b",Str.ofString "n"] (Ja5 (fn1 "_div2n1n")))
  (hg:Glb g (Str.ofString "_div2n1n") (.ref a)) (h0:y≠0) (hs:sm y=true) (hz:(Builtin.Int.intBits x:Int) - z<=4000):ClV prog w g T (n+2) (Str.ofString "_div2n1n") [.int x,.int y,.int z] (.tup [.int (x.fdiv y),.int (x.fmod y)]):=by
 refine .fn hg hf Jus rfl (SxL.last (Sx.ite (b:=true) ?_ (SxL.last (Sx.ret (Ev.call rfl (EvL.more (fun V=>rfl) (Ev.name rfl) (EvL.more (fun V=>rfl) (Ev.name rfl) EvL.nil)) (Jjk k1 h0 hs))))))
 rw [<- (decide_eq_true hz:decide ((Builtin.Int.intBits x:Int) - z<=4000)=true)]
 exact EvT.cmp (Ev.bin (Ev.meth0 (fun V=>rfl) rfl (Ev.name rfl) Jkm) (Ev.name rfl) Jap) (Ev.globInt rfl hlimit) rfl Jwx
end
end
section
noncomputable def Jko (b k:Nat) (ds:List Nat):Nat->List Nat:=ds.rec (fun V=>[]) fun d V q r=>(r*2 ^ k+d) / b::q ((r*2 ^ k+d) % b)
noncomputable def Jua (b k:Nat) (ds:List Nat):Nat->Nat:=ds.rec id fun d V q r=>q ((r*2 ^ k+d) % b)
noncomputable def σdm (b k r:Nat) (qs:List Nat):Sto:=[(Str.ofString "r",.val (.int r)),(Str.ofString "q_digits",.own (nsD qs)),(Str.ofString "n",.val (.int k)),(Str.ofString "b",.val (.int b))]
theorem Jhl {x j:Nat}(h:x<2 ^ j):Jdv x<=j:=by
 unfold Jdv
 by_cases h0:x=0
 ·rw [if_pos h0]; exact Nat.zero_le j
 ·rw [if_neg h0]; exact (Nat.log2_lt h0).mpr h
theorem Jox {b k r d:Nat}(hr:r<b) (hd:d<2 ^ k):r*2 ^ k+d<b*2 ^ k:=by
 have h:=Nat.mul_le_mul_right (2 ^ k) (show r+1<=b from hr)
 rw [Nat.add_mul,Nat.one_mul] at h
 exact Nat.lt_of_lt_of_le (Nat.add_lt_add_left hd _) h
theorem Joz {x j:Nat}(h:x<2 ^ j) (hj:j<=400):sm (x:Int)=true:=decide_eq_true (Nat.lt_of_lt_of_le h (Nat.pow_le_pow_right (by decide) (Nat.le_trans hj (by decide))))
noncomputable abbrev JEl (prog:Program) (w:World) (g:Heap) (T:Ja3) (n:Nat):Prop:=∀ {x y z:Int},y≠0->sm y=true->(Builtin.Int.intBits x:Int) - z<=4000->ClV prog w g T n (Str.ofString "_div2n1n") [.int x,.int y,.int z] (.tup [.int (x.fdiv y),.int (x.fmod y)])
section
variable {prog:Program}{w:World}{g:Heap}{T:Ja3}{n:Nat}{b k:Nat}
theorem Jxp {d r:Nat}{qs:List Nat}(k1:JEl prog w g T n) (hb:1<=b) (hbk:b<2 ^ k) (hk:k<=400) (hd:d<2 ^ k) (hr:r<b) (hz:qs.length<=1000) :
  SxL prog w g T n (Ja2 (fn1 "_divmod_pos")) ((Str.ofString "a_digit",.val (.int d))::σdm b k r qs) (Joj (nth (Ja5 (fn1 "_divmod_pos")) 4))
   (.next ((Str.ofString "q_digits",.own (nsD qs++[.int ((r*2 ^ k+d) / b:Nat)]))::(Str.ofString "r",.val (.int ((r*2 ^ k+d) % b:Nat)))::(Str.ofString "q_digit",.val (.int ((r*2 ^ k+d) / b:Nat)))::(Str.ofString "a_digit",.val (.int d))::σdm b k r qs)):=by
 have e0:(r:Int)*2 ^ (k:Int).toNat+(d:Int)=((r*2 ^ k+d:Nat):Int):=by rw [Int.toNat_natCast,Jdi, <- Int.natCast_mul, <- Int.natCast_add]
 have h3:(Builtin.Int.intBits ((r*2 ^ k+d:Nat):Int):Int) - (k:Int)<=4000:=by
  rw [Jdy]
  have:=Jhl (Nat.lt_of_lt_of_le (Jox hr hd) (Nat.le_trans (Nat.mul_le_mul_right _ (Nat.le_of_lt hbk)) (Nat.le_of_eq (Nat.pow_add 2 k k).symm)))
  lia
 have c:=k1 (x:=((r*2 ^ k+d:Nat):Int)) (y:=(b:Int)) (z:=(k:Int)) (by lia) (Joz hbk hk) h3
 rw [Jcp,Jf5] at c
 refine SxL.cons (Sx.assignTup (b:=[(Str.ofString "q_digit",.int ((r*2 ^ k+d) / b:Nat)),(Str.ofString "r",.int ((r*2 ^ k+d) % b:Nat))]) (Ev.call rfl (EvL.more (fun V=>rfl) ?_ (EvL.more (fun V=>rfl) (Ev.name rfl) (EvL.more (fun V=>rfl) (Ev.name rfl) EvL.nil))) c) (fun V V V=>rfl) (fun V=>rfl) (.cons (.cons .nil)) (Jaa rfl)) (SxL.cons (Sx.append (ds:=nsD qs) rfl (fun V=>rfl) rfl (Ev.name rfl) ?_) SxL.nil)
 ·exact e0▸Ev.bin (Ev.bin (Ev.name rfl) (Ev.name rfl) (Jl2 (by lia) (by lia) (Joz (Nat.lt_trans hr hbk) hk))) (Ev.name rfl) Jag
 ·rw [List.length_map]; exact Nat.le_trans hz (by decide)
theorem JCr (k1:JEl prog w g T n) (hb:1<=b) (hbk:b<2 ^ k) (hk:k<=400) (ds:List Nat):∀ (r:Nat) (qs:List Nat),(∀ d∈ds,d<2 ^ k)->r<b->qs.length+ds.length<=1000 ->
  Jie prog w g T n (Ja2 (fn1 "_divmod_pos")) (JFd (nth (Ja5 (fn1 "_divmod_pos")) 4)) (Joj (nth (Ja5 (fn1 "_divmod_pos")) 4)) (nsD ds) (σdm b k r qs) (.next (σdm b k (Jua b k ds r) (qs++Jko b k ds r))):=by
 induction ds with
 | nil=>intro r qs _ _ _; exact (List.append_nil qs).symm▸Jie.nil
 | cons d ds ih =>
  intro r qs hd hr hz
  rw [List.length_cons] at hz
  have ih:=ih ((r*2 ^ k+d) % b) (qs++[(r*2 ^ k+d) / b]) (fun x hx=>hd x (.tail _ hx)) (Nat.mod_lt _ hb) (by rw [List.length_append,List.length_singleton]; lia)
  rw [List.append_assoc] at ih
  refine Jie.step Tg.name (Jaa rfl) (Jxp k1 hb hbk hk (hd d (.head _)) hr (Nat.le_trans (Nat.le_add_right ..) hz)) (Jie.weak ?_ ih)
  unfold σdm nsD
  rw [List.map_append]
  exact Sub.cons rfl (Sub.cons rfl (Sub.cons rfl (Sub.cons rfl Sub.nil)))
end
end
section
noncomputable def Jwm (k:Nat) (l:List Nat):Nat->Nat:=l.rec id fun d V q r=>q (r*2 ^ k+d)
theorem Jqd (k x:Nat) (l:List Nat):∀ r:Nat,Jwm k (l++[x]) r=Jwm k l r*2 ^ k+x:=by
 induction l with
 | nil=>exact fun V=>rfl
 | cons d l ih=>exact fun r=>ih _
theorem Jje (k:Nat) (l:List Nat):Jdz k (l.map fun (d:Nat)=>(d:Int))=(Jwm k l.reverse 0:Nat):=by
 induction l with
 | nil=>rfl
 | cons d l ih=>rw [List.map_cons,Jdz,ih,List.reverse_cons,Jqd,Jdi, <- Int.natCast_mul,Int.add_comm]; rfl
section
variable {b k:Nat}(hb:1<=b) (ds:List Nat)
include hb
theorem Ju8:∀ r q:Nat,Jwm k ds (b*q+r)=b*Jwm k (Jko b k ds r) q+Jua b k ds r:=by
 induction ds with
 | nil=>exact fun V V=>rfl
 | cons d ds ih =>
  intro r q
  refine (congrArg (Jwm k ds) ?_).trans (ih ((r*2 ^ k+d) % b) (q*2 ^ k+(r*2 ^ k+d) / b))
  have h:=Nat.div_add_mod (r*2 ^ k+d) b
  rw [Nat.add_mul,Nat.mul_add,Nat.mul_assoc,Nat.add_assoc,Nat.add_assoc,h]
theorem Ju9:∀ r,r<b->Jua b k ds r<b:=by
 induction ds with
 | nil=>exact fun V h=>h
 | cons d ds ih=>exact fun r V=>ih _ (Nat.mod_lt _ hb)
theorem Jub:∀ r,r<b->(∀ d∈ds,d<2 ^ k)->∀ q∈Jko b k ds r,q<2 ^ k:=by
 induction ds with
 | nil=>exact fun V V V V h=>nomatch h
 | cons d ds ih=>exact fun r hr hd q hq=>(List.mem_cons.mp hq).elim (fun e=>e▸Nat.div_lt_of_lt_mul (Jox hr (hd d (.head _)))) (ih _ (Nat.mod_lt _ hb) (fun x hx=>hd x (.tail _ hx)) q)
omit hb
theorem Jj0:∀ r,(Jko b k ds r).length=ds.length:=by
 induction ds with
 | nil=>exact fun V=>rfl
 | cons d ds ih=>exact fun r=>congrArg (· + 1) (ih _)
end
theorem Jz6 {a b k m:Nat}(hb:1<=b) (ha:a<2 ^ (k*m)):Jwm k (Jko b k (Jd0 k m a).reverse 0) 0=a / b/\Jua b k (Jd0 k m a).reverse 0=a % b:=by
 have h1:Jwm k (Jd0 k m a).reverse 0=a:=Int.ofNat.inj ((Jje k _).symm.trans (Jr2 k m a ha))
 have h2:=Ju8 (k:=k) hb (Jd0 k m a).reverse 0 0
 rw [Nat.mul_zero,Nat.add_zero,h1] at h2
 have h3:=Ju9 (k:=k) hb (Jd0 k m a).reverse 0 hb
 have h4:=(Nat.div_mod_unique hb (a:=a)).mpr ⟨(Nat.add_comm ..).trans h2.symm,h3⟩
 exact ⟨h4.1.symm,h4.2.symm⟩
theorem Jym {a k:Nat}:k*Jdu a k<=Jdv a+k - 1:=Nat.mul_div_le _ _
theorem JCt:FnS (Ja2 (fn1 "_divmod_pos")) [Str.ofString "a",Str.ofString "b"]:=⟨⟨rfl,rfl,rfl,by decide +kernel⟩,by decide +kernel⟩
theorem Jpo (l:List Nat):(nsD l).reverse=nsD l.reverse:=List.map_reverse.symm
theorem Jth (l:List Nat):nsD l=(l.map fun (d:Nat)=>(d:Int)).map D.int:=List.map_map.symm
section
variable {prog:Program}{w:World}{g:Heap}{T:Ja3}{n:Nat}
theorem JFk {a:Addr}{x y:Nat}(k1:JEl prog w g T n)
  (k2:∀ {x k:Nat},1<=k->k<=400->Jdu x k<=400->k*Jdu x k<=450->ClV prog w g T n (Str.ofString "_int2digits") [.int x,.int k] (.lst (nsD (Jd0 k (Jdu x k) x))))
  (k3:∀ {l:List Int}{k:Nat},1<=k->k*l.length<=400->(∀ d∈l,0<=d/\d<2 ^ k)->ClV prog w g T n (Str.ofString "_digits2int") [.lst (l.map .int),.int k] (.int (Jdz k l)))
  (hrev:Glb g (Str.ofString "reversed") (.type "reversed")) (hf:Jg4 g a (Ja2 (fn1 "_divmod_pos")) [Str.ofString "a",Str.ofString "b"] (Ja5 (fn1 "_divmod_pos"))) (hg:Glb g (Str.ofString "_divmod_pos") (.ref a)) (hx:x<2 ^ 150) (h1:1<=y) (hy:y<2 ^ 150) :
  ClV prog w g T (n+1) (Str.ofString "_divmod_pos") [.int x,.int y] (.tup [.int (x / y:Nat),.int (x % y:Nat)]):=by
 obtain ⟨k,hk⟩:∃ k,k=Jdv y:=⟨_,rfl⟩
 obtain ⟨m,hm⟩:∃ m,m=Jdu x k:=⟨_,rfl⟩
 have hyk:y<2 ^ k:=hk▸Jlw y
 have hk0:1<=k:=Nat.pos_of_ne_zero fun z=>by rw [z] at hyk; exact absurd h1 (Nat.not_le.mpr hyk)
 have hb1:=Jhl hx
 have hb2:k<=150:=hk▸Jhl hy
 have hnd:k*m<=299:=by have:=Jym (a:=x) (k:=k); rw [hm]; lia
 have hmm:m<=299:=Nat.le_trans (Nat.le_mul_of_pos_left _ hk0) hnd
 have ok:=Jz6 (a:=x) (m:=m) h1 (hm▸Jkl hk0)
 have hl:(Jd0 k m x).reverse.length=m:=List.length_reverse.trans (Jcq k m x)
 have hq:=(Jj0 (b:=y) (k:=k) (Jd0 k m x).reverse 0).trans hl
 have hlt:=Jub h1 (Jd0 k m x).reverse 0 h1 fun d hd=>Jr4 k m x d (List.mem_reverse.mp hd)
 have hbits:=Jkm (prog:=prog) (w:=w) (g:=g) (T:=T) (n:=n) (a:=(y:Int))
 rw [Jdy, <- hk] at hbits
 have c2:=k2 (x:=x) hk0 (Nat.le_trans hb2 (by decide)) (hm▸Nat.le_trans hmm (by decide)) (hm▸Nat.le_trans hnd (by decide))
 rw [<- hm] at c2
 obtain ⟨qs,e⟩:∃ qs,qs=Jko y k (Jd0 k m x).reverse 0:=⟨_,rfl⟩
 have c3:=k3 (l:=qs.reverse.map fun (d:Nat)=>(d:Int)) (k:=k) hk0 (by rw [List.length_map,List.length_reverse,e,hq]; exact Nat.le_trans hnd (by decide)) fun d hd=>by
  obtain ⟨q,hq',rfl⟩:=List.mem_map.mp hd
  exact ⟨Int.natCast_nonneg q,by rw [Jdi]; exact Int.ofNat_lt.mpr (hlt q (e▸List.mem_reverse.mp hq'))⟩
 rw [<- Jth,Jje,List.reverse_reverse,e,ok.1] at c3
 have loop:=JCr k1 h1 hyk (Nat.le_trans hb2 (by decide)) (Jd0 k m x).reverse 0 [] (fun d hd=>Jr4 k m x d (List.mem_reverse.mp hd)) h1 (by rw [hl,List.length_nil,Nat.zero_add]; exact Nat.le_trans hmm (by decide))
 rw [ok.2,List.nil_append] at loop
 refine .fn hg hf JCt rfl (SxL.cons (Sx.assign (Ev.meth0 (fun V=>rfl) rfl (Ev.name rfl) hbits) (fun V V V=>rfl) rfl) (SxL.cons (Sx.assign (Ev.call rfl (EvL.more (fun V=>rfl) (Ev.name rfl) (EvL.more (fun V=>rfl) (Ev.name rfl) EvL.nil)) c2) (fun V V V=>rfl) rfl)
  (SxL.cons (Sx.assign Ev.int (fun V V V=>rfl) rfl) (SxL.cons (Sx.assignOwn (EvO.list EvL.nil (Nat.zero_le _)) (fun V V V=>rfl) rfl) (SxL.cons (Sx.for (Jpo _▸EvI.rev rfl hrev (fun V V=>rfl) (Ev.name rfl)) (fun V V=>rfl) (Jie.weak ?_ loop))
  (SxL.cons (Sx.reverse (ds:=nsD (Jko y k (Jd0 k m x).reverse 0)) rfl rfl ?_) (SxL.frz (x:=Str.ofString "q_digits") rfl (SxL.cons (Sx.assign (Ev.call rfl (EvL.more (fun V=>rfl) (Ev.name (congrArg (fun l=>some (Sl.val (D.lst l))) (Jpo _))) (EvL.more (fun V=>rfl) (Ev.name rfl) EvL.nil)) c3) (fun V V V=>rfl) rfl)
  (SxL.last (Sx.ret (Ev.tup (EvL.more (fun V=>rfl) (Ev.name rfl) (EvL.more (fun V=>rfl) (Ev.name rfl) EvL.nil)) (show (2:Nat)<=lim by decide))))))))))))
 ·exact Sub.cons rfl (Sub.cons rfl (Sub.cons rfl (Sub.cons rfl Sub.nil)))
 ·rw [List.length_map,hq]; exact Nat.le_trans hmm (by decide)
end
end
section
theorem Jyj {a b:Int}(hb:0<b):Builtin.bitNot ((Builtin.bitNot a).fdiv b)=a.fdiv b/\b+Builtin.bitNot ((Builtin.bitNot a).fmod b)=a.fmod b:=by
 unfold Builtin.bitNot
 rw [Int.fdiv_eq_ediv_of_nonneg _ (Int.le_of_lt hb),Int.fdiv_eq_ediv_of_nonneg _ (Int.le_of_lt hb),Int.fmod_eq_emod_of_nonneg _ (Int.le_of_lt hb),Int.fmod_eq_emod_of_nonneg _ (Int.le_of_lt hb)]
 have h1:=Int.mul_ediv_add_emod a b
 have h2:=Int.emod_nonneg a (Int.ne_of_gt hb)
 have h3:=Int.emod_lt_of_pos a hb
 have k:=(Int.ediv_emod_unique (a := -a - 1) (b:=b) (r:=b - 1 - a % b) (q := -(a / b) - 1) hb).mpr ⟨by rw [Int.mul_sub,Int.mul_neg]; lia,by lia,by lia⟩
 rw [k.1,k.2]
 lia
theorem Jpr (a b:Int):(-a).fdiv (-b)=a.fdiv b /\ -((-a).fmod (-b))=a.fmod b:=by
 have h1:(-a).fdiv (-b)=a.fdiv b:=Int.neg_fdiv_neg a b
 refine ⟨h1,?_⟩
 rw [Int.fmod_def,Int.fmod_def,h1,Int.neg_mul]
 lia
theorem Jiu {a:Int}{m:Nat}(hx:a<0) (h:a.natAbs<=m):0<=Builtin.bitNot a/\(Builtin.bitNot a).natAbs<=m :=
 have h0:0 <= -a - 1:=Int.sub_nonneg_of_le (Int.neg_pos_of_neg hx)
 ⟨h0,Nat.le_trans (Int.ofNat_le.mp (by show ((-a - 1).natAbs:Int)<=_; rw [Int.natAbs_of_nonneg h0,Int.ofNat_natAbs_of_nonpos (Int.le_of_lt hx)]; exact Int.sub_le_self _ (by decide))) h⟩
theorem Jqm:FnS (Ja2 (fn1 "int_divmod")) [Str.ofString "a",Str.ofString "b"]:=⟨⟨rfl,rfl,rfl,by decide +kernel⟩,by decide +kernel⟩
noncomputable abbrev quo (a b:Int):D:=.tup [.int (a.fdiv b),.int (a.fmod b)]
section
variable {prog:Program}{w:World}{g:Heap}{T:Ja3}{n:Nat}{fa:Addr}{a b:Int}{d:D}
variable (hf:Jg4 g fa (Ja2 (fn1 "int_divmod")) [Str.ofString "a",Str.ofString "b"] (Ja5 (fn1 "int_divmod"))) (hg:Glb g (Str.ofString "int_divmod") (.ref fa))
noncomputable abbrev σid (a b:Int):Sto:=params [Str.ofString "a",Str.ofString "b"] [.int a,.int b]
noncomputable abbrev id1:Stmt:=nth (Ja5 (fn1 "int_divmod")) 0
noncomputable abbrev id2:Stmt:=nth (stP id1).orelse 0
noncomputable abbrev id3:Stmt:=nth (stP id2).orelse 0
include hf hg
theorem JCl {c:Bool}(hb:b≠0) (hc:decide (b<0)=c) (h:SxL prog w g T (n+1) (Ja2 (fn1 "int_divmod")) (σid a b) (if c=true then (stP id2).body else (stP id2).orelse) (.ret d)):ClV prog w g T (n+2) (Str.ofString "int_divmod") [.int a,.int b] d :=
 .fn hg hf Jqm rfl (SxL.last (Sx.ite (b:=false) ((beq_eq_false_iff_ne.mpr hb:(b==0)=false)▸EvT.cmp (Ev.name rfl) Ev.int rfl Jcd) (SxL.last (Sx.ite (hc▸EvT.cmp (Ev.name rfl) Ev.int rfl Jgu) h))))
theorem JCk {c:Bool}(hb:0<b) (hc:decide (a<0)=c) (h:SxL prog w g T (n+1) (Ja2 (fn1 "int_divmod")) (σid a b) (if c=true then (stP id3).body else (stP id3).orelse) (.ret d)):ClV prog w g T (n+2) (Str.ofString "int_divmod") [.int a,.int b] d :=
 JCl hf hg (Int.ne_of_gt hb) (decide_eq_false (Int.not_lt.mpr (Int.le_of_lt hb))) (SxL.last (Sx.ite (hc▸EvT.cmp (Ev.name rfl) Ev.int rfl Jgu) h))
variable (k:∀ {x y:Nat},x<2 ^ 150->1<=y->y<2 ^ 150->ClV prog w g T (n+1) (Str.ofString "_divmod_pos") [.int x,.int y] (.tup [.int (x / y:Nat),.int (x % y:Nat)]))
include k
theorem Jwk (ha:0<=a) (hb:0<b) (h1:a.natAbs<2 ^ 149) (h2:b.natAbs<2 ^ 149):ClV prog w g T (n+2) (Str.ofString "int_divmod") [.int a,.int b] (quo a b):=by
 obtain ⟨x,rfl⟩:=Int.eq_ofNat_of_zero_le ha
 obtain ⟨y,rfl⟩:=Int.eq_ofNat_of_zero_le (Int.le_of_lt hb)
 have c:=k (x:=x) (y:=y) (Nat.lt_trans h1 (by decide)) (Int.ofNat_lt.mp hb) (Nat.lt_trans h2 (by decide))
 rw [<- Jcp, <- Jf5] at c
 exact JCk hf hg hb (decide_eq_false (Int.not_lt.mpr ha)) (SxL.last (Sx.ret (Ev.call rfl (EvL.more (fun V=>rfl) (Ev.name rfl) (EvL.more (fun V=>rfl) (Ev.name rfl) EvL.nil)) c)))
theorem Jwl (hb:0<b) (h1:a.natAbs<=2 ^ 148) (h2:b.natAbs<2 ^ 149):ClV prog w g T (n+3) (Str.ofString "int_divmod") [.int a,.int b] (quo a b):=by
 by_cases hx:a<0
 ·have c:=Jwk hf hg k (a:=Builtin.bitNot a) (b:=b) (Jiu hx h1).1 hb (Nat.lt_of_le_of_lt (Jiu hx h1).2 (by decide)) h2
  have e:=Jyj (a:=a) hb
  refine JCk hf hg hb (decide_eq_true hx) (SxL.retEq (SxL.cons (Sx.assignTup (b:=[(Str.ofString "q",.int ((Builtin.bitNot a).fdiv b)),(Str.ofString "r",.int ((Builtin.bitNot a).fmod b))]) (Ev.call rfl (EvL.more (fun V=>rfl) (Ev.inv (Ev.name rfl)) (EvL.more (fun V=>rfl) (Ev.name rfl) EvL.nil)) c) (fun V V V=>rfl) (fun V=>rfl) (.cons (.cons .nil)) (Jaa rfl))
   (SxL.last (Sx.ret (Ev.tup (EvL.more (fun V=>rfl) (Ev.inv (Ev.name rfl)) (EvL.more (fun V=>rfl) (Ev.bin (Ev.name rfl) (Ev.inv (Ev.name rfl)) Jag) EvL.nil)) (show (2:Nat)<=lim by decide))))) ?_)
  rw [e.1,e.2]
 ·exact (Jwk hf hg k (Int.not_lt.mp hx) hb (Nat.lt_of_le_of_lt h1 (by decide)) h2).mono (Nat.le_succ _)
theorem JFj (h0:b≠0) (h1:a.natAbs<=2 ^ 148) (h2:b.natAbs<2 ^ 149):ClV prog w g T (n+4) (Str.ofString "int_divmod") [.int a,.int b] (quo a b):=by
 by_cases hb:b<0
 ·have c:=Jwl hf hg k (a := -a) (b := -b) (Int.neg_pos_of_neg hb) (by rwa [Int.natAbs_neg]) (by rwa [Int.natAbs_neg])
  have e:=Jpr a b
  refine JCl hf hg h0 (decide_eq_true hb) (SxL.retEq (SxL.cons (Sx.assignTup (b:=[(Str.ofString "q",.int ((-a).fdiv (-b))),(Str.ofString "r",.int ((-a).fmod (-b)))]) (Ev.call rfl (EvL.more (fun V=>rfl) (Ev.neg (Ev.name rfl)) (EvL.more (fun V=>rfl) (Ev.neg (Ev.name rfl)) EvL.nil)) c) (fun V V V=>rfl) (fun V=>rfl) (.cons (.cons .nil)) (Jaa rfl))
   (SxL.last (Sx.ret (Ev.tup (EvL.more (fun V=>rfl) (Ev.name rfl) (EvL.more (fun V=>rfl) (Ev.neg (Ev.name rfl)) EvL.nil)) (show (2:Nat)<=lim by decide))))) ?_)
  rw [e.1,e.2]
 ·exact (Jwl hf hg k (Int.lt_iff_le_and_ne.mpr ⟨Int.not_lt.mp hb,h0.symm⟩) h1 h2).mono (Nat.le_succ _)
end
end
end
section
open PySem PySem.W PyProof.Rows
end
section
open PySem PySem.Spec PySem.Calls PyProof.Rows PyProof.V PySem.W
section
structure Wo (ι:Type) where
 av:List Addr
 P:Addr->Prop
 U:Addr->Prop
 Ω:ι->Heap->Prop
structure Wo.Ok {ι:Type}(W:Wo ι) (g:Heap):Prop where
 up:∀ b,W.U b->W.P b
 off:∀ b,W.U b->g.get? b=none
 obj:∀ i h,W.Ω i h->∀ b,W.P b->∃ o,h.get? b=some o/\NT o
 seq:∀ i h,W.Ω i h->∀ b o,W.U b->h.get? b=some o->Jaq o->b∈W.av
 st:∀ i h h',W.Ω i h->(∀ b o,W.P b->h.get? b=some o->h'.get? b=some o)->Jvv h h'->W.Ω i h'
structure FmW {ι:Type}(W:Wo ι) (g:Heap) (T:Ja3) (ow:Ow) (env:Env) (σ:Sto) (s:Shared) (i:ι):Prop where
 F:Fm g T W.av ow env σ s
 w:W.Ω i s.heap
 nw:∀ b,W.P b->¬ Wr env ow b
 cl:∀ x c,env.cells.lookup x=some c->¬ W.U c
inductive Jlb {ι:Type}(W:Wo ι) (g:Heap) (T:Ja3) (av:List Addr) (s:Shared) (d:D) (j:ι):Value->Shared->Prop
 | mk {v:Value}{s':Shared}(m:Mv g T W.U s s') (r:VD av s'.heap v d) (w:W.Ω j s'.heap):Jlb W g T av s d j v s'
inductive MtU {ι:Type}(W:Wo ι) (g:Heap) (T:Ja3) (ow:Ow) (env:Env) (s:Shared):Rz->ι->Flow->Shared->Prop
 | next {σ:Sto}{j:ι}{s':Shared}(n:NxU W.U g T W.av ow env s σ s') (w:W.Ω j s'.heap):MtU W g T ow env s (.next σ) j .next s'
 | ret {d:D}{j:ι}{v:Value}{s':Shared}(r:VD W.av s'.heap v d) (m:Mv g T (fun b=>Wr env ow b\/W.U b) s s') (w:W.Ω j s'.heap):MtU W g T ow env s (.ret d) j (.ret v) s'
section
variable {ι:Type}(prog:Program) (w:World) (g:Heap) (T:Ja3) (n:Nat) (sc:Scope) (W:Wo ι) (i:ι) (σ:Sto)
noncomputable def EvU (e:Expr) (d:D) (j:ι):Prop:=∀ (A:Around) (s:Shared) (ow:Ow) (env:Env),env.scope=sc->Rm n A->FmW W g T ow env σ s i->wpAny (model prog w) A (eval e env) (Jlb W g T (ow.adr++W.av) s d j) NoE s
noncomputable def SxU (st:Stmt) (R:Rz) (j:ι):Prop:=∀ (A:Around) (s:Shared) (ow:Ow) (env:Env),env.scope=sc->ow.c=Ja1 sc.names->Rm n A->FmW W g T ow env σ s i->wpAny (model prog w) A (exec st env) (MtU W g T ow env s R j) NoE s
noncomputable def Jam (sts:List Stmt) (R:Rz) (j:ι):Prop:=∀ (A:Around) (s:Shared) (ow:Ow) (env:Env),env.scope=sc->ow.c=Ja1 sc.names->Rm n A->FmW W g T ow env σ s i->wpAny (model prog w) A (execs sts env) (MtU W g T ow env s R j) NoE s
noncomputable abbrev Jer (φ:Heap->Prop):Prop:=∀ g':Heap,(∀ b o,g.get? b=some o->g'.get? b=some o)->W.Ω i g'->φ g'
end
section
variable {ι:Type}{prog:Program}{w:World}{g g':Heap}{T:Ja3}{n:Nat}{sc:Scope}{W:Wo ι}{i j k:ι}{σ σA:Sto}{A:Around}{s s' s'' sA:Shared}{ow ow':Ow}{env:Env}{e t:Expr}{d:D}{R:Rz}{st:Stmt}{sts body orelse:List Stmt}{pos p:Pos}{x:Str}{fl:Flow}{av:List Addr}
theorem Wo.Ok.mv (ok:W.Ok g) {Z:Addr->Prop}(m:Mv g T Z s s') (q:GK g T s) (w:W.Ω i s.heap) (hZ:∀ b,Z b->¬ W.P b) (tk:Jvv s.heap s'.heap):W.Ω i s'.heap :=
 ok.st i _ _ w (fun b o hp e=>(ok.obj i _ w b hp).elim fun o' z=>m.get' q e (fun hz=>hZ b hz hp) (Jav z.1 e▸z.2)) tk
theorem Wo.Ok.ext (ok:W.Ok g) (m:Ext g T s s') (q:GK g T s) (w:W.Ω i s.heap):W.Ω i s'.heap:=ok.mv (Z:=fun V=>False) m.mv q w (fun V f=>f.elim) fun V V V e=>m.get' q e (Jdm _ _)
theorem FmW.ext (ok:W.Ok g) (Z:FmW W g T ow env σ s i) (m:Ext g T s s'):FmW W g T ow env σ s' i:=⟨Z.F.ext m,ok.ext m Z.F.gk Z.w,Z.nw,Z.cl⟩
theorem FmW.out (ok:W.Ok g) (Z:FmW W g T ow env σ s i) (m:Mv g T W.U s s') (w:W.Ω j s'.heap):FmW W g T ow env σ s' j :=
 ⟨Z.F.beside m (fun b hb u=>Z.nw b (ok.up b u) (.inr (.inr hb))) (fun b o e q u=>ok.seq i _ Z.w b o u e q) (fun u=>Z.nw _ (ok.up _ u) (.inl rfl)) Z.cl fun b V u=>ok.obj j _ w b (ok.up b u),w,Z.nw,Z.cl⟩
theorem FmW.nx (ok:W.Ok g) (Z:FmW W g T ow env σ s i) (F:Fm g T W.av ow' env σA s') (hw:∀ b,Wr env ow' b->Wr env ow b\/s.heap.get? b=none) (w:W.Ω j s'.heap):FmW W g T ow' env σA s' j :=
 ⟨F,w,fun b hp hb=>(hw b hb).elim (Z.nw b hp) fun q=>(ok.obj i _ Z.w b hp).elim fun o z=>nos q z.1,Z.cl⟩
theorem FmW.has (ok:W.Ok g) (Z:FmW W g T ow env σ s i):∀ b,W.U b->s.heap.get? b≠none:=fun b u q=>(ok.obj i _ Z.w b (ok.up b u)).elim fun o z=>nos q z.1
theorem MtU.then (hU:∀ b,W.U b->sA.heap.get? b≠none) (c:ow'.c=ow.c) (q:GK g T sA) (m:Mv g T (fun b=>Wr env ow b\/W.U b) s sA) (hw:∀ b,Wr env ow' b->Wr env ow b\/s.heap.get? b=none) (h:MtU W g T ow' env sA R j fl s''):MtU W g T ow env s R j fl s'':=by
 cases h with
 | next n w=>exact .next (.then c q m hw hU n) w
 | ret r m' w=>exact .ret r (m.trans m' fun b hb=>hb.elim (fun z=>(hw b z).imp .inl id) fun z=>.inl (.inr z)) w
theorem MtU.out (hU:∀ b,W.U b->sA.heap.get? b≠none) (q:GK g T sA) (m:Mv g T W.U s sA) (h:MtU W g T ow env sA R j fl s''):MtU W g T ow env s R j fl s'':=h.then hU rfl q (m.sub fun V hb=>.inl (.inr hb)) fun V hb=>.inl hb
theorem Jam.nil:Jam prog w g T n sc W i σ [] (.next σ) i:=fun A s ow env he hc rm Z=>wpAny_execs_nil (.next (.of_nx (.of_ext Z.F .refl)) Z.w)
theorem Jam.cons (ok:W.Ok g) (h:SxU prog w g T n sc W i σ st (.next σA) j) (hs:Jam prog w g T n sc W j σA sts R k):Jam prog w g T n sc W i σ (st::sts) R k:=fun A s ow env he hc rm Z=>
 wpAny_execs_cons (Ja0 (h A s ow env he hc rm Z) fun fl sA h₁=>by
  cases h₁ with | next n wj =>
  cases n with | mk ow' c F m hw =>
  have Z':=Z.nx ok F hw wj
  exact Ja0 (hs A sA ow' env he (c.trans hc) rm Z') fun fl s2 h₂=>h₂.then (Z'.has ok) c F.gk m hw)
theorem Jam.last (h:SxU prog w g T n sc W i σ st (.ret d) j):Jam prog w g T n sc W i σ (st::sts) (.ret d) j:=fun A s ow env he hc rm Z=>
 wpAny_execs_cons (Ja0 (h A s ow env he hc rm Z) fun fl sA h₁=>by cases h₁ with | ret r m wj=>exact .ret r m wj)
theorem Jam.pre (hs:Sub σA σ) (h:Jam prog w g T n sc W i σA sts R j):Jam prog w g T n sc W i σ sts R j:=fun A s ow env he hc rm Z=>h A s ow env he hc rm { Z with F:=Z.F.weak hs }
theorem FmW.over {φ:Heap->Prop}(ok:W.Ok g) (q:GK g T s) (w:W.Ω i s.heap) (h:Jer g W i φ):φ (Jbp T s.heap):=h _ q.sub (ok.st i _ _ w (fun b o hp e=>(ok.obj i _ w b hp).elim fun o' z=>q.core_get e (Jav z.1 e▸z.2)) fun V V V e=>q.core_get e (Jdm _ _))
theorem EvU.gnd (ok:W.Ok g) (h:Jer g W i fun g'=>Ev prog w g' T n sc σ e d):EvU prog w g T n sc W i σ e d i:=fun A s ow env he rm Z=>
 Ja0 (Ev.core (FmW.over ok Z.F.gk Z.w h) he rm Z.F.gk Z.F.ec) fun v s' h=>⟨h.1.mv,h.2,ok.ext h.1 Z.F.gk Z.w⟩
theorem SxU.ite {b:Bool}(ok:W.Ok g) (ht:Jer g W i fun g'=>EvT prog w g' T n sc (froz σ) t b) (hb:Jam prog w g T n sc W i σ (if b then body else orelse) R j):SxU prog w g T n sc W i σ (.If t body orelse pos) R j:=fun A s ow env he hoc rm Z=>
 wpAny_If (Ja0 (FmW.over ok Z.F.gk Z.w ht A s _ env he rm (Z.F.gk.core .refl) Z.F.froz) fun c sA h₁=>by
  obtain ⟨rfl,xA⟩:=h₁
  have x:=xA.base (g:=g) (Z.F.gk.core .refl)
  have Z':=Z.ext ok x
  cases c <;> exact Ja0 (hb A sA ow env he hoc rm Z') fun fl s2 h₂=>h₂.out (Z'.has ok) Z'.F.gk x.mv)
theorem SxU.expr (ok:W.Ok g) (h:EvU prog w g T n sc W i σ e d j) (hc:NoC e):SxU prog w g T n sc W i σ (.Expr e pos) (.next σ) j:=fun A s ow env he hoc rm Z=>
 wpAny_Expr_any (Ja0 (h A s ow env he rm Z) fun v sA h₁=>by
  cases h₁ with | mk m r wj=>exact .next ⟨ow,rfl,(Z.out ok m wj).F,m.sub fun V hb=>.inl (.inr hb),fun V hb=>.inl hb⟩ wj) (Jac Z.F) (hc _ _ _)
theorem Jd8 (F:Fm g T av ow env σ s) (m:Mv g T (Wr env ow) s s'):Jvv s.heap s'.heap:=F.tupK m fun V hb=>hb
theorem SxU.assign (ok:W.Ok g) (h:EvU prog w g T n sc W i σ e d j) (hc:NoC e) (hx:Jh9 sc (Ja1 sc.names) x=true):SxU prog w g T n sc W i σ (.Assign [.Name x p] e pos) (.next ((x,.val d)::σ)) j:=fun A s ow env he hoc rm Z=>
 wpAny_Assign_Name (Ja0 (h A s ow env he rm Z) fun v sA h₁=>by
  cases h₁ with | mk m r wj =>
  have Z':=Z.out ok m wj
  exact Ja0 (Jb1 Z'.F (Jd1 Z'.F.ec he (hoc.symm▸hx)) r) fun V s2 h₂=>.next ⟨ow.drop x,rfl,h₂.F,Mv.trans (m.sub fun V hb=>.inl (.inr hb)) h₂.m fun V hb=>.inl (.inl hb),fun V hb=>.inl hb.drop⟩ (ok.mv h₂.m Z'.F.gk wj (fun b hb hp=>Z'.nw b hp hb) (Jd8 Z'.F h₂.m))) (hc _ _ _)
theorem SxU.ret (h:EvU prog w g T n sc W i σ e d j):SxU prog w g T n sc W i σ (.Return (some e) pos) (.ret d) j:=fun A s ow env he hoc rm Z=>
 wpAny_Return_some (Ja0 (h A s ow env he rm Z) fun v sA h₁=>by cases h₁ with | mk m r wj=>exact .ret (VD.sub (fun a ha=>List.mem_append_right _ ha) r) (m.sub fun V hb=>.inl (.inr hb)) wj)
end
end
section
section
variable {g g':Heap}{T:Ja3}{av:List Addr}{ow:Ow}{env:Env}{σ:Sto}{s s':Shared}{b:Addr}{o:Obj}{x:Str}{v:Value}
theorem JBb (up:∀ b o,g.get? b=some o->g'.get? b=some o) (h:g'.get? b=none):g.get? b=none:=Jcl fun o e=>nos h (up b o e)
theorem GK.down (up:∀ b o,g.get? b=some o->g'.get? b=some o) (q:GK g' T s):GK g T s:=⟨fun b o e=>q.keep b o (up b o e),q.tabs,fun p hp=>JBb up (q.off p hp),q.bare⟩
theorem Fm.down (up:∀ b o,g.get? b=some o->g'.get? b=some o) (F:Fm g' T av ow env σ s):Fm g T av ow env σ s:={ F with gk:=F.gk.down up,off:=fun b hb=>JBb up (F.off b hb) }
theorem Glb.up (up:∀ b o,g.get? b=some o->g'.get? b=some o) (l:Glb g x v):Glb g' x v:=by
 cases l with
 | glob o m n e=>exact .glob o m (n.keeps up) e
 | blt o m b n e n' e'=>exact .blt o m b (n.keeps up) e (n'.keeps up) e'
theorem Ext.rise (up:∀ b o,g.get? b=some o->g'.get? b=some o) (x:Ext g T s s'):Ext g' T s s' :=
 ⟨x.dr,x.os,x.keep,fun q=>⟨fun b o e=>x.keep b o (q.keep b o e) fun p hp z=>nos (q.off p hp) (z▸e),(x.gk (q.down up)).tabs,q.off,(x.gk (q.down up)).bare⟩⟩
noncomputable def wrL (env:Env) (ow:Ow):List Addr:=env.locals::(ow.c.filterMap (fun x=>if env.kindOf x=some .cell then env.cells.lookup x else none)++ow.adr)
theorem Jo6:b∈wrL env ow↔Wr env ow b:=by
 unfold wrL Wr
 rw [List.mem_cons,List.mem_append,List.mem_filterMap]
 refine or_congr Iff.rfl (or_congr ⟨?_,?_⟩ Iff.rfl)
 ·rintro ⟨x,hx,e⟩
  by_cases k:env.kindOf x=some .cell
  ·rw [if_pos k] at e; exact ⟨x,hx,k,e⟩
  ·rw [if_neg k] at e; exact nomatch e
 ·rintro ⟨x,hx,k,e⟩
  exact ⟨x,hx,(if_pos k).trans e⟩
noncomputable abbrev JEb (T:Ja3) (env:Env) (ow:Ow):Ja3:=⟨T.tabs++(wrL env ow).map fun b=>(b,Str.empty),T.gens⟩
theorem Jzj (h:Off (JEb T env ow) b):Off T b/\¬ Wr env ow b:=⟨fun p hp=>h p (List.mem_append_left _ hp),fun hw=>h (b,Str.empty) (List.mem_append_right _ (List.mem_map.mpr ⟨b,Jo6.mpr hw,rfl⟩)) rfl⟩
theorem Jqe (h1:Off T b) (h2:¬ Wr env ow b) (e:s.heap.get? b=some o):(Jbp (JEb T env ow) s.heap).get? b=some o:=(Jcr fun p hp z=>(List.mem_append.mp hp).elim (fun q=>h1 p q z) fun q=>let ⟨c,hc,e⟩:=List.mem_map.mp q; h2 (Jo6.mp (z▸e▸hc))).trans e
structure Gnd (g g':Heap) (T:Ja3) (av:List Addr) (ow:Ow) (env:Env) (σ:Sto) (s:Shared):Prop where
 up:∀ b o,g.get? b=some o->g'.get? b=some o
 F:Fm g' T av ow env σ s
 get:∀ b o,s.heap.get? b=some o->¬ Wr env ow b->NT o->g'.get? b=some o
theorem Fm.gnd (F:Fm g T av ow env σ s):Gnd g (Jbp (JEb T env ow) s.heap) T av ow env σ s:=by
 refine ⟨fun b o e=>Jqe (fun p hp z=>nos (F.gk.off p hp) (z▸e)) (fun hw=>nos (F.off b hw) e) (F.gk.keep b o e),{ F with gk:=⟨fun b o e=>(Jbh e).2,F.gk.tabs,fun p hp=>Jdg (List.mem_append_left _ hp),F.gk.bare⟩,off:=fun b hb=>Jcl fun o e=>(Jzj (Jbh e).1).2 hb },fun b o e hw nt=>Jqe (F.gk.away e nt) hw e⟩
end
section
variable {ι:Type}{prog:Program}{w:World}{g g':Heap}{T:Ja3}{n:Nat}{sc:Scope}{W:Wo ι}{i k:ι}{σ σA:Sto}{A:Around}{s s':Shared}{ow ow':Ow}{env:Env}{st:Stmt}{av:List Addr}
theorem FmW.gw (ok:W.Ok g) (Z:FmW W g T ow env σ s i) (G:Gnd g g' T W.av ow env σ s):W.Ω i g' :=
 ok.st i _ _ Z.w (fun b o hp e=>(ok.obj i _ Z.w b hp).elim fun o' z=>G.get b o e (Z.nw b hp) (Jav z.1 e▸z.2)) fun a V V e=>G.get a _ e (fun hw=>(Z.F.isl a (Z.F.wlst e ⟨_,_,.inl rfl⟩ hw)).elim fun V p=>p.elim fun V e'=>Jbe tgP (e.symm.trans e') rfl) (Jdm _ _)
theorem Nx.down (ok:W.Ok g) (Z:FmW W g T ow env σ s i) (G:Gnd g g' T W.av ow env σ s) (h:Nx g' T W.av ow env s σA s'):MtU W g T ow env s (.next σA) i .next s':=by
 cases h with | mk ow' c F m hw=>exact .next ⟨ow',c,F.down G.up,(m.base G.F.gk Z.F.off).sub fun V hb=>.inl (.inl hb),hw⟩ (ok.st i _ _ (Z.gw ok G) (fun b o V e=>F.gk.keep b o e) fun a us k e=>F.gk.keep a _ e)
theorem SxU.next (ok:W.Ok g) (h:Jer g W i fun g'=>Sx prog w g' T n sc σ st (.next σA)):SxU prog w g T n sc W i σ st (.next σA) i:=fun A s ow env he hoc rm Z=>by
 have G:=Z.F.gnd
 exact Ja0 (h _ G.up (Z.gw ok G) A s _ ow env he hoc rm G.F) fun fl s' h=>by cases h with | next nx=>exact nx.down ok Z G
end
end
section
noncomputable abbrev Jbz (CA dx:Addr) (vs:List Value) (k:Nat):Obj:={ cls:=.ref CA,dict:=some dx,data:=.seq vs.toArray k }
structure LCls (K:Frag) (CA:Addr):Prop where
 ga:findIn K (.ref CA) "__getattribute__" = some (some (.builtin "list.__getattribute__"))
 gx:findIn K (.ref CA) "__getattr__" = some none
 hd:hasDictIn K CA=true
 sub:mroIn K CA (.type "list")=some true
 app:findIn K (.ref CA) "append" = some (some (.builtin "list.append"))
 gi:findIn K (.ref CA) "__getitem__" = some (some (.builtin "list.__getitem__"))
 si:findIn K (.ref CA) "__setitem__" = some (some (.builtin "list.__setitem__"))
 it:findIn K (.ref CA) "__iter__" = some (some (.builtin "list.__iter__"))
 ns:noSeq K CA=true
 bl:findIn K (.ref CA) "__bool__" = some none
theorem Jpt {K:Frag}{prog:Program}{w:World}{A:Around}{E:Value->Shared->Prop}{s:Shared}{x C:Addr}{ox:Obj}{od:Option Obj}{name:Str}{pl:Sem Bool}{Q:Value×List Value->Shared->Prop}{i:String}
  (X:K.In s.heap) (I:InstAt s.heap x ox C od) (hga:findIn K (.ref C) "__getattribute__" = some (some (.builtin "list.__getattribute__"))) (hk:findIn K (.ref C) "__getattr__" = some none)
  (hf:findIn K (.ref C) name=some (some (.builtin i))) (ht:typeOf (.builtin i)=pure (.type "method_descriptor")) (hs:shadowIn od name=some false) (h:Q (.builtin i,[.ref x]) s) :
  wpAny (model prog w) A (getMethod (.ref x) name pl) Q E s:=by
 have hcan:=canon_list_getattribute
 unfold getMethod specialOf
 refine wpAny_bind (wpAny_bind (I.type.here ((looks_findIn X hga).here ?_)))
 dsimp only
 rw [hcan,if_neg (by decide)]
 refine wpAny_bind (wpAny_bind (I.type.here ((looks_findIn X hk).here ?_)))
 refine wpAny_bind (wpAny_bind (I.type.here ((looks_findIn X hf).here (wpAny_bind ((Looks.of_pure ht).here ?_)))))
 rw [if_neg (by decide +kernel)]
 refine wpAny_bind (wpAny_loadPart I.at_ ?_)
 have hd:=I.dict
 cases e:ox.dict with
 | none=>exact wpAny_bind (wpAny_rule (wpAny_pure h))
 | some dx =>
  cases od with
  | none=>rw [e] at hd; exact hd.elim
  | some o =>
   rw [e] at hd
   obtain ⟨r,a,b⟩:=Option.map_eq_some_iff.mp hs
   refine wpAny_bind (wpAny_bind (wpAny_loadPart hd ?_))
   rw [nsLook_of a]
   refine wpAny_pure ?_
   rw [b]
   exact wpAny_bind (wpAny_rule (wpAny_pure h))
theorem Jnd {K:Frag}{prog:Program}{w:World}{A:Around}{E:Value->Shared->Prop}{s:Shared}{x C f:Addr}{ox:Obj}{od:Option Obj}{name:Str}{pl:Sem Bool}{Q:Value×List Value->Shared->Prop}(X:K.In s.heap) (I:InstAt s.heap x ox C od) (hga:findIn K (.ref C) "__getattribute__" = some (some (.builtin "list.__getattribute__"))) (hk:findIn K (.ref C) "__getattr__" = some none)
  (hf:findIn K (.ref C) name=some (some (.ref f))) (ht:typeIn K (.ref f)=some (.type "function")) (hs:shadowIn od name=some false) (h:Q (.ref f,[.ref x]) s) :
  wpAny (model prog w) A (getMethod (.ref x) name pl) Q E s:=by
 have hcan:=canon_list_getattribute
 unfold getMethod specialOf
 refine wpAny_bind (wpAny_bind (I.type.here ((looks_findIn X hga).here ?_)))
 dsimp only
 rw [hcan,if_neg (by decide)]
 refine wpAny_bind (wpAny_bind (I.type.here ((looks_findIn X hk).here ?_)))
 refine wpAny_bind (wpAny_bind (I.type.here ((looks_findIn X hf).here (wpAny_bind ((looks_typeIn X ht).here ?_)))))
 rw [if_neg (by decide +kernel)]
 refine wpAny_bind (wpAny_loadPart I.at_ ?_)
 have hd:=I.dict
 cases e:ox.dict with
 | none=>exact wpAny_bind (wpAny_rule (wpAny_pure h))
 | some dx =>
  cases od with
  | none=>rw [e] at hd; exact hd.elim
  | some o =>
   rw [e] at hd
   obtain ⟨r,a,b⟩:=Option.map_eq_some_iff.mp hs
   refine wpAny_bind (wpAny_bind (wpAny_loadPart hd ?_))
   rw [nsLook_of a]
   refine wpAny_pure ?_
   rw [b]
   exact wpAny_bind (wpAny_rule (wpAny_pure h))
theorem Jrm {M:Model}{A:Around}{E:Value->Shared->Prop}{s:Shared}{i owner n:String}{self:Value}{rest:List Value}{kw:List (Str×Value)}{Q:Unit->Shared->Prop}
  (hk:builtinKind i=some .slot\/builtinKind i=some .method) (hs:splitId i=some (owner,n)) (hi:Looks M s.heap (isInstance self (.type owner)) true) (ha:argsOk i ⟨self::rest,kw⟩) (q:Q () s) :
  wpAny M A (checkBuiltinCall i ⟨self::rest,kw⟩) Q E s:=by
 rcases hk with hk | hk <;>
 ·simp only [checkBuiltinCall,hk,hs]
  refine wpAny_bind (hi.here ?_)
  simp only [Bool.not_true,Bool.false_eq_true,if_false]
  cases hsig:Manifest.signature? i with
  | none=>exact wpAny_pure q
  | some sig =>
   simp only [argsOk,hsig] at ha
   have h2:Bind.checkArgs i sig ⟨self::rest,kw⟩=pure ():=ha
   show wpAny M A (Bind.checkArgs i sig ⟨self::rest,kw⟩) Q E s
   rw [h2]; exact wpAny_pure q
theorem Jef {prog:Program}{w:World}{A:Around}{E:Value->Shared->Prop}{s:Shared}{id owner n:String}{b:Builtin}{self:Value}{rest:List Value}{Q:Value->Shared->Prop}
  (hk:builtinKind id=some .slot\/builtinKind id=some .method) (hs:splitId id=some (owner,n)) (hp:plainId id=true) (hb:entryFor table id=some b)
  (hi:Looks (model prog w) s.heap (isInstance self (.type owner)) true) (ha:argsOk id ⟨self::rest,[]⟩)
  (hc:wpAny (model prog w) A.in1 (b ⟨self::rest,[]⟩) (fun fin s'=>∃ v,fin=.done (.ret v)/\Q v s') E s):wpAny (model prog w) A (call (.builtin id) (self::rest)) Q E s:=by
 refine wpAny_call (codeAny_call_builtin hp hb (Jrm hk hs hi ha (wpAny_mono hc (fun fin s' h'=>?_) fun V V h'=>h')))
 obtain ⟨v,rfl,hv⟩:=h'; exact hv
theorem Ju7 (a b:Value):argsOk "list.__getattribute__" ⟨[a,b],[]⟩:=PySem.F.args_list_getattribute_2 a b
theorem Ju5:builtinKind "list.__getattribute__" = some .slot\/builtinKind "list.__getattribute__" = some .method:=by first | exact .inl (by decide +kernel) | exact .inr (by decide +kernel)
theorem Jq0:entryFor table "list.__getattribute__" = some Builtin.«object.__getattribute__» := PySem.F.entry_list_ga
theorem Ju6 (self:Value):bindSpecial (.builtin "list.__getattribute__") self=pure (.builtin "list.__getattribute__",[self]):=by kernel_rfl
section
variable {prog:Program}{w:World}{A:Around}{E:Value->Shared->Prop}{s:Shared}{K:Frag}{x C:Addr}{ox:Obj}{od:Option Obj}{name:Str}{expr:Bool}
theorem Jiy {Q:Value->Shared->Prop}(X:K.In s.heap) (I:InstAt s.heap x ox C od) (hga:findIn K (.ref C) "__getattribute__" = some (some (.builtin "list.__getattribute__"))) (hgx:findIn K (.ref C) "__getattr__" = some none) (hi:Looks (model prog w) s.heap (isInstance (.ref x) (.type "list")) true)
  (h:wpAny (model prog w) A.in1 (Builtin.«object.__getattribute__» ⟨[.ref x,.str name s.toks],[]⟩) (fun fin s'=>∃ v,fin=.done (.ret v)/\wpAny (model prog w) A (handedOut v) Q E s') (fun e s'=>False) { s with toks:=s.toks+1 }) :
  wpAny (model prog w) A (getAttr (.ref x) name expr) Q E s:=by
 obtain ⟨hh,g,d,t,os⟩:=s
 have L0:=I.type (M:=model prog w)
 have L1:=looks_findIn (M:=model prog w) X hga
 have L2:=looks_findIn (M:=model prog w) X hgx
 unfold getAttr getAttrBy
 refine wpAny_bind (wpAny_mkText (wpAny_holding (wpAny_bind (L0.at (wpAny_bind (L1.at ?_))))))
 have e1:(onTheHeap (Value.ref C)&&Value.builtin "list.__getattribute__" == Value.builtin "object.__getattribute__")=false:=by show (true&&(Value.builtin "list.__getattribute__" == Value.builtin "object.__getattribute__"))=false; decide +kernel
 dsimp only
 rw [if_neg (by rw [e1]; exact Bool.false_ne_true)]
 unfold getAttrByItsOwn hookBefore
 refine wpAny_bind ?_
 rw [if_pos (by rfl)]
 refine L2.at ?_
 refine wpAny_bind (wpAny_attempt (wpAny_holding ?_))
 unfold callGetattribute
 rw [if_neg (by cases expr <;> decide +kernel)]
 unfold boundAndCalled
 rw [Ju6]
 refine wpAny_bind (wpAny_pure ?_)
 show wpAny _ _ (call (.builtin "list.__getattribute__") [.ref x,.str name t]) _ _ _
 exact Jef Ju5 (owner := "list") (n := "__getattribute__") (by decide +kernel) (by decide +kernel) Jq0 hi (Ju7 _ _) (wpAny_mono h (fun fin s' z=>z) fun V V z=>z.elim)
theorem Jgo {v:Value}{Q:Value->Shared->Prop}(X:K.In s.heap) (I:InstAt s.heap x ox C od) (hga:findIn K (.ref C) "__getattribute__" = some (some (.builtin "list.__getattribute__"))) (hgx:findIn K (.ref C) "__getattr__" = some none) (hi:Looks (model prog w) s.heap (isInstance (.ref x) (.type "list")) true)
  (hf:findObj K C od name=some (.value v)) (hh:handedIn v=true) (h:Q v { s with toks:=s.toks+1 }):wpAny (model prog w) A (getAttr (.ref x) name expr) Q E s:=by
 refine Jiy X I hga hgx hi ?_
 have L0:=I.type (M:=model prog w)
 have L1:=looks_find (M:=model prog w) X I hf
 unfold Builtin.«object.__getattribute__» slotArgs
 refine wpAny_bind (wpAny_bind (wpAny_pure (wpAny_bind (wpAny_pure (wpAny_pure ?_)))))
 refine wpAny_bind (wpAny_pure ?_)
 refine wpAny_bind (L0.here (s:={ s with toks:=s.toks+1 }) ?_)
 refine wpAny_bind (L1.here (s:={ s with toks:=s.toks+1 }) ?_)
 refine wpAny_pure ⟨_,rfl,?_⟩
 rw [handedOut_of hh]; exact wpAny_pure h
theorem Jpz {g a:Value}{Q:Value->Shared->Prop}(X:K.In s.heap) (I:InstAt s.heap x ox C od) (hga:findIn K (.ref C) "__getattribute__" = some (some (.builtin "list.__getattribute__"))) (hgx:findIn K (.ref C) "__getattr__" = some none) (hi:Looks (model prog w) s.heap (isInstance (.ref x) (.type "list")) true)
  (hf:findObj K C od name=some (.bind g a)) (h:wpAny (model prog w) A.in1 (call g [a,.ref x,.ref C]) (fun v s'=>wpAny (model prog w) A (handedOut v) Q E s') (fun e s'=>False) { s with toks:=s.toks+1 }):wpAny (model prog w) A (getAttr (.ref x) name expr) Q E s:=by
 refine Jiy X I hga hgx hi ?_
 have L0:=I.type (M:=model prog w)
 have L1:=looks_find (M:=model prog w) X I hf
 unfold Builtin.«object.__getattribute__» slotArgs
 refine wpAny_bind (wpAny_bind (wpAny_pure (wpAny_bind (wpAny_pure (wpAny_pure ?_)))))
 refine wpAny_bind (wpAny_pure ?_)
 refine wpAny_bind (L0.here (s:={ s with toks:=s.toks+1 }) ?_)
 refine wpAny_bind (L1.here (s:={ s with toks:=s.toks+1 }) ?_)
 show wpAny _ _ (holding [a] (call g [a,.ref x,.ref C]) >>= ret) _ _ _
 exact wpAny_bind (wpAny_holding (wpAny_mono h (fun v s' z=>wpAny_pure ⟨_,rfl,z⟩) fun V V z=>z))
end
section
variable {K:Frag}{CA:Addr}{prog:Program}{w:World}{A:Around}{E:Value->Shared->Prop}{s:Shared}{c dx:Addr}{vs:List Value}{k:Nat}{od:Obj}
theorem Jbr (ho:s.heap.get? c=some (Jbz CA dx vs k)) (hd:s.heap.get? dx=some od):InstAt s.heap c (Jbz CA dx vs k) CA (some od):=⟨ho,rfl,rfl,hd⟩
theorem Jeq {M:Model}(F:LCls K CA) (X:K.In s.heap) (ho:s.heap.get? c=some (Jbz CA dx vs k)):Looks M s.heap (isInstance (.ref c) (.type "list")) true :=
 ((Looks.ld ho).andThen .now:Looks M s.heap (typeOf (.ref c)) (.ref CA)).andThen (looks_mroIn X F.sub)
theorem Jkp:builtinKind "list.append" = some .slot\/builtinKind "list.append" = some .method:=by first | exact .inl (by decide +kernel) | exact .inr (by decide +kernel)
theorem Jz9:builtinKind "list.__setitem__" = some .slot\/builtinKind "list.__setitem__" = some .method:=by first | exact .inl (by decide +kernel) | exact .inr (by decide +kernel)
theorem Jza:builtinKind "list.__iter__" = some .slot\/builtinKind "list.__iter__" = some .method:=by first | exact .inl (by decide +kernel) | exact .inr (by decide +kernel)
theorem kind_len:builtinKind "list.__len__" = some .slot\/builtinKind "list.__len__" = some .method:=by first | exact .inl (by decide +kernel) | exact .inr (by decide +kernel)
theorem Ji8 {f:Array Value->Array Value}(ho:s.heap.get? c=some (Jbz CA dx vs k)):(s.heap.update c (Obj.mapSeq f)).get? c=some (Jbz CA dx (f vs.toArray).toList (if (f vs.toArray).size==vs.toArray.size then k else k+1)):=by
 rw [Heap.get?_update_self _ ho rfl]
 simp [Obj.mapSeq,Jbz]
theorem Jny {x:Value}{Q:Value->Shared->Prop}(F:LCls K CA) (X:K.In s.heap) (ho:s.heap.get? c=some (Jbz CA dx vs k)) (hz:vs.length<=1000)
  (h:∀ h' k',Heap.SameBut c s.heap h'->h'.get? c=some (Jbz CA dx (vs++[x]) k')->Q .none { s with heap:=h' }) :
  wpAny (model prog w) A (call (.builtin "list.append") [.ref c,x]) Q E s:=by
 refine Jef Jkp (by decide +kernel:splitId "list.append" = some ("list", "append")) PySem.F.slot_list_append.plain PySem.F.entry_list_append (Jeq F X ho) (PySem.F.args_list_append_2 _ _) ?_
 show wpAny _ _ (updateSeq c (·.push x) >>= fun V=>ret .none) _ _ s
 have h1000:(1000:Nat)<=sizeLine:=by decide
 have e:=Ji8 (f:=(·.push x)) ho
 have e1:((fun xs:Array Value=>xs.push x) vs.toArray).toList=vs++[x]:=by simp
 rw [e1] at e
 exact wpAny_bind (wpAny_updateSeq ho rfl (wpAny_pure ⟨.none,rfl,h _ _ (Heap.SameBut.update ..) e⟩) (by simp; lia) (by simp; lia))
theorem Jn0 {M:Model}{name:Str}{id:String}{args:List Value}{Q:Option Value->Shared->Prop}(S:Slot "list" name id) (X:K.In s.heap) (ho:s.heap.get? c=some (Jbz CA dx vs k)) (hs:findIn K (.ref CA) name=some (some (.builtin id)))
  (h:wpAny M A (call (.builtin id) (.ref c::args)) (fun v=>Q (some v)) E s):wpAny M A (callSpecial? (.ref c) name args) Q E s:=by
 simp only [callSpecial?]
 unfold specialOf
 have ht:Looks M s.heap (typeOf (.ref c)) (.ref CA):=(Looks.ld ho).andThen .now
 refine wpAny_bind (wpAny_bind (ht.here ((looks_findIn X hs).here ?_)))
 simp only [S.bind]
 exact wpAny_holding (wpAny_bind (wpAny_pure (wpAny_bind (wpAny_mono h (fun v s' h'=>wpAny_pure h') fun V V h'=>h'))))
theorem Jnx {M:Model}{i:Value}{name:Str}{Q:Value->Shared->Prop}(F:LCls K CA) (X:K.In s.heap) (ho:s.heap.get? c=some (Jbz CA dx vs k)) (h:Q i s):wpAny M A (sequenceKey (.ref c) i name) Q E s:=by
 unfold sequenceKey
 have ht:Looks M s.heap (typeOf (.ref c)) (.ref CA):=(Looks.ld ho).andThen .now
 refine wpAny_bind (ht.here ?_)
 refine wpAny_bind ((anyM_none X F.ns).here ?_)
 rw [if_pos (show (!false)=true from rfl)]
 exact wpAny_pure h
theorem Jjo {sl b:Addr}{vl vu:Value}{lo hi:Option Int}{us:List Value}{kk:Nat}{Q:Unit->Shared->Prop}(F:LCls K CA) (X:K.In s.heap) (ho:s.heap.get? c=some (Jbz CA dx vs k))
  (hs:s.heap.IsSliceOf sl vl vu .none) (pl:IsPart vl lo) (pu:IsPart vu hi) (hb:s.heap.get? b=some (Jb0 us kk)) (hbc:b≠c) (h1:vs.length<=1000) (h2:us.length<=1000)
  (h:∀ h' k',Heap.SameBut c s.heap h'->h'.get? c=some (Jbz CA dx (vs.take (sliceBounds lo hi none vs.length).1.toNat++us++vs.drop (max (sliceBounds lo hi none vs.length).1 (sliceBounds lo hi none vs.length).2.1).toNat) k')->Q () { s with heap:=h' }) :
  wpAny (model prog w) A (setItem (.ref c) (.ref sl) (.ref b)) Q E s:=by
 obtain ⟨os,hos,hcs,hds⟩:=id hs
 have hTs:s.TypeIs (.ref sl) "slice" := ⟨os,hos,hcs⟩
 have hTb:s.TypeIs (.ref b) "list" := ⟨_,hb,rfl⟩
 unfold setItem
 refine wpAny_holding ?_
 refine wpAny_bind (Jnx F X ho ?_)
 refine wpAny_bind (Jn0 PySem.F.slot_list_setitem X ho F.si ?_)
 refine Jef Jz9 (by decide +kernel:splitId "list.__setitem__" = some ("list", "__setitem__")) PySem.F.slot_list_setitem.plain PySem.F.entry_list_setitem (Jeq F X ho) (PySem.F.args_list_setitem_3 _ _ _) ?_
 show wpAny _ _ (Builtin.List.listSubscript? (.ref sl) >>= _) _ _ s
 refine wpAny_bind ?_
 unfold Builtin.List.listSubscript?
 refine wpAny_bind (wpAny_specialOf hTs slice_no_index ?_)
 rw [if_pos (by rfl)]
 refine wpAny_pure ?_
 show wpAny _ _ (typeOf (.ref sl) >>= _) _ _ s
 refine wpAny_bind (wpAny_typeOf hTs ?_)
 rw [if_neg (by decide)]
 rw [listSliceParts_eq]
 refine wpAny_bind (wpAny_bind (wpAny_field hos hds (x:=.none) rfl (wpAny_bind (wpAny_listPart .none ?_))))
 rw [if_neg (show ¬ ((rawPart none==rawInt 0)=true) from Bool.false_ne_true)]
 refine wpAny_bind (wpAny_field hos hds (x:=vl) rfl (wpAny_bind (wpAny_listPart pl ?_)))
 refine wpAny_bind (wpAny_field hos hds (x:=vu) rfl (wpAny_bind (wpAny_listPart pu (wpAny_pure ?_))))
 have hsr:Builtin.List.listSameRef (.ref c) (.ref b)=false:=by
  simp [Builtin.List.listSameRef]; exact fun q=>hbc q.symm
 dsimp only
 rw [hsr,if_neg Bool.false_ne_true]
 unfold Builtin.List.listAllItems Builtin.List.listItems
 refine wpAny_bind (wpAny_bind (wpAny_typeOf hTb ?_))
 rw [if_pos (by rfl)]
 refine wpAny_bind (wpAny_seqItems hb rfl (wpAny_pure ?_))
 refine wpAny_bind (wpAny_bind (wpAny_seqItems ho rfl (wpAny_pure ?_)))
 refine wpAny_bind (wpAny_of_eq (sliceIndices_raw lo hi none vs.toArray.size (by simp)) ?_)
 have hl:Builtin.List.listTooLong (vs.toArray.size+us.toArray.size)=false:=by
  have:(2000:Nat)<=sizeLine:=by decide
  simp [Builtin.List.listTooLong]; lia
 have h1000:(2001:Nat)<=sizeLine:=by decide
 obtain ⟨a0,b0,e0⟩:∃ a0 b0,sliceBounds lo hi none vs.toArray.size=(a0,b0,1):=⟨_,_,rfl⟩
 rw [e0]
 dsimp only
 rw [if_pos (by rfl)]
 refine wpAny_bind (wpAny_rule ?_)
 rw [hl,if_neg Bool.false_ne_true]
 have e:=Ji8 (f:=fun xs:Array Value=>xs.extract 0 a0.toNat++us.toArray++xs.extract (max a0 b0).toNat) ho
 have e1:((fun xs:Array Value=>xs.extract 0 a0.toNat++us.toArray++xs.extract (max a0 b0).toNat) vs.toArray).toList=vs.take a0.toNat++us++vs.drop (max a0 b0).toNat:=by
  simp; exact List.take_of_length_le (by simp)
 rw [e1] at e
 have e2:sliceBounds lo hi none vs.length=(a0,b0,1):=by rw [<- e0,List.size_toArray]
 rw [e2] at h
 refine wpAny_bind (m:=updateSeq c _) (wpAny_updateSeq ho rfl ?_ (Nat.le_trans h1 (by decide)) ?_)
 rotate_left
 ·have ex:∀ i j,(vs.toArray.extract i j).size<=1000:=fun i j=>by
   rw [Array.size_extract]
   exact Nat.le_trans (Nat.sub_le ..) (Nat.le_trans (Nat.min_le_right ..) h1)
  rw [Array.size_append,Array.size_append]
  exact Nat.le_trans (Nat.add_le_add (Nat.add_le_add (ex _ _) h2) (ex _ _)) (by decide)
 refine wpAny_bind (wpAny_letGo ?_)
 exact wpAny_pure ⟨_,rfl,wpAny_pure (h _ _ (Heap.SameBut.update ..) e)⟩
end
end
section
theorem Jk3:Slot "method_descriptor" "__get__" "method_descriptor.__get__" := .of (owner := "method_descriptor") (n := "__get__") (by rw [typeLookup_type,builtinLookup_eq_fast]; kernel_rfl) (by decide +kernel) (by decide +kernel) (by decide +kernel)
 (by first | exact .inl (by decide +kernel) | exact .inr (by decide +kernel)) (by rw [isSubtype_type]; kernel_rfl)
theorem Jff:Slot "wrapper_descriptor" "__get__" "wrapper_descriptor.__get__" := .of (owner := "wrapper_descriptor") (n := "__get__") (by rw [typeLookup_type,builtinLookup_eq_fast]; kernel_rfl) (by decide +kernel) (by decide +kernel) (by decide +kernel)
 (by first | exact .inl (by decide +kernel) | exact .inr (by decide +kernel)) (by rw [isSubtype_type]; kernel_rfl)
theorem Jjc:entryFor table "method_descriptor.__get__" = some Builtin.«method_descriptor.__get__» := entryFor_of_tree (by kernel_rfl)
theorem Jev:entryFor table "wrapper_descriptor.__get__" = some Builtin.«wrapper_descriptor.__get__» := entryFor_of_tree (by kernel_rfl)
theorem Jl4 (a b c:Value):argsOk "method_descriptor.__get__" ⟨[a,b,c],[]⟩:=by unfold argsOk; kernel_rfl
theorem Jg0 (a b c:Value):argsOk "wrapper_descriptor.__get__" ⟨[a,b,c],[]⟩:=by unfold argsOk; kernel_rfl
theorem Jok:typeOf (.builtin "list.pop")=pure (.type "method_descriptor"):=by show builtinType _=_; rw [builtinType_eq_fast]; kernel_rfl
theorem wn {M:Model}{A:Around}{α:Type}{c:Bool}{a b:Sem α}{Q:α->Shared->Prop}{E:Value->Shared->Prop}{s:Shared}(hc:c=false) (h:wpAny M A b Q E s):wpAny M A (if c=true then a else b) Q E s:=by rw [hc]; exact h
theorem wt {M:Model}{A:Around}{α:Type}{c:Bool}{a b:Sem α}{Q:α->Shared->Prop}{E:Value->Shared->Prop}{s:Shared}(hc:c=true) (h:wpAny M A a Q E s):wpAny M A (if c=true then a else b) Q E s:=by rw [hc]; exact h
theorem Jol:typeOf (.builtin "list.__len__")=pure (.type "wrapper_descriptor"):=by show builtinType _=_; rw [builtinType_eq_fast]; kernel_rfl
theorem Jmt:typeOf (.builtin "list.__init__")=pure (.type "wrapper_descriptor"):=by show builtinType _=_; rw [builtinType_eq_fast]; kernel_rfl
noncomputable abbrev Jc5 (bt id:String) (x:Addr):Obj:={ cls:=.type bt,data:=.fields #[.builtin id,.ref x] }
section
variable {prog:Program}{w:World}{A:Around}{E:Value->Shared->Prop}{h:Heap}{g:Array GenState}{d:Drawn}{t:Nat}{os:OsState}
theorem Jgm {id:String}{x C:Addr}{ox:Obj}{Q:Fin->Shared->Prop}(hs : ".".intercalate (id.cutAt '.').dropLast = "list")
  (hx:h.get? x=some ox) (hc:ox.cls=.ref C) (hi:Looks (model prog w) h (isSubtype (.ref C) (.type "list")) true) (hq:Q (.done (.ret (.ref h.objs.size))) ⟨h.push (Jc5 "method-wrapper" id x),g,d,t,os⟩) :
  wpAny (model prog w) A (Builtin.«wrapper_descriptor.__get__» ⟨[.builtin id,.ref x,.ref C],[]⟩) Q E ⟨h,g,d,t,os⟩:=by
 unfold Builtin.«wrapper_descriptor.__get__»
 repeat (first | (with_reducible refine Looks.at hi ?_) | (with_reducible refine wpAny_loadPart_at hx ?_; rw [hc]) | rw [hs] | (refine wn (by rfl) ?_) | (refine wt (by rfl) ?_) | (unfold newFields) | (with_reducible refine wpAny_newObj_type ?_ (by size_fits)) | wp_step)
 exact hq
theorem Jn2 {id:String}{x C:Addr}{ox:Obj}{Q:Fin->Shared->Prop}(hs : ".".intercalate (id.cutAt '.').dropLast = "list") (ht:Manifest.toldItsClass.contains id=false)
  (hx:h.get? x=some ox) (hc:ox.cls=.ref C) (hi:Looks (model prog w) h (isSubtype (.ref C) (.type "list")) true) (hq:Q (.done (.ret (.ref h.objs.size))) ⟨h.push (Jc5 "builtin_function_or_method" id x),g,d,t,os⟩) :
  wpAny (model prog w) A (Builtin.«method_descriptor.__get__» ⟨[.builtin id,.ref x,.ref C],[]⟩) Q E ⟨h,g,d,t,os⟩:=by
 unfold Builtin.«method_descriptor.__get__»
 repeat (first | (with_reducible refine Looks.at hi ?_) | (with_reducible refine wpAny_loadPart_at hx ?_; rw [hc]) | rw [hs] | (refine wn (by rfl) ?_) | (refine wt (by rfl) ?_) | (refine wn ht ?_) | (unfold newFields) | (with_reducible refine wpAny_newObj_type ?_ (by size_fits)) | wp_step)
 exact hq
set_option maxHeartbeats 4000000 in
theorem Jsx {so D x C:Addr}{ox:Obj}{l0 l:List Value}{K:Frag}{name:Str}{id mt bt gi:String}{pl:Sem Bool}{Q:Value×List Value->Shared->Prop}{Bg:Builtin}
  (hso:h.get? so=some { cls:=.type "super",dict:=none,data:=.fields #[.ref D,.ref x,.ref C],slots := #[] }) (hno:Looks (model prog w) h (opaqueClassAbove (.ref C)) none)
  (hC:Looks (model prog w) h (mroOf (.ref C)) l0) (hl:(l0.dropWhile (· != .ref D)).drop 1=l) (X:K.In h)
  (hf:alongIn K name l=some (some (.builtin id))) (hTT:∀ s:Shared,s.TypeIs (.builtin id) mt) (S:Slot mt "__get__" gi) (hb:entryFor table gi=some Bg) (hargs:∀ a b c,argsOk gi ⟨[a,b,c],[]⟩)
  (hrun:∀ (A:Around) (h':Heap) (t':Nat) (Q:Fin->Shared->Prop) (E:Value->Shared->Prop),(∀ b o,h.get? b=some o->h'.get? b=some o)->Q (.done (.ret (.ref h'.objs.size))) ⟨h'.push (Jc5 bt id x),g,d,t',os⟩->wpAny (model prog w) A (Bg ⟨[.builtin id,.ref x,.ref C],[]⟩) Q E ⟨h',g,d,t',os⟩)
  (hxC:x≠C) (hn:(name==("__class__" : Str))=false)
  (hq:Q (.ref h.objs.size,[]) ⟨h.push (Jc5 bt id x),g,d,t+1,os⟩) :
  wpAny (model prog w) A (getMethod (.ref so) name pl) Q E ⟨h,g,d,t,os⟩:=by
 have hlk:=F.ks_slot_super_ga.lookup
 have hcan:=F.ks_canon_super_ga
 have hT:∀ t',(⟨h,g,d,t',os⟩:Shared).TypeIs (.ref so) "super" := fun V=>⟨_,hso,rfl⟩
 unfold getMethod
 refine wpAny_bind (wpAny_specialOf (hT _) hlk ?_)
 show wpAny _ _ (if (Manifest.canonical "super.__getattribute__" != "object.__getattribute__")=true then _ else _) _ _ _
 rw [if_pos hcan]
 unfold getAttr getAttrBy
 refine wpAny_bind (wpAny_bind (wpAny_mkText (wpAny_holding (wpAny_bind (wpAny_typeOf (hT _) (wpAny_bind (wpAny_of_eq hlk ?_)))))))
 show wpAny _ _ (getAttrByItsOwn (.ref so) (.str name t) (.type "super") (.builtin "super.__getattribute__") true false) _ _ _
 unfold getAttrByItsOwn hookBefore callGetattribute boundAndCalled
 refine wpAny_bind (wpAny_of_eq (show (if onTheHeap (.type "super") then typeLookup (.type "super") "__getattr__" else pure none)=pure none from rfl) ?_)
 refine wpAny_bind (wpAny_attempt (wpAny_holding ?_))
 show wpAny _ _ (bindSpecial (.builtin "super.__getattribute__") (.ref so) >>= _) _ _ _
 refine wpAny_bind (wpAny_of_eq (F.ks_slot_super_ga.bind _) ?_)
 refine wpAny_mono (Q:=fun v s'=>v=.ref h.objs.size/\s'=⟨h.push (Jc5 bt id x),g,d,t+1,os⟩) (E:=fun V V=>False)
  (wpAny_call_entry F.ks_slot_super_ga (hT _) F.ks_entry_super_ga ?_ (F.ks_gaArgs_super _ _)) (fun v s' hv=>?_) fun V V z=>z.elim
 ·have hne:(Value.ref x==Value.ref C)=false:=beq_eq_false_iff_ne.mpr fun q=>hxC (Value.ref.inj q)
  have hni:(if (Value.ref x==Value.ref C)=true then Value.none else Value.ref x)=Value.ref x:=by rw [hne]; rfl
  have hdt:({ cls:=.type "super",dict:=none,data:=.fields #[.ref D,.ref x,.ref C],slots := #[] }:Obj).data=.fields #[.ref D,.ref x,.ref C]:=rfl
  have f0:(#[.ref D,.ref x,.ref C]:Array Value)[0]?=some (.ref D):=rfl
  have f1:(#[.ref D,.ref x,.ref C]:Array Value)[1]?=some (.ref x):=rfl
  have f2:(#[.ref D,.ref x,.ref C]:Array Value)[2]?=some (.ref C):=rfl
  have hT2:(⟨h,g,d,t+1,os⟩:Shared).TypeIs (.builtin id) mt:=hTT _
  have hcall:∀ {A':Around}{Q':Value->Shared->Prop}{E':Value->Shared->Prop},Q' (.ref h.objs.size) ⟨h.push (Jc5 bt id x),g,d,t+1,os⟩->wpAny (model prog w) A' (call (.builtin gi) [.builtin id,.ref x,.ref C]) Q' E' ⟨h,g,d,t+1,os⟩:=fun q=>
   wpAny_call_entry S hT2 hb (hrun _ h (t+1) _ _ (fun V V e=>e) ⟨_,rfl,q⟩) (hargs _ _ _)
  have hlg:=S.lookup
  unfold Builtin.«super.__getattribute__»
  repeat (first
   | (with_reducible refine wpAny_field hso hdt f0 ?_) | (with_reducible refine wpAny_field hso hdt f1 ?_) | (with_reducible refine wpAny_field hso hdt f2 ?_)
   | (with_reducible refine ks_wpAny_notOpaque hno ?_)
   | (with_reducible refine Looks.at hC ?_; rw [hl])
   | ((with_reducible show wpAny _ _ (forIn _ _ _) _ _ _); refine ks_forIn_along X (fun V V=>rfl) rfl ?_ hf)
   | (with_reducible refine wpAny_typeOf hT2 ?_)
   | (with_reducible refine hcall ?_)
   | (with_reducible refine ⟨_,rfl,?_⟩)
   | (refine wn (by rfl) ?_) | (refine wt (by rfl) ?_) | (refine wn (by rw [hn,hne]; rfl) ?_) | (refine wn hn ?_) | (refine wn hne ?_)
   | rw [hni]
   | wp_step
   | dsimp only)
  all_goals first | exact ⟨rfl,rfl⟩ | exact ⟨trivial,rfl⟩ | exact ⟨trivial,trivial⟩
 ·obtain ⟨rfl,rfl⟩:=hv
  exact wpAny_pure (wpAny_pure hq)
end
end
section
open Builtin Builtin.ObjectAttr
theorem Jk9 (self:Value):refuseLoop self "__setattr__" [.type "list",.type "object"]=pure ():=by first | kernel_rfl | rfl
theorem Jhb (self:Value):refuseLoop self "__setattr__" [.type "object"]=pure ():=PySem.F.store_object.passes self
section
variable {prog:Program}{w:World}{A:Around}{E:Value->Shared->Prop}{s:Shared}{K:Frag}{x C dx:Addr}{ox:Obj}{es:List DictEntry}{n:Nat}{name:Str}{v:Value}
set_option tactic.hygienic true in
theorem Jlo {cd:ClassData}{l:List Value}{Q:Unit->Shared->Prop}(X:K.In s.heap) (I:InstAt s.heap x ox C (some (dictOf es n))) (hdx:ox.dict=some dx) (hs:findIn K (.ref C) "__setattr__" = some (some (.builtin "object.__setattr__")))
  (hc:clsIn K C=some cd) (hm:cd.mro=.ref C::l) (hp:refuseLoop (.ref x) "__setattr__" l=pure ()) (hobj:cd.mro.contains (.type "object")=true) (ht:takerIn K C name=some none) (hh:cd.hasDict=true) (hl:(getL name es).isSome=true) (hz:es.length<=900)
  (h:∀ h' tk,Heap.SameBut dx s.heap h'->h'.get? dx=some (dictOf (putL name (PyData.keyHash w.params name) (.str name tk) v es) (PySem.W.putN name es n))->Q () { s with heap:=h',toks:=s.toks+2 }) :
  wpAny (model prog w) A (setAttr (.ref x) name v) Q E s:=by
 refine set_plain X I hs ?_
 have hxI:=I
 obtain ⟨hh',gg,dd,t,os⟩:=s
 have SF:=PySem.F.store_object
 have sub:Looks (model prog w) hh' (isInstance (.ref x) (.type "object")) true:=I.type.andThen (looks_mroIn X (by unfold mroIn; rw [hc,Option.bind_some,if_neg (by rw [hm]; simp),hobj]))
 refine codeAny_call_builtin SF.slot.plain SF.entry (@check_slot (model prog w) _ _ ⟨hh',gg,dd,t+1,os⟩ "object.__setattr__" "object" "__setattr__" (.ref x) [.str name t,v] [] _ SF.kind SF.split sub (SF.args (.ref x) (.str name t) v) ?_)
 obtain ⟨attr,ha,hr⟩:=Option.bind_eq_some_iff.mp ht
 have hmro:Looks (model prog w) hh' (mroOf (.ref C)) cd.mro:=(looks_clsIn X hc).andThen .now
 have L3:Looks (model prog w) hh' (storeTaker? attr) none:=by
  cases attr with
  | none=>cases hr; exact .now
  | some a =>
   obtain ⟨b,hb,hb2⟩:=Option.map_eq_some_iff.mp hr
   refine (looks_takesIn X hb).andThen ?_
   cases b
   ·exact .now
   ·exact (Jbe tgN hb2 rfl).elim
 rw [osa_eq,refuse_eq]
 refine wpAny_bind (wpAny_bind (Looks.at I.type (wpAny_bind (Looks.at hmro ?_))))
 rw [hm,refuseLoop_ref,hp]
 refine wpAny_pure (wpAny_bind (Looks.at I.type (wpAny_bind (Looks.at (looks_findIn X ha) (wpAny_bind (Looks.at L3 ?_))))))
 obtain ⟨hx,hcl,hn,hdd⟩:=I
 obtain ⟨oc,odi,oda,osl⟩:=ox
 dsimp only at hcl hdx hdd
 subst hcl hdx
 have D:hh'.get? dx=some (dictOf es n):=hdd
 have D':=Heap.get?_update_self (h:=hh') (fun o=>Obj.putName name (PyData.keyHash w.params name) (.str name (t+1)) v o) D (by rw [putName_dict]; rfl)
 rw [putName_dict] at D'
 refine wpAny_bind (wpAny_pure (wpAny_bind (wpAny_bind (wpAny_loadPart hx (wpAny_bind (Looks.at (looks_clsIn X hc) ?_))))))
 rw [hh]
 refine wpAny_pure (a:=some dx) (wpAny_bind (wpAny_pure (wpAny_bind ?_)))
 unfold nsSet
 refine wpAny_bind (wpAny_bind (wpAny_askSetting (wpAny_pure (wpAny_bind (wpAny_mkText (wpAny_bind (wpAny_loadPart D ?_)))))))
 have c:(!es.toArray.any (·.key.isStr name)&&es.toArray.any (·.refKey))=false:=by
  rw [<- Array.any_toList, <- Array.any_toList]
  show (!es.any _&&es.any _)=false
  unfold getL at hl
  split at hl
  ·rename_i en he
   rw [List.any_eq_true.mpr ⟨en,List.mem_of_find?_eq_some he,List.find?_some he⟩]; rfl
  ·split at hl
   ·exact (Jbe tgS hl rfl).elim
   ·rename_i z; rw [Bool.not_eq_true] at z; rw [z,Bool.and_false]
 dsimp only
 rw [aRefKeyMayBeTheName_at,c]
 refine wpAny_updatePart D ?_
 have hlen:(putL name (PyData.keyHash w.params name) (.str name (t+1)) v es).length<=1000:=by
  have:∀ es:List DictEntry,(putL name (PyData.keyHash w.params name) (.str name (t+1)) v es).length<=es.length+1:=by
   intro es
   induction es with
   | nil=>simp [putL]
   | cons e r ih =>
    unfold putL
    split
    ·simp
    ·simp only [List.length_cons]; lia
  have:=this es
  lia
 refine wpAny_bind (wpAny_lookBehind D' (pastItsLine_dict (by rw [List.size_toArray,sizeLine_eq]; lia)) ?_)
 exact wpAny_pure (h _ _ (Heap.SameBut.update ..) D')
end
structure JAx (K:Frag) (C fI:Addr):Prop where
 obj:∃ oc od cd sl l,K.lookup C=some ⟨oc,od,.cls cd,sl⟩/\cd.abstract=false/\cd.hasDel=false/\cd.mro=.ref C::l/\sl.toList[4]?=some (some (.builtin "list.__new__"))/\typeIn K (.ref C)=some (.type "type")
 sub:mroIn K C (.type "list")=some true
 self:mroIn K C (.ref C)=some true
 call:specialIn K (.ref C) "__call__" = some (some (.builtin "type.__call__"))
 typ:instIn K (.ref C) (.type "type")=some true
 init:findIn K (.ref C) "__init__" = some (some (.ref fI))
 new:findIn K (.ref C) "__new__" = some (some (.builtin "list.__new__"))
 fn:typeIn K (.ref fI)=some (.type "function")
section
variable {prog:Program}{w:World}{A:Around}{K:Frag}{C fI:Addr}{R:Result->Shared->Prop}{h:Heap}{g:Array GenState}{d:Drawn}{t:Nat}{os:OsState}
theorem Jra {rest:List Value}(X:K.In h) (Y:JAx K C fI) (hq:R (.ok (.ret (.ref (h.objs.size+1)))) ⟨(h.push emptyDict).push (Jbz C h.objs.size [] 0),g,d,t,os⟩) :
  codeAny (model prog w) A (.call (.builtin "list.__new__") ⟨.ref C::rest,[]⟩) R ⟨h,g,d,t,os⟩:=by
 obtain ⟨⟨oc,od,cd,sl,l,ho,e1,e2,hl,e3,e4⟩,sub,self,call,typ,init,new,fn⟩:=Y
 have hC:=X _ _ ho
 have hc:clsIn K C=some cd:=by unfold clsIn; rw [ho]
 have hm:Looks (model prog w) h (mroOf (.ref C)) cd.mro:=(looks_clsIn X hc).andThen .now
 have made:Looks (model prog w) h (Bind.madeBy (.ref C)) (some "list.__new__"):=by
  intro A Q E s k q
  unfold Bind.madeBy
  refine wpAny_bind (hm A _ E s k ?_)
  rw [hl,List.forIn_cons]
  refine wpAny_bind (wpAny_bind (wpAny_bind (wpAny_bind (wpAny_loadPart (k _ _ hC) (wpAny_pure ?_)))))
  dsimp only
  rw [<- Array.getElem?_toList,e3]
  exact wpAny_pure (wpAny_pure (wpAny_pure q))
 have base:Looks (model prog w) h (Bind.staticBase (.ref C)) (.ref C):=by
  intro A Q E s k q
  unfold Bind.staticBase
  refine wpAny_bind (hm A _ E s k ?_)
  rw [hl,List.forIn_cons]
  exact wpAny_bind (wpAny_bind (wpAny_bind (made A _ E s k (wpAny_pure (wpAny_pure (wpAny_pure q))))))
 have hk:builtinKind "list.__new__" = some .builtinFn:=by decide +kernel
 have hs:splitId "list.__new__" = some ("list", "__new__"):=by decide +kernel
 have L1:=looks_mroIn (M:=model prog w) X sub
 refine codeAny_call_builtin_code (Code.quiet_builtin _ (by decide +kernel)) ?_
 unfold checkBuiltinCall
 rw [hk,hs]
 dsimp only
 repeat (first | (with_reducible refine Looks.at base ?_) | (with_reducible refine Looks.at made ?_) | (with_reducible refine Looks.at L1 ?_) | (with_reducible refine wn (bne_self_eq_false _) ?_) | (refine wn (by rfl) ?_) | (refine wt (by rfl) ?_) | lk)
 refine codeAny_builtin_stack PySem.F.entry_list_new rfl fun p st=>?_
 rw [Around.under_plainId PySem.F.plain_list_new _]
 have hown:=owner_list_new
 dsimp only
 rw [hown]
 have isT:∀ {A:Around}{Q:Bool->Shared->Prop}{E:Value->Shared->Prop},Q true ⟨h,g,d,t,os⟩->wpAny (model prog w) A (isType (.ref C)) Q E ⟨h,g,d,t,os⟩:=fun q=>ks_wpAny_isType_cls hC rfl q
 repeat (first | (with_reducible refine isT ?_) | (with_reducible refine Looks.at L1 ?_) | (refine wn (by rfl) ?_) | (refine wt (by rfl) ?_) | lk)
 refine nd_load (Heap.get?_push_of_some _ (Heap.get?_push_of_some _ hC)) ?_
 refine nd_pure ?_
 refine wpAny_pure (a:=cd.hasDel) ?_
 rw [e2,if_neg Bool.false_ne_true]
 refine wpAny_pure (wpAny_pure ?_)
 show R _ _
 rw [Heap.size_push]
 exact hq
theorem Jpw {rest:List Value}(X:K.In h) (Y:JAx K C fI)
  (hq:codeAny (model prog w) (A.under (.builtin "type.__call__" ⟨.ref C::rest,[]⟩)) (.call (.ref fI) ⟨.ref (h.objs.size+1)::rest,[]⟩) (InitBack (h.objs.size+1) R) ⟨(h.push emptyDict).push (Jbz C h.objs.size [] 0),g,d,t,os⟩) :
  codeAny (model prog w) A (.call (.ref C) ⟨rest,[]⟩) R ⟨h,g,d,t,os⟩:=by
 have Y':=Y
 obtain ⟨⟨oc,od,cd,sl,l,ho,e1,e2,hl,e3,e4⟩,sub,self,call,typ,init,new,fn⟩:=Y
 have hC:=X _ _ ho
 have hc:clsIn K C=some cd:=by unfold clsIn; rw [ho]
 have hcall:=looks_specialIn (M:=model prog w) X call
 have htyp:=looks_instIn (M:=model prog w) X typ
 have made:Looks (model prog w) h (Bind.madeBy (.ref C)) (some "list.__new__"):=by
  intro A Q E s k q
  unfold Bind.madeBy
  have hm:Looks (model prog w) h (mroOf (.ref C)) cd.mro:=(looks_clsIn X hc).andThen .now
  refine wpAny_bind (hm A _ E s k ?_)
  rw [hl,List.forIn_cons]
  refine wpAny_bind (wpAny_bind (wpAny_bind (wpAny_bind (wpAny_loadPart (k _ _ hC) (wpAny_pure ?_)))))
  dsimp only
  rw [<- Array.getElem?_toList,e3]
  exact wpAny_pure (wpAny_pure (wpAny_pure q))
 have hself:=looks_mroIn (M:=model prog w) X self
 have hinit:=looks_findIn (M:=model prog w) X init
 have hnew:=looks_findIn (M:=model prog w) X new
 have hm:Looks (model prog w) h (mroOf (.ref C)) cd.mro:=(looks_clsIn X hc).andThen .now
 refine codeAny_of_tree ?_
 show wpAny _ _ (callAny (.ref C) _) _ _ _
 refine nd_load hC ?_
 show wpAny _ _ (callAny.viaDunder (.ref C) _) _ _ _
 unfold callAny.viaDunder
 refine wpAny_bind (hcall.at ?_)
 dsimp only
 rw [tc_bind]
 refine wpAny_bind (wpAny_pure (wpAny_bind (wpAny_pure ?_)))
 refine wpAny_pure (a:=Fin.again (.call (.builtin "type.__call__") ⟨.ref C::rest,[]⟩)) (And.intro rfl ?_)
 refine codeAny_call_builtin_at (Code.quiet_builtin _ (by decide +kernel)) entry_typeCall (check_slot tc_kind tc_split htyp (tc_args _ _ _) ?_)
 unfold Builtin.«type.__call__»
 have hne:cd.mro.isEmpty=false:=by rw [hl]; rfl
 repeat (first | (refine wn hne ?_) | (refine wn (by rfl) ?_) | with_reducible refine wpAny_call ?_ | lk)
 refine Jra X Y' ?_
 have k:∀ b o,h.get? b=some o->((h.push emptyDict).push (Jbz C h.objs.size [] 0)).get? b=some o:=fun b o e=>Heap.get?_push_of_some _ (Heap.get?_push_of_some _ e)
 have hx:((h.push emptyDict).push (Jbz C h.objs.size [] 0)).get? (h.objs.size+1)=some (Jbz C h.objs.size [] 0):=by heap_get
 have t1:Looks (model prog w) ((h.push emptyDict).push (Jbz C h.objs.size [] 0)) (typeOf (.ref (h.objs.size+1))) (.ref C):=(Looks.ld hx).andThen .now
 have s1:=hself.keeps k
 have i1:=hinit.keeps k
 have b1:=bind_fn (M:=model prog w) (h:=(h.push emptyDict).push (Jbz C h.objs.size [] 0)) (fun b o e=>k _ _ (X b o e)) (.ref (h.objs.size+1)) fn
 unfold isInstance callSpecial? specialOf
 repeat (first | with_reducible refine wpAny_call ?_ | lk)
 refine codeAny_mono hq fun r s' z=>?_
 rcases r with e | (v | _ | _ | _) <;> first | exact z | exact z.elim | skip
 obtain ⟨rfl,z⟩:=z
 exact wpAny_pure (wpAny_pure z)
end
end
section
noncomputable def Jak (c m:String):Stmt:=((Ja5 (fn1 c)).find? fun st=>(stP st).name==Str.ofString m).getD (.Pass ⟨0,0,0,0⟩)
structure MF (P:Value->Str->Prop) (K:Frag) (g:Heap) (C:Addr) (m:Str) (f:Addr) (st:Stmt) (cl:List (Str×Addr)) (xs:List Str):Prop where
 find:findIn K (.ref C) m=some (some (.ref f))
 isf:isFn K (.ref f)=true
 fni:fnIn K f=true
 kee:keepIn K (.ref f)=true
 fo:FnO P g f (Ja2 st) cl xs (Ja5 st)
 fs:FnS0 (Ja2 st) xs
 nc:Ja1 (Ja2 st).names=[]
 ce:∀ x c,cl.lookup x=some c->∃ v,g.IsCell c v
 fr:∀ x,(Ja2 st).names.lookup x=some .free->(cl.lookup x).isSome=true
noncomputable def Juv:Flow->Value
 | .ret v=>v
 | _=>.none
noncomputable def Rz.val:Rz->D
 | .ret d=>d
 | _=>.none
structure ClU {ι:Type}(prog:Program) (w:World) (g:Heap) (T:Ja3) (n:Nat) (f:Addr) (W:Wo ι) (i:ι) (ds:List D) (d:D) (j:ι):Prop where
 run:∀ (A:Around) (s:Shared) (vs:List Value),Rm n A->GK g T s->W.Ω i s.heap->Jdk W.av s.heap->VDs W.av s.heap vs ds->wpAny (model prog w) A (call (.ref f) vs) (Jlb W g T W.av s d j) NoE s
structure Jvy {ι:Type}(prog:Program) (w:World) (g:Heap) (T:Ja3) (n:Nat) (σ:Sto) (f:Addr) (W:Wo ι) (i:ι) (ds:List D) (d:D) (j:ι):Prop where
 run:∀ (A:Around) (s:Shared) (ow:Ow) (env:Env) (vs:List Value),Rm n A->FmW W g T ow env σ s i->VDs (ow.adr++W.av) s.heap vs ds->wpAny (model prog w) A (call (.ref f) vs) (Jlb W g T (ow.adr++W.av) s d j) NoE s
noncomputable abbrev Jby (o:Expr) (m:Str) (apos:Pos) (args:List Expr) (pos:Pos):Prop:=∀ env,∃ pl,eval (.Call (.Attribute o m apos) args [] pos) env=(do
 let ov <- attributeBase o m env (eval o env)
 standAt apos.atName
 let (f,first) <- holding [ov] (getMethod ov m pl)
 callWith pos f first (backTo pos (starEach args env)) [])
section
variable {ι:Type}{prog:Program}{w:World}{g g':Heap}{T:Ja3}{n:Nat}{sc:Scope}{W:Wo ι}{i j:ι}{σ:Sto}{A:Around}{s s' sA:Shared}{ow:Ow}{env:Env}{R:Rz}{fl:Flow}{av:List Addr}{K:Frag}{C f c:Addr}{m:Str}{st:Stmt}{cl:List (Str×Addr)}{xs:List Str}{vs vs':List Value}{ds:List D}{d:D}{P:Value->Str->Prop}{o e:Expr}{es:List Expr}{apos pos:Pos}
theorem FmW.to (ok:W.Ok g) (M:MF P K g C m f st cl xs) (hw:W.Ω i s.heap) (hg:GK g T s) (N:JB4 P g T n f (Ja2 st) cl W.av A s σ env ow sA):FmW W g T ow env σ sA i :=
 ⟨N.F,ok.ext N.x hg hw,fun b hb h=>(ok.obj i _ hw b hb).elim fun o p=>nos (N.w b h) p.1,fun x c e u=>(M.ce x c ((N.cells x fun h=>nomatch M.nc▸Jau.mpr h).symm.trans e)).elim fun v i=>i.elim fun o p=>nos (ok.off c u) p.1⟩
theorem MtU.fin (x:Ext g T s sA) (hw:∀ b,Wr env ow b->s.heap.get? b=none) (h:MtU W g T ow env sA R j fl s'):Jlb W g T W.av s R.val j (Juv fl) s':=by
 cases h with
 | next nx w=>exact nx.rec fun V V V m V=>⟨Mv.trans x.mv m fun b hb=>hb.elim (fun z=>.inr (hw b z)) .inl,.none,w⟩
 | ret r m w=>exact ⟨Mv.trans x.mv m fun b hb=>hb.elim (fun z=>.inr (hw b z)) .inl,r,w⟩
theorem Jbv (M:MF P K g C m f st cl xs) (ok:W.Ok g) (hb:∀ {o fd},g.get? f=some o->o.data=.func fd->Looks (model prog w) g (bindArgs fd ⟨vs,[]⟩) (xs.zip vs')) (rm:Rm (n+1) A) (hg:GK g T s) (hw:W.Ω i s.heap) (hav:Jdk W.av s.heap) (hv:VDs W.av s.heap vs' ds) (hl:ds.length=xs.length)
  (h:∀ (env:Env) (ow:Ow) (sA:Shared),JB4 P g T n f (Ja2 st) cl W.av A s (params xs ds) env ow sA->FmW W g T ow env (params xs ds) sA i->_root_.PySem.wpAt (model prog w) (A.deeper env) (.func (Ja5 st) env) (execs (Ja5 st) env) (MtU W g T ow env sA R j) NoE sA) :
  codeAny (model prog w) A (.call (.ref f) ⟨vs,[]⟩) (Jle (Jlb W g T W.av s R.val j)) s :=
 Jen M.fo M.fs hb (σc:=[]) ⟨fun x c e=>(M.ce x c e).imp fun V i=>i.keeps hg.keep,M.fr,nofun⟩ rm hg hav hv hl fun env ow sA N=>ks_wpAt_mono (h env ow sA N (.to ok M hw hg N)) (fun fl s' q=>q.fin N.x N.w) fun V V f=>f
theorem Jr9 (M:MF P K g C m f st cl xs) (ok:W.Ok g) (hl:ds.length=xs.length) (h:Jam prog w g T n (Ja2 st) W i (params xs ds) (Ja5 st) R j) (rm:Rm (n+1) A) (hg:GK g T s) (hw:W.Ω i s.heap) (hav:Jdk W.av s.heap) (hv:VDs W.av s.heap vs ds):codeAny (model prog w) A (.call (.ref f) ⟨vs,[]⟩) (Jle (Jlb W g T W.av s R.val j)) s :=
 Jbv M ok (M.fo.looks (hv.length.trans hl)) rm hg hw hav hv hl fun env ow sA N Z=>wpAt_of_wpAny (h _ sA ow env N.sc_ N.c N.rm Z)
theorem ClU.of (M:MF P K g C m f st cl xs) (ok:W.Ok g) (hl:ds.length=xs.length) (h:Jam prog w g T n (Ja2 st) W i (params xs ds) (Ja5 st) R j):ClU prog w g T (n+1) f W i ds R.val j:=⟨fun A s vs rm hg hw hav hv=>wpAny_call (Jr9 M ok hl h rm hg hw hav hv)⟩
theorem Jdk.app (a:Jdk (av++W.av) s.heap):Jdk W.av s.heap:=fun b hb=>a b (List.mem_append_right _ hb)
theorem Jvy.of (h:ClU prog w g T n f W i ds d j) (hd:Flat d):Jvy prog w g T n σ f W i ds d j:=⟨fun A s ow env vs rm Z hv=>Ja0 (h.run A s vs rm Z.F.gk Z.w Z.F.ec.avok.app (hv.sub fun V=>List.mem_append_right _)) fun v s' q=>by cases q with | mk m r w=>exact ⟨m,hd _ _ _ (r.sub (av':=[]) nofun),w⟩⟩
theorem Jc2 {M:Model}{E:Value->Shared->Prop}{Q:Value->Shared->Prop}(hm:Jby o m apos es pos) (hb:∀ env,attributeBase o m env (eval o env)=eval o env) (h:wpAny M A (eval o env) (fun ov sA=>∀ pl,wpAny M A (getMethod ov m pl) (fun fx s2=>wpAny M A (callWith pos fx.1 fx.2 (backTo pos (starEach es env)) []) Q E s2) E sA) E s) :
  wpAny M A (eval (.Call (.Attribute o m apos) es [] pos) env) Q E s :=
 (hm env).elim fun pl he=>he▸(hb env).symm▸wpAny_bind (wpAny_mono h (fun ov sA h₁=>wpAny_bind (wpAny_standAt (wpAny_bind (wpAny_holding (h₁ pl))))) fun V V x=>x)
noncomputable abbrev Jld (prog:Program) (w:World) (g:Heap) (Ω:Heap->Prop) (c f:Addr) (m:Str):Prop:=∀ {A:Around}{s:Shared}{pl:Sem Bool}{Q:Value×List Value->Shared->Prop}{E:Value->Shared->Prop},(∀ b o,g.get? b=some o->s.heap.get? b=some o)->Ω s.heap->Q (.ref f,[.ref c]) s->wpAny (model prog w) A (getMethod (.ref c) m pl) Q E s
theorem VDs.cons0 {h:Heap}(r:VDs av h vs ds):VDs av h (.ref c::vs) (.adr c::ds):=.cons (.adr c) r
section
variable (ok:W.Ok g) (X:K.In g) (hk:keepIn K (.ref f)=true) (hm:Jby o m apos es pos) (hb:∀ env,attributeBase o m env (eval o env)=eval o env) (ho:Jer g W i fun g'=>Ev prog w g' T n sc σ o (.adr c)) (hf:Jld prog w g (W.Ω i) c f m) (hr:Jvy prog w g T n σ f W i (.adr c::ds) d j)
include ok hm hb ho hf hr
theorem EvU.own' (h:∀ {A sA ow env}{Q:Value->Shared->Prop},env.scope=sc->Rm n A->FmW W g T ow env σ sA i->(∀ {vs s2},Ext g T sA s2->VDs (ow.adr++W.av) s2.heap vs ds->wpAny (model prog w) A (call (.ref f) (.ref c::vs)) Q NoE s2)->wpAny (model prog w) A (callWith pos (.ref f) [.ref c] (backTo pos (starEach es env)) []) Q NoE sA) :
  EvU prog w g T n sc W i σ (.Call (.Attribute o m apos) es [] pos) d j:=fun A s ow env he rm Z=>
 Jc2 hm hb (Ja0 (EvU.gnd ok ho A s ow env he rm Z) fun ov sA h₁ pl=>by
  cases h₁ with | mk mP r1 wA =>
  cases r1.i1
  have Z1:=Z.out ok mP wA
  exact hf Z1.F.gk.keep Z1.w (h he rm Z1 fun x r=>Ja0 (hr.run A _ ow env _ rm (Z1.ext ok x) r.cons0) fun v s3 h₃=>by cases h₃ with | mk m3 rC w3=>exact ⟨mP.trans (Mv.trans x.mv m3 fun V hb=>.inl hb) fun V hb=>.inl hb,rC,w3⟩))
end
theorem EvU.own0 (ok:W.Ok g) (X:K.In g) (hk:keepIn K (.ref f)=true) (hm:Jby o m apos [] pos) (hb:∀ env,attributeBase o m env (eval o env)=eval o env) (ho:Jer g W i fun g'=>Ev prog w g' T n sc σ o (.adr c)) (hf:Jld prog w g (W.Ω i) c f m)
  (hr:Jvy prog w g T n σ f W i [.adr c] d j):EvU prog w g T n sc W i σ (.Call (.Attribute o m apos) [] [] pos) d j :=
 .own' ok hm hb ho hf hr fun he rm Z fin=>callWith_K0 (fun b o e=>Z.F.gk.keep b o (X b o e)) hk (fin .refl .nil)
theorem EvU.own (ok:W.Ok g) (X:K.In g) (hk:keepIn K (.ref f)=true) (hm:Jby o m apos (e::es) pos) (hb:∀ env,attributeBase o m env (eval o env)=eval o env) (ho:Jer g W i fun g'=>Ev prog w g' T n sc σ o (.adr c)) (hf:Jld prog w g (W.Ω i) c f m) (ha:Jer g W i fun g'=>EvL prog w g' T n sc σ (e::es) ds)
  (hr:Jvy prog w g T n σ f W i (.adr c::ds) d j):EvU prog w g T n sc W i σ (.Call (.Attribute o m apos) (e::es) [] pos) d j :=
 .own' ok hm hb ho hf hr fun {A sA ow env Q} he rm Z fin=>by
  have a:=FmW.over ok Z.F.gk Z.w ha
  refine callWith_K (h₀:=sA.heap) (fun b o e=>Z.F.gk.keep b o (X b o e)) hk (Ja0 (a.run A sA _ env pos he rm (Z.F.gk.core .refl) Z.F.ec) fun vs s2 h₂=>?_) (a.plain.1 env) a.plain.2.any
  have x:=h₂.1.base (g:=g) (Z.F.gk.core .refl)
  exact ⟨fun b o e=>(x.gk Z.F.gk).keep b o (X b o e),fin x h₂.2⟩
end
end
section
structure Jbj where
 a:Addr
 n:Nat
 x:Str
 t:Tok
 y:Str
 u:Tok
noncomputable abbrev Jbj.ref (q:Jbj):Value:=.ref q.a
noncomputable abbrev Jbj.tx (q:Jbj):Str×Str:=(q.x,q.y)
noncomputable abbrev Jbj.obj (q:Jbj):Obj:=Jom [.str q.x q.t,.str q.y q.u] q.n
noncomputable abbrev Jx3 (h:Heap) (qs:List Jbj):Prop:=∀ q∈qs,h.get? q.a=some q.obj
noncomputable abbrev chD (c:Str×Str):D:=.tup [.str c.1,.str c.2]
noncomputable def isz:Str := "_initial_size"
noncomputable def Jug (hs:Int) (tk:Tok) (i:Int) (t:Tok):List DictEntry:=[⟨hs,.str isz tk,.int i t⟩]
structure Jic (CA:Addr) (h:Heap) (c dx:Addr) (qs:List Jbj) (k kd:Nat) (es:List DictEntry):Prop where
 o:h.get? c=some (Jbz CA dx (qs.map Jbj.ref) k)
 d:h.get? dx=some (dictOf es kd)
 p:Jx3 h qs
inductive Jd2 (CA:Addr) (h:Heap) (c dx:Addr) (ps:List (Str×Str)) (i:Int):Prop
 | mk (qs:List Jbj) (k kd:Nat) (hs:Int) (tk t:Tok) (e:qs.map Jbj.tx=ps) (a:Jic CA h c dx qs k kd (Jug hs tk i t))
noncomputable abbrev AvL (av:List Addr) (h:Heap):Prop:=∀ a∈av,∃ vs n,h.get? a=some (Jb0 vs n)
noncomputable abbrev Acc:=List (Str×Str)×Int
noncomputable abbrev Jdj (CA:Addr) (av:List Addr) (c dx:Addr):Wo Acc:={ av:=av,P:=fun b=>b=c\/b=dx\/b∈av,U:=fun b=>b=c\/b=dx,Ω:=fun i h=>Jd2 CA h c dx i.1 i.2/\AvL av h }
section
variable {g:Heap}{h h':Heap}{CA c dx:Addr}{ps:List (Str×Str)}{qs:List Jbj}{i:Int}{av:List Addr}{vs:List Value}{k k' kd:Nat}{es:List DictEntry}{b:Addr}{o:Obj}
theorem Je6 (CA dx:Addr) (vs:List Value) (k:Nat):NT (Jbz CA dx vs k):=fun V e=>Jbe tgO e rfl
theorem Jaz (es:List DictEntry) (k:Nat):NT (dictOf es k):=fun V e=>Jbe tgO e rfl
theorem Jpp:Jdd (Jbz CA dx vs k):=⟨fun us q t e=>(Jbe tgB e rfl).elim,Je6 _ _ _ _⟩
theorem Jhk:Jdd (dictOf es k):=⟨fun us q t e=>(Jbe tgB e rfl).elim,Jaz _ _⟩
theorem Jl8:¬ Jaq (Jbz CA dx vs k):=fun ⟨_,_,e⟩=>e.elim (fun e=>Jbe tgO e rfl) fun e=>Jbe tgO e rfl
theorem Jed:¬ Jaq (dictOf es k):=fun ⟨_,_,e⟩=>e.elim (fun e=>Jbe tgO e rfl) fun e=>Jbe tgO e rfl
theorem apart {a b:Addr}{o o':Obj}(e:h.get? a=some o) (e':h.get? b=some o') (ht:Nat.beq (tgO o) (tgO o')=false):a≠b:=fun q=>Jbe tgO (Jav (q▸e) e') ht
theorem Jx3.keep (p:Jx3 h qs) (k:Jvv h h'):Jx3 h' qs:=fun q hq=>k _ _ _ (p q hq)
theorem Jd2.st (a:Jd2 CA h c dx ps i) (hk:∀ b o,b=c\/b=dx->h.get? b=some o->h'.get? b=some o) (tk:Jvv h h'):Jd2 CA h' c dx ps i:=by
 cases a with | mk qs k kd hs tt t e a=>exact ⟨qs,k,kd,hs,tt,t,e,hk _ _ (.inl rfl) a.o,hk _ _ (.inr rfl) a.d,a.p.keep tk⟩
theorem AvL.ok (a:AvL av h):Jdk av h:=fun b hb=>(a b hb).elim fun V p=>p.elim fun V e=>⟨_,e,Jai _ _⟩
theorem Jbc (hc:g.get? c=none) (hd:g.get? dx=none):(Jdj CA av c dx).Ok g where
 up:=fun b hb=>hb.imp id .inl
 off:=fun b hb=>hb.elim (fun e=>e▸hc) fun e=>e▸hd
 obj:=fun i h hw b hb=>by
  cases hw.1 with | mk qs k kd hs tt t e a =>
  rcases hb with rfl | rfl | hb
  ·exact ⟨_,a.o,Je6 _ _ _ _⟩
  ·exact ⟨_,a.d,Jaz _ _⟩
  ·exact hw.2.ok b hb
 seq:=fun i h hw b o hb e so=>by
  cases hw.1 with | mk qs k kd hs tt t e' a =>
  rcases hb with rfl | rfl
  ·exact (Jl8 (Jav e a.o▸so)).elim
  ·exact (Jed (Jav e a.d▸so)).elim
 st:=fun i h h' hw hk tk=>⟨hw.1.st (fun b o hb=>hk b o (hb.imp id .inl)) tk,fun b hb=>(hw.2 b hb).imp fun V p=>p.imp fun V e=>hk b _ (.inr (.inr hb)) e⟩
theorem Jic.put {qs':List Jbj}(a:Jic CA h c dx qs k kd es) (p:Jx3 h qs') (hs:Heap.SameBut c h h') (e:h'.get? c=some (Jbz CA dx (qs'.map Jbj.ref) k')):Jic CA h' c dx qs' k' kd es :=
 ⟨e,(hs.2 _ (apart a.d a.o rfl)).trans a.d,fun q hq=>(hs.2 _ (apart (p q hq) a.o rfl)).trans (p q hq)⟩
theorem Jic.putD {es':List DictEntry}{kd':Nat}(a:Jic CA h c dx qs k kd es) (hs:Heap.SameBut dx h h') (e:h'.get? dx=some (dictOf es' kd')):Jic CA h' c dx qs k kd' es' :=
 ⟨(hs.2 _ (apart a.o a.d rfl)).trans a.o,e,fun q hq=>(hs.2 _ (apart (a.p q hq) a.d rfl)).trans (a.p q hq)⟩
theorem AvL.put {a:Addr}(l:AvL av h) (e':h.get? a=some o) (ht:∀ vs n,Nat.beq (tgO (Jb0 vs n)) (tgO o)=false) (hs:Heap.SameBut a h h'):AvL av h':=fun b hb=>(l b hb).imp fun V p=>p.imp fun n e=>(hs.2 b (apart e e' (ht _ n))).trans e
inductive JH2 (a b:Str):List Value->Prop
 | mk (t u:Tok):JH2 a b [.str a t,.str b u]
theorem VDs.pair {a b:Str}(r:VDs av h vs [.str a,.str b]):JH2 a b vs:=by
 cases r.i1 with | mk x r1 =>
 cases r1.one1 with | mk y =>
 obtain ⟨t,rfl⟩:=x.i5
 obtain ⟨u,rfl⟩:=y.i5
 exact ⟨t,u⟩
inductive IsPart (h:Heap) (p:Str×Str):Value->Prop
 | mk (q:Jbj) (e:q.tx=p) (o:h.get? q.a=some q.obj):IsPart h p q.ref
theorem VD.part {v:Value}{p:Str×Str}(r:VD av h v (chD p)):IsPart h p v:=by
 cases r.i7 with | mk na e r1 =>
 cases r1.pair with | mk t u=>exact ⟨⟨_,_,_,t,_,u⟩,rfl,e⟩
theorem Jbj.vd (q:Jbj) (o:h.get? q.a=some q.obj) (na:q.a∉av):VD av h q.ref (chD q.tx):=.tup na o (.cons (.str _ _) (.cons (.str _ _) .nil))
inductive Jsd (h:Heap) (ps:List (Str×Str)):List Value->Prop
 | mk (qs:List Jbj) (e:qs.map Jbj.tx=ps) (p:Jx3 h qs):Jsd h ps (qs.map Jbj.ref)
theorem VDs.parts:∀ {vs:List Value},VDs av h vs (ps.map chD)->Jsd h ps vs:=by
 induction ps with
 | nil=>exact fun r=>r.i0▸⟨[],rfl,nofun⟩
 | cons p ps ih =>
  intro vs r
  cases r.i1 with | mk x r1 =>
  cases x.part with | mk q e o =>
  cases ih r1 with | mk qs e' p=>exact ⟨q::qs,e▸e'▸rfl,fun q' hq=>(List.mem_cons.mp hq).elim (fun z=>z▸o) (p q')⟩
theorem AvL.ntup {q:Jbj}(l:AvL av h) (o:h.get? q.a=some q.obj):q.a∉av:=fun hm=>(l _ hm).elim fun V p=>p.elim fun V e=>apart o e rfl rfl
end
end
section
section
variable {prog:Program}{w:World}{g g':Heap}{T:Ja3}{n:Nat}{sc:Scope}{σ:Sto}{A:Around}{s sA s2:Shared}{ow:Ow}{env:Env}{av:List Addr}{K:Frag}{CA c dx:Addr}{ps qs:List (Str×Str)}{q:Str×Str}{i:Int}{x:Str}{p apos pos spos:Pos}{e:Expr}{k:Nat}
theorem Jbo {h:Heap}(X:K.In g) (k:∀ b o,g.get? b=some o->h.get? b=some o):K.In h:=fun b o e=>k b o (X b o e)
theorem Jl7 {h':Heap}{k' kd:Nat}{qs:List Jbj}{hs:Int}{tk t:Tok}{d:D}{v:Value}{ps':List (Str×Str)}{ps0:List Jbj}(hc:g.get? c=none) (m:Mv g T (Jdj CA av c dx).U s sA) (q:GK g T sA) (a:Jic CA sA.heap c dx ps0 k kd (Jug hs tk i t)) (al:AvL av sA.heap) (p:Jx3 sA.heap qs) (he:qs.map Jbj.tx=ps')
  (h:Heap.SameBut c sA.heap h') (e:h'.get? c=some (Jbz CA dx (qs.map Jbj.ref) k')) {av':List Addr}(r:VD av' h' v d):Jlb (Jdj CA av c dx) g T av' s d (ps',i) v { sA with heap:=h' } :=
 ⟨m.trans (Mv.one (tk:=sA.toks) h a.o Jpp hc (.inl rfl:(Jdj CA av c dx).U c)) fun V hb=>.inl hb,r,⟨qs,k',kd,hs,tk,t,he,a.put p h e⟩,al.put a.o (fun V V=>rfl) h⟩
theorem EvU.accApp (L:LCls K CA) (X:K.In g) (hc:g.get? c=none) (hd:g.get? dx=none) (hm:Jby (.Name x p) "append" apos [e] pos) (hself:σ.lookup x=some (.val (.adr c))) (he:Jer g (Jdj CA av c dx) (ps,i) fun g'=>Ev prog w g' T n sc σ e (chD q)) (hst:∀ env,starEach [e] env=[(false,eval e env)]) (hz:ps.length<=900) :
  EvU prog w g T n sc (Jdj CA av c dx) (ps,i) σ (.Call (.Attribute (.Name x p) "append" apos) [e] [] pos) .none (ps++[q],i):=fun A s ow env hev rm Z=>by
 have ok:=Jbc (CA:=CA) (av:=av) hc hd
 refine Jc2 hm (fun V=>rfl) (Jab Z.F.ec.kind (Z.F.ec.adr hself) fun pl=>?_)
 cases Z.w.1 with | mk qs k kd hs tk t ep a =>
 refine Jpt (Jbo X Z.F.gk.keep) (Jbr a.o a.d) L.ga L.gx L.app PySem.F.type_list_append rfl ?_
 refine callWith_method1 (Ja0 ((EvL.more hst (FmW.over ok Z.F.gk Z.w he) EvL.nil).run A s _ env pos hev rm (Z.F.gk.core .refl) Z.F.ec) fun us sA h₁=>?_) (hst _) rfl
 have xA:=h₁.1.base (g:=g) (Z.F.gk.core .refl)
 have gA:=xA.gk Z.F.gk
 cases h₁.2.one1 with | mk r =>
 cases r.part with | mk q' eq o' =>
 have aA:Jic CA sA.heap c dx qs k kd _:=⟨xA.get' Z.F.gk a.o (Je6 _ _ _ _),xA.get' Z.F.gk a.d (Jaz _ _),a.p.keep fun V V V e=>xA.get' Z.F.gk e (Jdm _ _)⟩
 have hl:(qs.map Jbj.ref).length<=1000:=by rw [List.length_map, <- List.length_map (f:=Jbj.tx),ep]; exact Nat.le_trans hz (by decide)
 refine Jny L (Jbo X gA.keep) aA.o hl fun h' k' hsm hg=>?_
 refine Jl7 hc xA.mv gA aA ((FmW.ext ok Z xA).w.2) (qs:=qs++[q']) (fun z hz=>(List.mem_append.mp hz).elim (aA.p z) fun hz=>List.mem_singleton.mp hz▸o') (by rw [List.map_append,ep, <- eq]; rfl) hsm (by rw [List.map_append]; exact hg) .none
theorem Jlb.next {ι:Type}{W:Wo ι}{i j:ι}{d:D}{v:Value}{s':Shared}{av:List Addr}(ok:W.Ok g) (Z:FmW W g T ow env σ s i) (h:Jlb W g T av s d j v s'):MtU W g T ow env s (.next σ) j .next s':=by
 cases h with | mk m r wj=>exact .next ⟨ow,rfl,(Z.out ok m wj).F,m.sub fun V hb=>.inl (.inr hb),fun V hb=>.inl hb⟩ wj
theorem Jl9 {qs:List Jbj}{ps:List (Str×Str)}(e:qs.map Jbj.tx=ps):(qs.map Jbj.ref).length=ps.length:=by rw [List.length_map, <- e,List.length_map]
theorem JD6 {α:Type}(l r:List α) {lo:Option Int}{j:Nat}(h:lo.elim 0 (clipAt l.length)=j):l.take (sliceBounds lo none none l.length).1.toNat++r++l.drop (max (sliceBounds lo none none l.length).1 (sliceBounds lo none none l.length).2.1).toNat=l.take j++r:=by
 rw [sliceBounds_plain,h]
 have e:l.drop (max (j:Int) (l.length:Int)).toNat=[]:=List.drop_of_length_le (Int.toNat_le_toNat (Int.le_max_right (j:Int) (l.length:Int)))
 exact (congrArg (l.take j++r ++ ·) e).trans (List.append_nil _)
inductive JH0 (g:Heap) (T:Ja3) (lo:Option Int) (s:Shared):Value->Shared->Prop
 | mk {a:Addr}{s':Shared}(t:Option (Int×Tok)) (e:t.map (·.1)=lo) (x:Ext g T s s') (i:s'.heap.IsSliceOf a (partValue t) .none .none):JH0 g T lo s (.ref a) s'
theorem JB8 {lo:Option Int}{le:Option Expr}(hl:EvP prog w g T n sc σ le lo) (he:env.scope=sc) (rm:Rm n A) (q:GK g T s) (hc:EC av env σ s.heap):wpAny (model prog w) A (eval (.Slice le none none pos) env) (JH0 g T lo s) NoE s :=
 wpAny_Slice (Ja0 (Jh2 hl he rm q hc) fun v s2 h=>wpAny_evalPart_none (wpAny_evalPart_none (by cases h with | mk t e x=>exact ⟨t,e,x.trans (.push _),.new ..⟩)))
theorem SxU.accSet {lo:Option Int}{le:Option Expr}{ve:Expr}{j:Nat}(L:LCls K CA) (X:K.In g) (hc:g.get? c=none) (hd:g.get? dx=none) (hself:σ.lookup x=some (.val (.adr c))) (hv:Jer g (Jdj CA av c dx) (ps,i) fun g'=>Ev prog w g' T n sc σ ve (.lst (qs.map chD)))
  (hl:Jer g (Jdj CA av c dx) (ps,i) fun g'=>EvP prog w g' T n sc σ le lo) (hcp:NoC ve) (hz:ps.length<=1000) (hz':qs.length<=1000) (hj:lo.elim 0 (clipAt ps.length)=j) :
  SxU prog w g T n sc (Jdj CA av c dx) (ps,i) σ (.Assign [.Subscript (.Name x p) (.Slice le none none spos) apos] ve pos) (.next σ) (ps.take j++qs,i):=fun A s ow env hev hoc rm Z=>by
 have ok:=Jbc (CA:=CA) (av:=av) hc hd
 have cr:=Z.F.gk.core (sA:=s) .refl
 refine wpAny_Assign_Subscript (Ja0 (FmW.over ok Z.F.gk Z.w hv A s _ env hev rm cr Z.F.ec) fun v sA h₁=>?_) (hcp _ _ _)
 have gA:=h₁.1.gk cr
 refine Jab Z.F.ec.kind ((Z.F.ec.ext h₁.1 cr).adr hself) (Ja0 (JB8 (FmW.over ok Z.F.gk Z.w hl) hev rm gA (Z.F.ec.ext h₁.1 cr)) fun vA s2 h₂=>?_)
 cases h₂ with | mk tA eA xB si =>
 have x:=(h₁.1.trans xB).base (g:=g) cr
 have Z':=Z.ext ok x
 cases (xB.vd gA h₁.2).i8 with | mk na eo r1 =>
 cases r1.parts with | mk rs er pr =>
 cases Z'.w.1 with | mk us k kd hs tk t ep a =>
 have hlu:=Jl9 ep
 refine Jjo L (Jbo X Z'.F.gk.keep) a.o si (eA▸Jel tA) .none eo (apart eo a.o rfl) (hlu▸hz) (by rw [Jl9 er]; exact hz') fun h' k' hsm hg=>?_
 rw [JD6 _ _ (hlu▸hj), <- List.map_take, <- List.map_append] at hg
 exact (Jl7 (av':=[]) hc x.mv Z'.F.gk a Z'.w.2 (fun z hz=>(List.mem_append.mp hz).elim (fun q=>a.p z (List.mem_of_mem_take q)) (pr z)) (by rw [List.map_append,List.map_take,ep,er]) hsm hg .none).next ok Z
end
end
section
structure Jh0 (K:Frag) (CA:Addr) (cd:ClassData):Prop where
 sa:findIn K (.ref CA) "__setattr__" = some (some (.builtin "object.__setattr__"))
 cls:clsIn K CA=some cd
 mro:cd.mro=[.ref CA,.type "list",.type "object"]
 tak:takerIn K CA isz=some none
 dict:cd.hasDict=true
structure Jia (K:Frag) (CA:Addr):Prop extends LCls K CA where
 nsz:findIn K (.ref CA) isz=some none
inductive JEi:List DictEntry->Prop
 | nil:JEi []
 | one (hs:Int) (tk:Tok) (i:Int) (t:Tok):JEi (Jug hs tk i t)
section
variable {prog:Program}{w:World}{g g':Heap}{T:Ja3}{n:Nat}{sc:Scope}{σ:Sto}{A:Around}{s sA s2:Shared}{ow:Ow}{env:Env}{av:List Addr}{K:Frag}{CA c dx:Addr}{ps:List (Str×Str)}{i j:Int}{x:Str}{p p0 apos pos:Pos}{e:Expr}{E:Value->Shared->Prop}{k kd:Nat}{cd:ClassData}{es:List DictEntry}{qs:List Jbj}
theorem Jxw {t:Tok}{Q:Unit->Shared->Prop}(Y:Jh0 K CA cd) (X:K.In s.heap) (a:Jic CA s.heap c dx qs k kd es) (hes:JEi es)
  (h:∀ h' kd' hs tk,Heap.SameBut dx s.heap h'->h'.get? dx=some (dictOf (Jug hs tk j t) kd')->Q () { s with heap:=h',toks:=s.toks+2 }):wpAny (model prog w) A (setAttr (.ref c) isz (.int j t)) Q E s:=by
 refine Jlo (l:=[.type "list",.type "object"]) X (Jbr a.o a.d) rfl Y.sa Y.cls Y.mro (Jk9 _) (by rw [Y.mro]; rfl) Y.tak Y.dict ?_ ?_ fun h' tk hs hg=>?_
 all_goals cases hes
 ·exact rfl
 ·exact rfl
 ·exact Nat.zero_le _
 ·exact (by decide:1<=900)
 ·exact h _ _ _ _ hs hg
 ·exact h _ _ _ _ hs hg
inductive JH1 (g:Heap) (T:Ja3) (CA c dx:Addr) (qs:List Jbj) (k:Nat) (av:List Addr) (j:Int) (s:Shared):Flow->Shared->Prop
 | mk {s':Shared}(kd:Nat) (hs:Int) (tk t:Tok) (m:Mv g T (fun b=>b=dx) s s') (a:Jic CA s'.heap c dx qs k kd (Jug hs tk j t)) (l:AvL av s'.heap):JH1 g T CA c dx qs k av j s .next s'
theorem Jpe (Y:Jh0 K CA cd) (X:K.In g) (hd:g.get? dx=none) (hes:JEi es) (hself:σ.lookup x=some (.val (.adr c))) (hcp:NoC e) (F:Fm g T av ow env σ s) (he:wpAny (model prog w) A (eval e env) (Out g T (ow.adr++av) s (.int j)) NoE s) (a:Jic CA s.heap c dx qs k kd es) (l:AvL av s.heap) :
  wpAny (model prog w) A (exec (.Assign [.Attribute (.Name x p0) isz apos] e pos) env) (JH1 g T CA c dx qs k av j s) NoE s:=by
 refine plainObj_wpAny_Assign_Attribute (Ja0 he fun v sA h₁=>?_) (hcp _ _ _)
 have FA:=F.ext h₁.1
 have aA:Jic CA sA.heap c dx qs k kd es:=⟨h₁.1.get' F.gk a.o (Je6 _ _ _ _),h₁.1.get' F.gk a.d (Jaz _ _),a.p.keep fun V V V e=>h₁.1.get' F.gk e (Jdm _ _)⟩
 have lA:AvL av sA.heap:=fun b hb=>(l b hb).imp fun V z=>z.imp fun V e=>h₁.1.get' F.gk e (Jai _ _)
 obtain ⟨t,rfl⟩:=h₁.2.i4
 refine Jab FA.ec.kind (FA.ec.adr hself) (Jxw Y (Jbo X FA.gk.keep) aA hes fun h' kd' hs tk hsm hg=>?_)
 exact ⟨kd',hs,tk,t,Mv.trans h₁.1.mv (Mv.one (W:=fun b=>b=dx) hsm aA.d Jhk hd rfl) fun V hb=>.inl hb,aA.putD hsm hg,lA.put aA.d (fun V V=>rfl) hsm⟩
theorem SxU.accIsz (Y:Jh0 K CA cd) (X:K.In g) (hc:g.get? c=none) (hd:g.get? dx=none) (hself:σ.lookup x=some (.val (.adr c))) (hcp:NoC e) (he:Jer g (Jdj CA av c dx) (ps,i) fun g'=>Ev prog w g' T n sc σ e (.int j)) :
  SxU prog w g T n sc (Jdj CA av c dx) (ps,i) σ (.Assign [.Attribute (.Name x p0) isz apos] e pos) (.next σ) (ps,j):=fun A s ow env hev hoc rm Z=>by
 have ok:=Jbc (CA:=CA) (av:=av) hc hd
 cases Z.w.1 with | mk qs k kd hs tk t ep a =>
 refine Ja0 (Jpe (j:=j) Y X hd (.one ..) hself hcp Z.F (Ev.core (FmW.over ok Z.F.gk Z.w he) hev rm Z.F.gk Z.F.ec) a Z.w.2) fun fl s' h=>?_
 cases h with | mk kd hs tk t m a l=>exact (Jlb.mk (W:=Jdj CA av c dx) (j:=(ps,j)) (av:=[]) (d:=.none) (v:=.none) (m.sub fun V hb=>.inl (.inr hb)) .none ⟨⟨qs,k,kd,hs,tk,t,ep,a⟩,l⟩).next ok Z
noncomputable abbrev Js8 (o:Expr) (m:Str) (pos:Pos):Prop:=∀ env,eval (.Attribute o m pos) env=(do
 let v <- eval o env
 standAt pos.atName
 let r <- holding [v] (getAttr v m true)
 letTemporaryGo o v r
 pure r)
noncomputable abbrev JH6 (prog:Program) (w:World) (g:Heap) (T:Ja3) (c:Addr) (m:Str) (d:D):Prop:=∀ {A:Around}{s:Shared},(∀ b o,g.get? b=some o->s.heap.get? b=some o)->wpAny (model prog w) A (getAttr (.ref c) m true) (Out g T [] s d) NoE s
theorem Ev.attr {o:Expr}{m:Str}{d:D}(hi:Js8 o m pos) (ho:Ev prog w g T n sc σ o (.adr c)) (hg:JH6 prog w g T c m d) (hd:Flat d):Ev prog w g T n sc σ (.Attribute o m pos) d:=fun A s av env he rm q hc=>
 Attribute_any_ (Ja0 (ho A s av env he rm q hc) fun v sA h₁=>by
  cases h₁.2.i1
  exact Ja0 (hg (h₁.1.gk q).keep) fun v s2 h₂=>⟨h₁.1.trans h₂.1,hd _ _ _ h₂.2⟩) (hi env)
theorem Jul (L:Jia K CA) (X:K.In g) (at_:Jd2 CA g c dx ps i):JH6 prog w g T c isz (.int i):=fun k=>by
 cases at_ with | mk qs kk kd hs tk t ep a=>exact Jgo (Jbo X k) (Jbr (k _ _ a.o) (k _ _ a.d)) L.ga L.gx (Jeq L.toLCls (Jbo X k) (k _ _ a.o)) (findObj_own L.hd L.nsz (by rfl) (by rfl)) rfl Jao
theorem FmW.lists {ι:Type}{W:Wo ι}{i:ι}(Z:FmW W g T ow env σ s i) (l:AvL W.av s.heap):AvL (ow.adr++W.av) s.heap:=fun a ha=>(List.mem_append.mp ha).elim (Z.F.isl a) (l a)
end
end
section
section
variable {prog:Program}{w:World}{A:Around}{E:Value->Shared->Prop}{s:Shared}{K:Frag}{CA c dx I:Addr}{vs:List Value}{k j:Nat}{qs:List Jbj}{h h':Heap}
theorem Jvu {Q:Value->Shared->Prop}(F:LCls K CA) (X:K.In s.heap) (ho:s.heap.get? c=some (Jbz CA dx vs k))
  (hQ:Q (.ref s.heap.objs.size) { s with heap:=s.heap.push { cls:=.type "list_iterator",data:=.fields #[.ref c,.int 0 0] } }) :
  wpAny (model prog w) A (pyIter (.ref c)) Q E s:=by
 have ht:Looks (model prog w) s.heap (typeOf (.ref c)) (.ref CA):=(Looks.ld ho).andThen .now
 have hl:=looks_findIn (M:=model prog w) X F.it
 unfold pyIter
 refine wpAny_bind (wpAny_bind (ht.here (hl.here ?_)))
 show wpAny _ _ (callSpecialIfBoundUnlessNone? (.ref c) "__iter__" _ >>= _) _ _ _
 refine wpAny_bind ?_
 unfold callSpecialIfBoundUnlessNone? bindSpecialIfBound?
 refine wpAny_holding (wpAny_bind (wpAny_bind (wpAny_bind (ht.here (hl.here ?_)))))
 dsimp only
 rw [PySem.F.slot_list_iter.bind]
 refine wpAny_bind (wpAny_askSetting (wpAny_ite ?_))
 have fin0:wpAny (model prog w) A (call (.builtin "list.__iter__") [.ref c]) (fun v s'=>wpAny (model prog w) A (specialOf v "__next__") (fun r s''=>r.isSome=true/\Q v s'') E s') E s:=by
  refine Jef Jza (by decide +kernel:splitId "list.__iter__" = some ("list", "__iter__")) PySem.F.slot_list_iter.plain PySem.F.entry_list_iter (Jeq F X ho) (PySem.F.args_list_iter_1 _) ?_
  show wpAny _ _ (do ret (<- newFields "list_iterator" [.ref c,rawInt 0])) _ _ s
  refine wpAny_bind (wpAny_newObj_type (wpAny_pure ⟨_,rfl,?_⟩))
  exact wpAny_specialOf (T := "list_iterator") ⟨_,Heap.get?_push_size _ rfl,rfl⟩ slot_listiter_next.lookup ⟨rfl,hQ⟩
 have fin:∀ {refuse:Sem Value}{k:Option Value->Sem Value},(∀ v,k (some v)=(specialOf v "__next__" >>= fun r=>match r with
   | none=>(do rule "iter.non-iterator"; raiseError "TypeError" s!"iter() returned non-iterator of type '{← typeNameOf v}'")
   | some _=>pure v))->wpAny (model prog w) A (if (Value.builtin "list.__iter__" == Value.none)=true then (refuse >>= fun v=>pure (some v)) else (call (.builtin "list.__iter__") [.ref c] >>= fun v=>pure (some v))) (fun a s'=>wpAny (model prog w) A (k a) Q E s') E s:=by
  intro refuse k hk
  rw [if_neg (by decide)]
  refine wpAny_bind (wpAny_mono fin0 (fun v s' h'=>wpAny_pure ?_) fun V V h'=>h')
  rw [hk]
  refine wpAny_bind (wpAny_mono h' (fun r s'' hr=>?_) fun V V h'=>h')
  cases r with
  | none=>exact nomatch hr.1
  | some r=>exact wpAny_pure hr.2
 split
 ·exact wpAny_bind (wpAny_pure (wpAny_pure (fin fun v=>rfl)))
 ·exact wpAny_tryCatch (wpAny_bind (wpAny_pure (wpAny_pure (fin fun v=>rfl))))
theorem Jmj {Q:Option Value->Shared->Prop}(hit:h.IsListIter I c j) (e:s.heap=h) (ho:h.get? c=some (Jbz CA dx vs k))
  (hx:∀ h',Heap.SameBut I h h'->∀ x,vs[j]?=some x->h'.IsListIter I c (j+1)->Q (some x) { s with heap:=h' }) (hh:A.handled=none) (h0:∀ h',Heap.ExtBut I h h'->vs[j]?=none->Q none { s with heap:=h' }) :
  wpAny (model prog w) A (pyNext (.ref I)) Q E s:=by
 subst e
 obtain ⟨o,hI,hc,hd⟩:=id hit
 unfold pyNext
 refine wpAny_bind (wpAny_attempt (wpAny_callSpecial?_slot (name:=Str.ofString "__next__") hit.typeIs slot_listiter_next (wpAny_call_entry slot_listiter_next hit.typeIs entry_listiter_next ?_ (args_listiter_next _))))
 show wpAny _ _ (field (.ref I) 0 >>= _) _ _ s
 refine wpAny_bind (wpAny_field hI hd (x:=.ref c) rfl ?_)
 show wpAny _ _ (if (Value.ref c==Value.none)=true then _ else _) _ _ s
 rw [if_neg (show ¬ ((Value.ref c==Value.none)=true) from Bool.false_ne_true)]
 show wpAny _ _ (field (.ref I) 1 >>= _) _ _ s
 refine wpAny_bind (wpAny_field hI hd (x:=.int j 0) rfl ?_)
 show wpAny _ _ (seqItems? (.ref c) >>= _) _ _ s
 refine wpAny_bind (wpAny_seqItems ho rfl ?_)
 show wpAny _ _ (match vs.toArray[j]? with | some x=>_ | none=>_) _ _ s
 rw [List.getElem?_toArray]
 cases e:vs[j]? with
 | some x =>
  exact wpAny_bind (wpAny_setField hI hd (by simp) (wpAny_pure ⟨x,rfl,wpAny_pure (hx _ (Heap.SameBut.update ..) x e ⟨_,Heap.get?_update_self _ hI (Obj.isFreed_of_fields (Obj.data_mapFields hd _)),(Obj.cls_mapFields ..).trans hc,by
   rw [Obj.data_mapFields hd]; rfl⟩)⟩))
 | none =>
  refine wpAny_bind (wpAny_rule (wpAny_bind (wpAny_setField hI hd (by simp) ?_)))
  show wpAny _ _ (newExc (.type "StopIteration") [] >>= _) _ _ _
  refine wpAny_bind ?_
  unfold newExc newTuple
  refine wpAny_bind (wpAny_newObj_type ?_ (by size_fits))
  refine wpAny_bind (m:=firstArgMember _ _) (wpAny_of_eq (a:=Value.none) (by first | rfl | (simp only [firstArgMember]; rfl)) ?_)
  refine wpAny_newObj_type ?_ (by size_fits)
  unfold raiseNew
  refine wpAny_bind (wpAny_handled ?_)
  rw [show A.in1.handled=none from hh]
  refine wpAny_bind (wpAny_pure (wpAny_throw ?_))
  refine wpAny_bind (wpAny_isInstance (T := "StopIteration") (b:=true) ⟨_,Heap.get?_push_size _ rfl,rfl⟩ isSubtype_stop ?_)
  exact wpAny_pure (h0 _ (((Heap.SameBut.update ..).extBut.push _).push _) e)
structure Jgf (CA c dx:Addr) (qs:List Jbj) (k:Nat) (I:Addr) (j:Nat) (h:Heap):Prop where
 it:h.IsListIter I c j
 o:h.get? c=some (Jbz CA dx (qs.map Jbj.ref) k)
 p:Jx3 h qs
theorem Jgf.off {b:Addr}(a:Jgf CA c dx qs k I j h) (hb:b=c\/∃ q∈qs,q.a=b):b≠I:=fun z=>by
 obtain ⟨o,e,hc,hd⟩:=a.it
 rcases hb with rfl | ⟨q,hq,rfl⟩
 ·exact Jbe tgB ((congrArg Obj.data (Jav (z▸a.o) e)).trans hd) rfl
 ·exact Jbe tgB ((congrArg Obj.data (Jav (z▸a.p q hq) e)).trans hd) rfl
theorem Jgf.on (a:Jgf CA c dx qs k I j h) {j':Nat}(hk:∀ b,b≠I->∀ o,h.get? b=some o->h'.get? b=some o) (i:h'.IsListIter I c j'):Jgf CA c dx qs k I j' h':=⟨i,hk c (a.off (.inl rfl)) _ a.o,fun q hq=>hk _ (a.off (.inr ⟨q,hq,rfl⟩)) _ (a.p q hq)⟩
theorem Js0 (hh:A.handled=none) :
  WalksU prog w A I (I::c::qs.map Jbj.a) [I] qs.length (fun i vals=>∃ q,qs[i]?=some q/\vals = #[.str q.x q.t,.str q.y q.u]) (Jgf CA c dx qs k I) (fun i T h=>Jgf CA c dx qs k I (i+1) h/\T≠I) where
 sub:=fun b hb=>List.mem_singleton.mp hb▸.head _
 frame:=fun i h h' st hk=>⟨st.it.at fun o e=>hk I (.head _) o e,hk c (.tail _ (.head _)) _ st.o,fun q hq=>hk _ (.tail _ (.tail _ (List.mem_map.mpr ⟨q,hq,rfl⟩))) _ (st.p q hq)⟩
 item:=fun i s Q E hi st hQ=>Jmj st.it rfl st.o (fun h' hs x hx i'=>by
  rw [List.getElem?_map] at hx
  obtain ⟨q,hq,rfl⟩:=Option.map_eq_some_iff.mp hx
  have hm:=List.mem_of_getElem? hq
  have st':=st.on (fun b hb o e=>(hs.2 b hb).trans e) i'
  exact hQ _ _ h' s.toks ⟨q,hq,rfl⟩ ⟨_,st'.p q hm,rfl,_,rfl⟩ ⟨st',st.off (.inr ⟨q,hm,rfl⟩)⟩ fun b o hb e=>(hs.2 b fun q=>hb (q▸.head _)).trans e) hh fun h' hs hx=>by
  rw [List.getElem?_map,List.getElem?_eq_getElem hi] at hx
  exact nomatch hx
 go:=fun elts kk pos i T s Q E hm hQ=>by
  obtain ⟨o,ho,hc,hd⟩:=hm.1.it
  unfold letOwnedTupleGo
  refine wpAny_bind (wpAny_load ho ?_)
  rw [hc,hd]
  show wpAny _ A (if (_&&_)=true then _ else _) Q E s
  rw [if_neg (by intro z; simp at z)]
  exact wpAny_pure (hQ _ hm.1 fun V V V e=>e)
 apart:=fun i T h hm hT=>hm.2 (List.mem_singleton.mp hT)
 done:=fun s Q E st hQ=>Jmj st.it rfl st.o (fun h' hs x hx V=>nomatch (List.getElem?_eq_none (by rw [List.length_map]; exact Nat.le_refl _)).symm.trans hx) hh fun h' hs V=>hQ h' s.toks fun b o hb e=>hs b o (fun q=>hb (q▸.head _)) e
 self:=fun i s Q E st hQ=>wpAny_pyIter_listiter st.it hQ
end
end
section
section
variable {prog:Program}{w:World}{g:Heap}{T:Ja3}{K:Frag}{n:Nat}{s s' s0:Shared}{CA c dx a:Addr}{ps:List (Str×Str)}{i:Int}{av:List Addr}{ow:Ow}{env:Env}{σ:Sto}{A:Around}{qs:List Jbj}{Fv:Nat->Value->Prop}{W:Addr->Prop}
theorem Jv3 {P c':Addr}{q:Str}{tab:Array Value}{h':Heap}{tk:Nat}{line col:Int}{t1 t2:Tok}(hone:∀ P q q',(P,q)∈T.tabs->(P,q')∈T.tabs->q=q') (hm:(P,q)∈T.tabs) (hP:s.heap.get? P=some (tabObj tab)) (htr:TriplesOk tab.toList) (hcs:∀ pos cv,codeAmong pos tab.toList=some cv->s.heap.CodeRec cv q)
  (hx:Heap.ExtBut P s.heap h') (hrec:h'.CodeRec (.ref c') q) (htb:h'.get? P=some (tabObj (tab ++ #[Value.int line t1,Value.int col t2,Value.ref c']))) (htr':TriplesOk (tab ++ #[Value.int line t1,Value.int col t2,Value.ref c']).toList) :
  Ext g T s { s with heap:=h',toks:=tk }:=by
 refine ⟨rfl,rfl,fun b ob e hoff=>hx b ob (fun z=>hoff _ hm z.symm) e,fun Q=>⟨fun b ob e=>hx b ob (fun z=>nos (Q.off _ hm) (z▸e)) (Q.keep b ob e),fun p hp=>?_,Q.off,Q.bare⟩⟩
 by_cases hpP:p.1=P
 ·cases hone _ _ _ (hpP▸hp:(P,p.2)∈T.tabs) hm
  refine ⟨_,hpP▸htb,htr',fun pos cv hc=>?_⟩
  rw [Array.toList_append] at hc
  exact (Jgv htr hc).elim (fun h=>Jfx (hcs pos cv h) fun c o vs t e2 e3 e4=>hx c o (fun z=>Jci htr (Jav (z▸e2) hP▸e3) e4) e2) fun e=>e▸hrec
 ·exact (Q.tabs p hp).off hP htr hpP fun b o n e=>hx b o n e
inductive Cod (g:Heap) (T:Ja3) (s:Shared) (s':Shared):Prop
 | mk (x:Ext g T s s') (e:s'.gens=s.gens)
theorem Jmr {q:Str}{pos:Pos}{scope:Scope}(hg:GK g T s) (mk:Jb5 g T env.code q):wpAny (model prog w) A (genexprCode env pos q scope) (fun V s'=>Cod g T s s') NoE s:=by
 cases mk with | mk mg c P hcode hns hcd hb hm one =>
 obtain ⟨tab,hP,htr,hcs⟩:=hg.tabs (P,q) hm
 have hcd':=hcd.keeps hg.keep
 cases hf:codeAmong pos tab.toList with
 | none=>exact wpAny_genexprCodeX hcode (hcd'.code hP htr) (hcd'.tab hP) hf fun c' h' tk hx hge hlt hic hrec htb V=>⟨Jv3 one hm hP htr hcs hx hrec htb.2 (by rw [Array.toList_append]; exact TriplesOk_snoc _ _ _ _ htr),rfl⟩
 | some cv=>exact wpAny_genexprCode_hit hcode (hcd'.code hP htr) hf ⟨.refl,rfl⟩
theorem Joh {q:Str}{Q:Addr->Shared->Prop}(hg:GK g T s) (mk:Jb5 g T env.code q) (hge:env.globals=mainGlobals) (h:Q builtinsNs s):wpAny (model prog w) A (builtinsFor env.globals env.builtins) Q NoE s:=by
 cases mk with | mk mg c P hcode hns hcd hb hm one =>
 obtain ⟨bm,o,b1,b2,b3,b4,b5,b6,b7,b8⟩:=hb
 rw [hge]
 exact wpAny_builtinsFor (hns.keeps hg.keep) b1 b2 (hg.keep _ _ b5) b6 b7 b8 h
theorem Jy3 {a:Array GenState}{i:Nat}{x y:GenState}(h:a[i]?=some x):(a.push y)[i]?=a[i]?:=by
 rw [Array.getElem?_push,if_neg (Nat.ne_of_lt (Array.getElem?_eq_some_iff.mp h).1)]
theorem Jun {a b:Array GenState}{st:GenState}{n i:Nat}(G:GenOnlyQ n a b) (hi:i≠n) (h:a[i]?=some st):b[i]?=some st:=G.elim (fun e=>e▸h) fun p=>(p.1.2 i hi).trans h
inductive Jeh (prog:Program) (w:World) (g:Heap) (T:Ja3) (A:Around) (s0 s:Shared) (a:Addr) (n:Nat) (Fv:Nat->Value->Prop):Prop
 | mk (fp wr:List Addr) (G:Array GenState->Array GenState->Prop) (P:Nat->Value->Prop) (St:Nat->Shared->Prop) (W:WalksS prog w A.in4 a fp wr G n P St) (st:St 0 s) (lt:∀ b∈fp,b<s.heap.objs.size) (val:∀ j v,P j v->Fv j v)
  (aft:∀ s',(∀ b o,b∉wr->s.heap.get? b=some o->s'.heap.get? b=some o)->G s.gens s'.gens->s'.drawn=s.drawn->s'.os=s.os->Ext g T s0 s') (ty:∀ i s',St i s'->s'.TypeIs (.ref a) "generator") (m:a∈fp)
theorem Jeh.tok (R:Jeh prog w g T A s0 s a n Fv) (k:Nat):Jeh prog w g T A s0 { s with toks:=s.toks+k } a n Fv:=by
 cases R with | mk fp wr G P St W st lt val aft ty m=>exact ⟨fp,wr,G,P,St,W,W.frame 0 s s.heap _ st (Nat.le_add_right ..) fun b V o e=>e,lt,val,aft,ty,m⟩
theorem Jeh.imp {Fv':Nat->Value->Prop}(R:Jeh prog w g T A s0 s a n Fv) (h:∀ j v,Fv j v->Fv' j v):Jeh prog w g T A s0 s a n Fv':=by
 cases R with | mk fp wr G P St W st lt val aft ty m=>exact ⟨fp,wr,G,P,St,W,st,lt,fun j v q=>h j v (val j v q),aft,ty,m⟩
theorem Jkf (m:Nat):passing (fun V=>true) m 0=List.range m:=by unfold passing; rw [List.drop_zero]; exact List.filter_eq_self.mpr fun V V=>rfl
structure JG9 (scope:Scope) (xa xb:Str):Prop where
 co:scope.isCoroutine=false
 clo:∀ env,closureFor scope env=pure []
 cell:∀ y∈scope.names,y.2≠.cell
 it:scope.names.lookup (".0" : Str)=some NameKind.local
 la:scope.names.lookup xa=some .local
 lb:scope.names.lookup xb=some .local
 ne:xa≠xb
 kind:scope.kind=.function
structure Jsb (g:Heap) (scope:Scope) (xa xb:Str) (q:Jbj) (env genv:Env) (s:Shared):Prop where
 ec:∀ x v,x=xa/\v=Value.str q.x q.t\/x=xb/\v=.str q.y q.u->Jay x=true->Jat genv s.heap x v
 sc:genv.scope=scope
 glob:genv.globals=env.globals
 blt:genv.builtins=builtinsNs
 keep:∀ b o,g.get? b=some o->s.heap.get? b=some o
theorem Jw6 {xs:Str}{p1 pa pb pt pos:Pos}{xa xb:Str}{kt:Nat}{elt:Expr}{scope:Scope}{Fv:Jbj->Value->Prop}{k kd:Nat}{es:List DictEntry}(S:JG9 scope xa xb) (F:Fm g T av ow env σ s) (L:LCls K CA) (X:K.In g) (hlim:g.NoLimit) (rm:Rm n A) (hself:σ.lookup xs=some (.val (.adr c)))
  (ha:Jic CA s.heap c dx qs k kd es) (mk:Jb5 g T env.code (env.qual ++ "<genexpr>"))
  (helt:∀ (A':Around) E' q (s2:Shared) genv,A'.handled=none->q∈qs->Jsb g scope xa xb q env genv s2->wpAny (model prog w) A' (eval elt genv) (fun y s3=>Fv q y/\Keeps s2 s3) E' s2) :
  wpAny (model prog w) A (eval (.GeneratorExp elt [⟨.Tuple [.Name xa pa,.Name xb pb] kt pt,.Name xs p1,[],0⟩] scope pos) env) (fun v s'=>∃ a,v=.ref a/\Ext g T s s'/\Jeh prog w g T A s s' a qs.length fun j v=>∃ q,qs[j]?=some q/\Fv q v) NoE s:=by
 have hg:=F.gk
 refine wpAny_GeneratorExp_walksQT rm.hand S.co (S.clo _) S.cell S.it S.la S.lb S.ne S.kind (by have:=rm.depth; lia) ?_ (fun x=>by unfold genFold foldedSetIterable; rfl)
 refine Jab F.ec.kind (F.ec.adr hself) (Jvu L (Jbo X hg.keep) ha.o ?_)
 have xB:Ext g T s { s with heap:=s.heap.push { cls:=.type "list_iterator",data:=.fields #[.ref c,.int 0 0] } }:=.push _
 have st2:Jgf CA c dx qs k s.heap.objs.size 0 (s.heap.push { cls:=.type "list_iterator",data:=.fields #[.ref c,.int 0 0] }):=⟨⟨_,Heap.get?_push_size _ rfl,rfl,rfl⟩,Heap.get?_push_of_some _ ha.o,fun q hq=>Heap.get?_push_of_some _ (ha.p q hq)⟩
 generalize hs2:({ s with heap:=s.heap.push { cls:=.type "list_iterator",data:=.fields #[.ref c,.int 0 0] } }:Shared)=s2 at *
 have st2:Jgf CA c dx qs k s.heap.objs.size 0 s2.heap:=hs2▸st2
 have gens2:s2.gens=s.gens:=hs2▸rfl
 have gQ:=xB.gk hg
 refine ⟨hlim.keeps gQ.keep,Ja0 (Jmr gQ mk) fun code s3 h₃=>?_⟩
 cases h₃ with | mk x3 gens3 =>
 have gC:=x3.gk gQ
 have x:=xB.trans x3
 have kC:∀ b o,s2.heap.get? b=some o->NT o->s3.heap.get? b=some o:=fun b o e nt=>x3.get' gQ e nt
 have st3:Jgf CA c dx qs k s.heap.objs.size 0 s3.heap:=⟨st2.it.imp fun o z=>⟨kC _ _ z.1 (by rintro ps rfl; exact nomatch z.2.1),z.2⟩,kC _ _ st2.o (Je6 _ _ _ _),fun q hq=>kC _ _ (st2.p q hq) (Jdm _ _)⟩
 have hst:∀ b∈s.heap.objs.size::c::qs.map Jbj.a,b<s3.heap.objs.size:=fun b hb=>by
  rcases List.mem_cons.mp hb with rfl | hb
  ·exact st3.it.elim fun o z=>Heap.lt_size z.1
  ·rcases List.mem_cons.mp hb with rfl | hb
   ·exact Heap.lt_size st3.o
   ·obtain ⟨q,hq,rfl⟩:=List.mem_map.mp hb; exact Heap.lt_size (st3.p q hq)
 have old:∀ b o,g.get? b=some o->b≠s.heap.objs.size:=fun b o e z=>Nat.lt_irrefl _ (Heap.lt_size (z▸hg.keep b o e))
 refine Joh gC mk F.ec.glob ⟨s.heap.objs.size,_,_,_,_,_,_,(fun V=>true),(fun i y=>∃ q,qs[i]?=some q/\Fv q y),rfl,fun A' hA=>Js0 hA,fun i vals hp=>hp.elim fun q z=>⟨_,_,z.2⟩,st3,hst,hlim.keeps gC.keep,?_,fun href hkp=>⟨fun A' E' j va vb s5 mQ hA hp hn ha hb hk=>?_,fun A' E' j va vb s5 mQ hA hp V hn ha hb hk=>?_⟩,fun a h₅ tk gs hgs hlt hsz hk W G0=>?_⟩
 ·obtain ⟨mc,⟨o,_,_,e,_⟩,_⟩:=hlim
  exact fun hm=>old _ o e (List.mem_singleton.mp hm)
 ·rw [List.forIn_nil]
  exact wpAny_pure ⟨rfl,_,_,rfl,fun V V e=>e⟩
 ·obtain ⟨q,hq,e⟩:=hp
  cases e
  refine wpAny_mono (helt A' E' q s5 _ hA (List.mem_of_getElem? hq) ⟨?_,rfl,rfl,rfl,fun b o e=>?_⟩) (fun y s6 h=>⟨⟨q,hq,h.1⟩,h.2⟩) fun V V e=>e
  ·rintro x v (⟨rfl,rfl⟩ | ⟨rfl,rfl⟩) ok
   ·exact .loc ok S.la mQ hn ha
   ·exact .loc ok S.lb mQ hn hb
  ·have e3:=gC.keep b o e
   exact hk b (List.mem_range.mpr (Heap.lt_size e3)) (fun z=>old b o e (List.mem_singleton.mp z)) o (hkp b o e3)
 ·rw [Jkf,List.length_range] at W
  have x5:Ext g T s { s3 with gens:=s3.gens.push gs,toks:=tk,heap:=h₅ }:=x.trans ⟨rfl,rfl,fun b o e V=>hk b o e,fun Q=>⟨fun b o e=>hk b o (Q.keep b o e),fun p hp=>(Q.tabs p hp).keeps hk,Q.off,⟨fun y hy=>(Array.mem_push.mp hy).elim (Q.bare.bare y) fun z=>z▸hgs,fun i st hi=>(Jy3 (Q.bare.keep i st hi)).trans (Q.bare.keep i st hi)⟩⟩⟩
  refine ⟨a,rfl,x5,_,_,_,_,_,W,G0,fun b hb=>?_,fun j v hv=>?_,fun s' mh mg md mo=>?_,fun i s' st=>st.1.typeIs,.head _⟩
  ·show (b:Nat)<h₅.objs.size
   have e1:(h₅.objs.size:Nat)=(a:Nat)+1:=hsz
   have e2:(s3.heap.objs.size:Nat)<(a:Nat):=hlt
   rw [e1]
   rcases List.mem_cons.mp hb with q | hb
   ·exact q▸Nat.lt_succ_self _
   ·exact Nat.lt_succ_of_lt ((List.mem_cons.mp hb).elim (fun q=>q▸e2) fun hb=>Nat.lt_trans (List.mem_range.mp hb) e2)
  ·obtain ⟨i',hi',q,hq,hF⟩:=hv
   obtain ⟨_,e⟩:=List.getElem?_eq_some_iff.mp hi'
   rw [List.getElem_range] at e
   exact ⟨q,e▸hq,hF⟩
  ·have hz:∀ b,(b=s3.heap.objs.size\/b=s.heap.objs.size)->s.heap.get? b=none:=fun b hb=>hb.elim (fun z=>z▸x.none hg (Ja8 _)) fun z=>z▸Ja8 _
   have hw:∀ b,b∈s3.heap.objs.size::[s.heap.objs.size]->b=s3.heap.objs.size\/b=s.heap.objs.size:=fun b hb=>(List.mem_cons.mp hb).imp id List.mem_singleton.mp
   refine ⟨md.trans x5.dr,mo.trans x5.os,fun b o e ho=>mh b o (fun hb=>nos (hz b (hw b hb)) e) (x5.keep b o e ho),fun Q=>?_⟩
   have Q5:=x5.gk Q
   refine ⟨fun b o e=>mh b o (fun hb=>nos (Q.new (hz b (hw b hb))) e) (Q5.keep b o e),fun p hp=>?_,Q.off,⟨mg.bare Q5.bare.bare,fun i st hi=>Jun mg (Nat.ne_of_lt (Array.getElem?_eq_some_iff.mp ((x.gk Q).bare.keep i st hi)).1) (Q5.bare.keep i st hi)⟩⟩
   obtain ⟨ps,f1,f2,f3⟩:=(x.gk Q).tabs p hp
   have up:∀ b o,s3.heap.get? b=some o->(b=s.heap.objs.size->False)->s'.heap.get? b=some o:=fun b o e nb=>mh b o (fun hb=>(hw b hb).elim (fun z=>nos (Ja8 s3.heap) (z▸e)) nb) (hk b o e)
   refine ⟨ps,up _ _ f1 fun z=>st3.it.elim fun o y=>Jbe tgV ((congrArg Obj.cls (Jav (z▸f1) y.1)).trans y.2.1) rfl,f2,fun pos cv hc=>Jfx (f3 pos cv hc) fun c o vs t e e3 e4=>up c o e fun z=>st3.it.elim fun o' y=>?_⟩
   cases Jav (z▸e) y.1
   cases y.2.2.symm.trans e3
   exact nomatch e4
end
end
section
theorem WalksS.shift {prog:Program}{w:World}{A:Around}{I:Addr}{fp wr:List Addr}{G:Array GenState->Array GenState->Prop}{n:Nat}{P:Nat->Value->Prop}{St:Nat->Shared->Prop}(W:WalksS prog w A I fp wr G n P St) :
  WalksS prog w A I fp wr G (n+1) (fun j v=>0<j/\P (j - 1) v) (fun j s=>0<j/\St (j - 1) s) where
 sub:=W.sub
 grefl:=W.grefl
 gtrans:=W.gtrans
 frame:=fun j s h' tk st ht hk=>⟨st.1,W.frame _ s h' tk st.2 ht hk⟩
 item:=fun j s Q E hj st hQ=>W.item _ s Q E (by have:=st.1; lia) st.2 fun v s' hp hs mv=>hQ v s' ⟨st.1,hp⟩ ⟨Nat.succ_pos j,(Nat.sub_add_cancel st.1:j - 1+1=j)▸hs⟩ mv
 done:=fun s Q E st hQ=>W.done s Q E st.2 hQ
 self:=fun j s Q E st hQ=>W.self _ s Q E st.2 hQ
noncomputable def Jaf (ps:List (Str×Str)) (i:Int):Int:=i+(ps.map fun p=>((p.1.length:Int)+(p.2.length:Int))).sum
structure Jba (ps:List (Str×Str)):Prop where
 n:ps.length<=900
 p:∀ p∈ps,p.1.length<=1000/\p.2.length<=1000
section
variable {prog:Program}{w:World}{g:Heap}{T:Ja3}{s0 s s':Shared}{A:Around}{a:Addr}{L:List Int}{i0:Int}
theorem Jxg {t0:Tok}(R:Jeh prog w g T A s0 s a L.length fun j v=>∃ i t,L[j]?=some i/\v=.int i t) (h0 : -(2 ^ 40)<=i0/\i0<=2 ^ 40) (hv:∀ x∈L, -(2 ^ 40)<=x/\x<=2 ^ 40) (hn:L.length<=1000) :
  wpAny (model prog w) A (call (.builtin "sum") [.ref a,.int i0 t0]) (Out g T [] s0 (.int (i0+L.sum))) NoE s:=by
 cases R with | mk fp wr G P St W st lt val aft ty ha =>
 have W1:=W.in4_1
 refine call_function_tree PySem.F.kind_sum PySem.F.plain_sum PySem.F.entry_sum (by unfold argsOk; kernel_rfl) ?_
 unfold Builtin.«sum»
 rw [if_neg (by simp)]
 refine wpAny_bind (wpAny_of_eq (show Builtin.Builtins.bindParams "sum" ["start"] 0 ⟨[.int i0 t0],[]⟩=pure [some (.int i0 t0)] from rfl) ?_)
 refine wpAny_bind (W1.self 0 s _ _ st ?_)
 have hfl:(decide (-(2 ^ 63)<=i0)&&decide (i0<2 ^ 63))=true:=Bool.and_eq_true_iff.mpr ⟨decide_eq_true (by lia),decide_eq_true (by lia)⟩
 dsimp only
 rw [if_pos]
 rotate_left
 ·exact hfl
 refine wpAny_bind (wpAny_rule (wpAny_bind (wpAny_mkInt (wpAny_bind (wpAny_pure ?_)))))
 rw [List.forIn_cons]
 refine wpAny_bind (wpAny_bind (wpAny_bind (wpAny_isInstance (T := "int") (b:=false) (typeIs_int _ _ _) PySem.sub_int_str ?_)))
 rw [if_neg Bool.false_ne_true]
 refine wpAny_pure ?_
 dsimp only
 rw [List.forIn_cons]
 refine (wpAny_bind (wpAny_bind (wpAny_isInstance (T := "int") (b:=false) (typeIs_int _ _ _) PySem.sub_int_bytes ?_)))
 rw [if_neg Bool.false_ne_true]
 refine wpAny_pure ?_
 dsimp only
 rw [List.forIn_cons]
 refine (wpAny_bind (wpAny_bind (wpAny_isInstance (T := "int") (b:=false) (typeIs_int _ _ _) PySem.sub_int_bytearray ?_)))
 rw [if_neg Bool.false_ne_true]
 refine wpAny_pure (wpAny_pure (wpAny_bind (wpAny_newObj_type ?_)))
 have hfit:_root_.PySem.SumFits (i0::L):=sumFits_small (fun x hx=>(List.mem_cons.mp hx).elim (fun z=>z▸h0) (hv x)) (by rw [List.length_cons]; lia)
 have key:=codeAny_sum_loopS (R:=Jle (Out g T [] s0 (.int (i0+L.sum)))) (WalksS.shift W1) (fun j=>(i0::L).getD j 0) (fun j v hj=>by
   obtain ⟨i,t,e,rfl⟩:=val _ _ hj.2
   refine ⟨t,?_⟩
   rw [<- Nat.sub_add_cancel hj.1,List.getD_cons_succ,List.getD_eq_getElem?_getD,e]; rfl) (fun j hj=>by
   have f:=hfit j hj
   exact ⟨f.1,by rw [preSum_getD]; exact f.2⟩) s.heap.objs.size (fun hm=>Nat.lt_irrefl _ (lt _ hm)) L.length 1
 refine wpAny_pure ⟨plainId_quiet PySem.F.plain_sum_loop _,key _ s.toks 0 (Nat.add_sub_cancel ..) (Nat.le_add_left ..) ⟨Nat.one_pos,W1.frame 0 s _ _ st (Nat.le_succ _) fun b V o e=>Heap.get?_push_of_some _ e⟩ ?_ fun s' t' hm=>?_⟩
 ·rw [preSum_getD,show ((i0::L).take 1).sum=i0 from Int.add_zero i0]
  exact Heap.get?_push_size _ rfl
 ·rw [preSum_getD,List.take_of_length_le (l:=i0::L) (i:=L.length+1) (Nat.le_refl _),List.sum_cons]
  have hm':=hm.drop_new (Nat.le_succ s.toks)
  exact ⟨aft s' hm'.heap hm'.gens hm'.drawn hm'.os,.int _ _⟩
end
noncomputable def es0:Str:=Str.ofString ""
noncomputable def Jir (p:Str×Str):Str:=Str.join es0 [p.1,p.2]
noncomputable def Jb3 (ps:List (Str×Str)):Str:=Str.join es0 (ps.map Jir)
theorem Jqz:es0.length=0:=by decide
theorem Jfp (l:List Str):(Str.join es0 l).length<=(l.map (·.length)).sum:=by
 have h:=PySem.StrLaws.join_length_le es0 l
 rwa [Jqz,Nat.mul_zero,Nat.add_zero] at h
theorem Jj6 (l:List Str):∀ k:Nat,l.foldl (fun n q=>n+q.length+es0.length) k=k+(l.map (·.length)).sum:=by
 induction l with
 | nil=>exact fun V=>rfl
 | cons x l ih=>intro k; rw [List.foldl_cons,ih,Jqz,List.map_cons,List.sum_cons,Nat.add_zero,Nat.add_assoc]
theorem Jwa {α:Type}(f:α->Nat) (B:Nat) (l:List α):(∀ x∈l,f x<=B)->(l.map f).sum<=l.length*B:=by
 induction l with
 | nil=>exact fun V=>Nat.zero_le _
 | cons x l ih=>intro h; rw [List.map_cons,List.sum_cons,List.length_cons,Nat.succ_mul,Nat.add_comm]; exact Nat.add_le_add (ih fun y hy=>h y (.tail _ hy)) (h x (.head _))
theorem Jt9 (p:Str×Str):(Jir p).length<=p.1.length+p.2.length:=Jfp [p.1,p.2]
theorem Jba.text {ps:List (Str×Str)}(hz:Jba ps):((ps.map Jir).map (·.length)).sum<=1800000:=by
 rw [List.map_map]
 exact Nat.le_trans (Jwa _ 2000 ps fun p hp=>Nat.le_trans (Jt9 p) (Nat.add_le_add (hz.p p hp).1 (hz.p p hp).2)) (Nat.mul_le_mul_right 2000 hz.n)
theorem Jba.textLen {ps:List (Str×Str)}(hz:Jba ps):(Jb3 ps).length<=1800000:=Nat.le_trans (Jfp _) hz.text
theorem JC8 {l:List Str}(h:(l.map (·.length)).sum<=1800000):JoinOk es0 l=true:=by
 unfold JoinOk Builtin.Str.tooLong
 rw [List.foldl_toArray,Jj6,Nat.zero_add]
 exact congrArg not (decide_eq_false (Nat.not_lt.mpr (Nat.le_trans h (by decide))))
section
variable {prog:Program}{w:World}{g:Heap}{T:Ja3}{s0 s s':Shared}{ls:List Str}{A:Around}{a:Addr}
theorem Jsr {t0:Tok}(R:Jeh prog w g T A s0 s a ls.length fun j v=>∃ x t,ls[j]?=some x/\v=.str x t) (hn:ls.length<=1000) (hz:(ls.map (·.length)).sum<=1800000) :
  wpAny (model prog w) A (call (.builtin "str.join") [.str es0 t0,.ref a]) (Out g T [] s0 (.str (Str.join es0 ls))) NoE s:=by
 cases R with | mk fp wr G P St W st lt val aft ty ha =>
 refine SC.joinGen W.in4_2 ty st lt ha (fun j v hv=>let ⟨x,t,_,e⟩:=val j v hv; ⟨x,t,e⟩) (fun s' l hm hacc=>?_) (Nat.le_trans hn (by decide))
 have hsz:l.length=ls.length:=by simpa [strValues] using hacc.1
 have hl:l.map (·.1)=ls:=List.ext_getElem? fun j=>by
  rw [List.getElem?_map]
  by_cases hj:j<ls.length
  ·obtain ⟨x,u,hx,hv⟩:=val j _ (hacc.2 j (.str (l[j]'(hsz▸hj)).1 (l[j]'(hsz▸hj)).2) (by simp [strValues,List.getElem?_eq_getElem (hsz▸hj:j<l.length)]))
   injection hv with h1 _
   rw [List.getElem?_eq_getElem (hsz▸hj:j<l.length),hx,Option.map_some,h1]
  ·rw [List.getElem?_eq_none (Nat.le_of_not_lt hj),List.getElem?_eq_none (hsz▸Nat.le_of_not_lt hj)]; rfl
 rw [hl]
 exact ⟨JC8 hz,fun t' k=>⟨aft _ hm.heap hm.gens hm.drawn hm.os,StrLaws.glued_eq_join es0 ls▸.str _ _⟩⟩
end
end
section
noncomputable abbrev Wo.ro {ι:Type}(W:Wo ι):Wo ι:={ W with U:=fun V=>False }
theorem Jcv {g:Heap}{CA c dx:Addr}{av:List Addr}:(Jdj CA av c dx).ro.Ok g where
 up:=fun b hb=>hb.elim
 off:=fun b hb=>hb.elim
 obj:=fun i h hw b hb=>by
  cases hw.1 with | mk qs k kd hs tt t e a =>
  rcases hb with rfl | rfl | hb
  ·exact ⟨_,a.o,Je6 _ _ _ _⟩
  ·exact ⟨_,a.d,Jaz _ _⟩
  ·exact hw.2.ok b hb
 seq:=fun i h hw b o hb=>hb.elim
 st:=fun i h h' hw hk tk=>⟨hw.1.st (fun b o hb=>hk b o (hb.imp id .inl)) tk,fun b hb=>(hw.2 b hb).imp fun V p=>p.imp fun V e=>hk b _ (.inr (.inr hb)) e⟩
noncomputable abbrev JB5 (g:Heap) (T:Ja3) (c:Value) (q:Str):Prop:=Jb5 g T c (q ++ "<genexpr>")
section
variable {prog:Program}{w:World}{g:Heap}{T:Ja3}{K:Frag}{n:Nat}{s:Shared}{CA c dx:Addr}{ps:List (Str×Str)}{i:Int}{ow:Ow}{env genv:Env}{A:Around}{f:Addr}{q:Jbj}{scope:Scope}{xa xb x:Str}{p p1 pos:Pos}{Q:Value->Shared->Prop}{E:Value->Shared->Prop}
theorem Jqi {y:Str}{t:Tok}(G:Jsb g scope xa xb q env genv s) (hk0:scope.kind=.function) (hge:env.globals=mainGlobals) (hx:x=xa/\Value.str y t=.str q.x q.t\/x=xb/\Value.str y t=.str q.y q.u) (ho:Jay x=true) (hlen:scope.names.lookup ("len" : Str)=some .globalImplicit)
  (gl:Glb g "len" (.builtin "len")) (ha:y.length<=lim) (hq:∀ t k,Q (.int y.length t) { s with toks:=k }):wpAny (model prog w) A (eval (.Call (.Name "len" p1) [.Name x p] [] pos) genv) Q E s :=
 have hk:genv.scope.kind=.function:=G.sc▸hk0
 wpAny_Call_NameR (Jbk hk (G.glob.trans hge) G.blt ((congrArg (fun z:Scope=>z.names.lookup ("len" : Str)) G.sc).trans hlen) G.keep gl (PyProof.Rows.callWith_builtin1 (wpAny_items_cons (Jab hk (G.ec x _ hx ho) (wpAny_items_nil (P.len_str (Int.not_le.mpr (Ju4 ha)) (hq _ _)))))))
theorem Jpy {k:Nat}(h:k<=1000):k<=lim:=Nat.le_trans h (by decide)
theorem JAf (M:MF (JB5 g T) K g CA "__len__" f (Jak "_Accumulator" "__len__") [] ["self"]) (L:Jia K CA) (X:K.In g) (gs:Glb g "sum" (.builtin "sum")) (gl:Glb g "len" (.builtin "len")) (hz:Jba ps) (hi:0<=i/\i<=1000) :
  ClU prog w g T (n+3) f (Jdj CA [] c dx).ro (ps,i) [.adr c] (.int (Jaf ps i)) (ps,i):=⟨fun A s vs rm hg hw hav hv=>wpAny_call (Jbv (R:=.ret (.int (Jaf ps i))) M Jcv (M.fo.looks hv.length) rm hg hw hav hv rfl fun env ow sA N Z=>by
 cases (show Jd2 CA sA.heap c dx ps i from Z.w.1) with | mk qs k kd hs tk t ep a =>
 refine wpAt_of_wpAny (wpAny_execs_cons (wpAny_Return_some (wpAny_Call_NameR (Jbk Z.F.ec.kind Z.F.ec.glob Z.F.ec.blt (by rw [Env.kindOf,N.sc_]; rfl) Z.F.gk.keep gs ?_))))
 refine PyProof.Rows.callWith_builtin1 (wpAny_items_cons (Ja0 (Jw6 (Fv:=fun q v=>∃ t,v=.int ((q.x.length:Int)+(q.y.length:Int)) t) ?S Z.F L.toLCls X M.fo.lim N.rm rfl a N.p fun A' E' q s2 genv hA hq G=>?_) fun v s2 h₂=>?_))
 case S=>exact ⟨rfl,fun V=>rfl,by decide,rfl,rfl,rfl,by decide,rfl⟩
 ·have b:=hz.p q.tx (ep▸List.mem_map.mpr ⟨q,hq,rfl⟩)
  exact wpAny_BinOp (Jqi G rfl Z.F.ec.glob (.inl ⟨rfl,rfl⟩) (by decide) rfl gl (Jpy b.1) fun ta ka=>Jqi (s:={ s2 with toks:=ka }) ⟨G.ec,G.sc,G.glob,G.blt,G.keep⟩ rfl Z.F.ec.glob (.inr ⟨rfl,rfl⟩) (by decide) rfl gl (Jpy b.2) fun tb kb=>add_int ⟨⟨_,rfl⟩,_,_,rfl,fun V V e=>e⟩)
 ·obtain ⟨a,rfl,xB,R⟩:=h₂
  have gQ:=xB.gk Z.F.gk
  have Z2:=Z.ext Jcv xB
  refine wpAny_items_cons (Attribute_any_ (Jab Z2.F.ec.kind (Z2.F.ec.adr rfl) ?_) rfl)
  cases Z2.w.1 with | mk qs' k' kd' hs' tk' t' ep' a' =>
  refine Jgo (Jbo X gQ.keep) (Jbr a'.o a'.d) L.ga L.gx (Jeq L.toLCls (Jbo X gQ.keep) a'.o) (findObj_own L.hd L.nsz (by rfl) (by rfl)) rfl (wpAny_items_nil ?_)
  have el:(ps.map fun p=>((p.1.length:Int)+(p.2.length:Int)))=qs.map fun q=>((q.x.length:Int)+(q.y.length:Int)):=by rw [<- ep,List.map_map]; rfl
  unfold Jaf
  rw [el]
  refine Ja0 (Jxg (i0:=i) (L:=qs.map fun q=>((q.x.length:Int)+(q.y.length:Int))) ?_ (by lia) (fun y hy=>?_) ?_) fun v s3 h₃=>.ret h₃.2 h₃.1.mv (Jcv.ext h₃.1 Z.F.gk Z.w)
  ·rw [List.length_map]
   exact (R.tok 1).imp fun j v ⟨q,hq,t,e⟩=>⟨_,t,by rw [List.getElem?_map,hq]; rfl,e⟩
  ·obtain ⟨q,hq,rfl⟩:=List.mem_map.mp hy
   have b:=hz.p q.tx (ep▸List.mem_map.mpr ⟨q,hq,rfl⟩)
   exact ⟨by lia,by lia⟩
  ·rw [List.length_map, <- List.length_map (f:=Jbj.tx),ep]; exact Nat.le_trans hz.n (by decide))⟩
end
end
section
section
variable {prog:Program}{w:World}{g:Heap}{T:Ja3}{K:Frag}{n:Nat}{s s':Shared}{CA c dx:Addr}{ps:List (Str×Str)}{i:Int}{ow:Ow}{env genv:Env}{A:Around}{f:Addr}{q:Jbj}{scope:Scope}{xa xb x:Str}{p p1 p2 pa pb pos apos:Pos}{E:Value->Shared->Prop}{te:Tok}
inductive JDr (x:Str) (s:Shared):Value->Shared->Prop
 | mk (t:Tok) {s':Shared}(k:Keeps s s'):JDr x s (.str x t) s'
theorem Jtb (q:Jbj):(([q.x,q.y]:List Str).map (·.length)).sum=q.x.length+q.y.length:=congrArg (q.x.length + ·) (Nat.add_zero _)
theorem Juo {kt:Nat}(G:Jsb g scope xa xb q env genv s) (hk0:scope.kind=.function) (hge:env.globals=mainGlobals) (hoa:Jay xa=true) (hob:Jay xb=true) (hem:scope.names.lookup ("EMPTYSTRING" : Str)=some .globalImplicit) (ge:Glb g "EMPTYSTRING" (.str es0 te)) (hq:q.x.length<=1000/\q.y.length<=1000)
  (hm:Jby (.Name "EMPTYSTRING" p1) "join" apos [.Tuple [.Name xa pa,.Name xb pb] kt p2] pos):wpAny (model prog w) A (eval (.Call (.Attribute (.Name "EMPTYSTRING" p1) "join" apos) [.Tuple [.Name xa pa,.Name xb pb] kt p2] [] pos) genv) (JDr (Jir q.tx) s) E s:=by
 have hk:genv.scope.kind=.function:=G.sc▸hk0
 refine Jc2 hm (fun V=>rfl) (Jbk hk (G.glob.trans hge) G.blt ((congrArg (fun z:Scope=>z.names.lookup ("EMPTYSTRING" : Str)) G.sc).trans hem) G.keep ge fun pl=>GM.join ?_)
 refine PyProof.Rows.callWith_method1 (wpAny_items_cons (wpAny_Tuple (wpAny_items_cons (Jab hk (G.ec xa _ (.inl ⟨rfl,rfl⟩) hoa) (wpAny_items_cons (Jab hk (G.ec xb _ (.inr ⟨rfl,rfl⟩) hob) (wpAny_items_nil ⟨show (2:Nat)<=sizeLine by decide,wpAny_items_nil ?_⟩)))))))
 have hs:(([q.x,q.y]:List Str).map (·.length)).sum<=2000:=Jtb q▸Nat.add_le_add hq.1 hq.2
 refine call_meets PySem.F.slot_str_join (typeIs_str _ _ _) PySem.F.entry_str_join (PySem.F.args_str_join_2 _ _) (meets_str_join_tuple es0 te _ [(q.x,q.t),(q.y,q.u)] (decide_eq_false ?_)) ⟨⟨_,0,Heap.get?_push_size _ rfl,rfl,rfl⟩,?_⟩
 ·rw [List.foldl_toArray]
  exact Nat.not_lt.mpr (Nat.le_trans (Nat.le_of_eq ((Jj6 [q.x,q.y] 0).trans (Nat.zero_add _))) (Nat.le_trans hs (by decide)))
 ·unfold joinMade
  dsimp only
  rw [StrLaws.glued_eq_join]
  exact ⟨Nat.le_trans (Nat.le_trans (Jfp _) hs) (by decide),⟨_,⟨_,_,rfl,fun b o e=>Heap.get?_push_of_some _ e⟩⟩⟩
theorem JAe (M:MF (JB5 g T) K g CA "__str__" f (Jak "_Accumulator" "__str__") [] ["self"]) (L:Jia K CA) (X:K.In g) (ge:Glb g "EMPTYSTRING" (.str es0 te)) (hz:Jba ps) :
  ClU prog w g T (n+3) f (Jdj CA [] c dx).ro (ps,i) [.adr c] (.str (Jb3 ps)) (ps,i):=⟨fun A s vs rm hg hw hav hv=>wpAny_call (Jbv (R:=.ret (.str (Jb3 ps))) M Jcv (M.fo.looks hv.length) rm hg hw hav hv rfl fun env ow sA N Z=>by
 cases (show Jd2 CA sA.heap c dx ps i from Z.w.1) with | mk qs k kd hs tk t ep a =>
 refine wpAt_of_wpAny (wpAny_execs_cons (wpAny_Return_some (Jc2 (fun V=>⟨_,rfl⟩) (fun V=>rfl) (Jbk Z.F.ec.kind Z.F.ec.glob Z.F.ec.blt (by rw [Env.kindOf,N.sc_]; rfl) Z.F.gk.keep ge fun pl=>GM.join ?_))))
 refine PyProof.Rows.callWith_method1 (wpAny_items_cons (Ja0 (Jw6 (Fv:=fun q v=>∃ t,v=.str (Jir q.tx) t) ?S Z.F L.toLCls X M.fo.lim N.rm rfl a N.p fun A' E' q s2 genv hA hq G=>?_) fun v s2 h₂=>?_))
 case S=>exact ⟨rfl,fun V=>rfl,by decide,rfl,rfl,rfl,by decide,rfl⟩
 ·exact wpAny_mono (Juo G rfl Z.F.ec.glob (by decide) (by decide) rfl ge (hz.p q.tx (ep▸List.mem_map.mpr ⟨q,hq,rfl⟩)) fun V=>⟨_,rfl⟩) (fun v s' h=>by cases h with | mk t k=>exact ⟨⟨t,rfl⟩,k⟩) fun V V e=>e
 ·obtain ⟨a,rfl,xB,R⟩:=h₂
  have el:ps.map Jir=qs.map fun q=>Jir q.tx:=by rw [<- ep,List.map_map]; rfl
  have ht:=hz.text
  unfold Jb3
  rw [el] at ht ⊢
  refine wpAny_items_nil (Ja0 (Jsr (ls:=qs.map fun q=>Jir q.tx) ?_ ?_ ht) fun v s3 h₃=>.ret h₃.2 h₃.1.mv (Jcv.ext h₃.1 Z.F.gk Z.w))
  ·rw [List.length_map]
   exact R.imp fun j v ⟨q,hq,t,e⟩=>⟨_,t,by rw [List.getElem?_map,hq]; rfl,e⟩
  ·rw [List.length_map, <- List.length_map (f:=Jbj.tx),ep]; exact Nat.le_trans hz.n (by decide))⟩
end
end
section
theorem Jgb {M:Model}{A:Around}{E:Value->Shared->Prop}{s:Shared}{env:Env}{pos:Pos}{bt id:String}{q x:Addr}{Q:Value->Shared->Prop}(hbt:bt = "builtin_function_or_method" \/ bt = "method-wrapper") (ho:s.heap.get? q=some (Jc5 bt id x))
  (h:wpAny M A (call (.ref q) []) Q E s):wpAny M A (callWith pos (.ref q) [] (backTo pos (starEach [] env)) []) Q E s:=by
 refine callWith_of (P:=fun h=>h.get? q=some (Jc5 bt id x)) rfl (fun h hq=>⟨.machine,.inr (.inl rfl),(Looks.ld (part:=none) hq).andThen ?_⟩) (evalArgs_nil3 ⟨ho,h⟩)
 rcases hbt with rfl | rfl <;> exact .now
theorem Jnt {prog:Program}{w:World}{A:Around}{E:Value->Shared->Prop}{s:Shared}{bt id:String}{q x:Addr}{b:Builtin}{Q:Value->Shared->Prop}(hbt:bt = "builtin_function_or_method" \/ bt = "method-wrapper") (ho:s.heap.get? q=some (Jc5 bt id x))
  (hchk:∀ (A:Around) (Q:Unit->Shared->Prop) (E:Value->Shared->Prop),Q () s->wpAny (model prog w) A (checkBoundCall id ⟨[.ref x],[]⟩) Q E s) (hp:plainId id=true) (hb:entryFor table id=some b)
  (hc:wpAny (model prog w) A.in1 (b ⟨[.ref x],[]⟩) (fun fin s'=>∃ v,fin=.done (.ret v)/\Q v s') E s):wpAny (model prog w) A (call (.ref q) []) Q E s:=by
 refine wpAny_call (codeAny_of_tree ?_)
 show wpAny _ A.in1 (callAny (.ref q) _) _ _ _
 unfold callAny
 refine wpAny_bind (wpAny_load ho ?_)
 have fin:∀ (b':Bool) {t:Sem PySem.Fin},t=(checkBoundCall id ⟨[.ref x],[]⟩ >>= fun V=>again (.builtin id ⟨[.ref x],[]⟩))->wpAny (model prog w) A.in1 t (fun fin s'=>match fin with
   | .done f=>(match (Except.ok f:Result) with | .ok (.ret v)=>Q v s' | .ok _=>False | .error e=>E e s')
   | .again c'=>c'.quiet=true/\codeAny (model prog w) A c' (fun r s'=>match r with | .ok (.ret v)=>Q v s' | .ok _=>False | .error e=>E e s') s') (fun e s'=>E e s') s:=by
  rintro _ _ rfl
  refine wpAny_bind (hchk _ _ _ (wpAny_pure ⟨plainId_quiet hp _,codeAny_builtin hb ?_⟩))
  rw [Around.under_plainId hp _]
  refine wpAny_mono hc (fun fin s' h'=>?_) fun V V e=>e
  obtain ⟨v,rfl,hv⟩:=h'
  exact hv
 rcases hbt with rfl | rfl <;> exact fin true rfl
theorem Jmc {prog:Program}{w:World}{s:Shared}{id:String}{x:Addr}(hk:builtinKind id=some .slot) (ha:argsOk id ⟨[.ref x],[]⟩) (A:Around) (Q:Unit->Shared->Prop) (E:Value->Shared->Prop) (q:Q () s):wpAny (model prog w) A (checkBoundCall id ⟨[.ref x],[]⟩) Q E s:=by
 unfold checkBoundCall
 cases hsig:Manifest.signature? id with
 | none=>exact wpAny_pure q
 | some sig =>
  have h2:Bind.checkArgs id sig ⟨[.ref x],[]⟩=pure ():=by unfold argsOk at ha; rw [hsig] at ha; exact ha
  dsimp only
  rw [hk]
  dsimp only
  rw [if_pos (by decide),h2]
  exact wpAny_pure q
noncomputable def Jlr (nm:String):Manifest.Signature:=⟨.positional,nm, "pop",.self,[{ name := "index",kind:=.posOnly,required:=false }]⟩
theorem Jxv:Manifest.signature? "list.pop" = some (Jlr "list.pop"):=by kernel_rfl
theorem JAh {prog:Program}{w:World}{K:Frag}{CA:Addr}{cd:ClassData}{h:Heap}{gs:Array GenState}{d:Drawn}{t:Nat}{os:OsState}{x dx:Addr}{vs:List Value}{k:Nat}(X:K.In h) (ho:h.get? x=some (Jbz CA dx vs k)) (hc:clsIn K CA=some cd) (ht:typeIn K (.ref CA)=some (.type "type"))
  (hmod:mroIn K CA (.type "module")=some false) (hcheck:Bind.checkArgs "list.pop" (Jlr s!"{cd.qualname.toString}.{Bind.lastOf "list.pop"}") ⟨[.ref x],[]⟩=pure ()) (A:Around) (Q:Unit->Shared->Prop) (E:Value->Shared->Prop) (q:Q () ⟨h,gs,d,t,os⟩) :
  wpAny (model prog w) A (checkBoundCall "list.pop" ⟨[.ref x],[]⟩) Q E ⟨h,gs,d,t,os⟩:=by
 have hk:builtinKind "list.pop" = some .method:=by decide +kernel
 have hva:Manifest.varargsMethods.contains "list.pop" = false:=by decide +kernel
 have htx:Looks (model prog w) h (typeOf (.ref x)) (.ref CA):=(Looks.ld ho).andThen .now
 have L1:Looks (model prog w) h (isInstance (.ref x) (.type "module")) false:=htx.andThen (looks_mroIn X hmod)
 have L2:=looks_typeIn (M:=model prog w) X ht
 have L3:=looks_clsIn (M:=model prog w) X hc
 unfold checkBoundCall
 rw [Jxv]
 dsimp only
 rw [hk]
 dsimp only
 rw [if_neg (by decide)]
 refine wpAny_bind (Looks.at L1 ?_)
 rw [hva]
 rw [if_neg (show ¬ ((false||false)=true) by decide)]
 refine wpAny_bind (ks_wpAny_isType_inst ho (fun c e=>by cases e) ?_)
 rw [if_neg Bool.false_ne_true]
 refine wpAny_bind (Looks.at htx ?_)
 refine wpAny_bind (Looks.at L3 ?_)
 refine wpAny_bind (Looks.at L2 ?_)
 rw [if_pos (by decide)]
 show wpAny _ _ (Bind.checkArgs "list.pop" (Jlr _) _) _ _ _
 rw [hcheck]
 exact wpAny_pure q
structure Jvx (prog:Program) (K:Frag) (g:Heap) (CA:Addr) (cd:ClassData) (cl:List (Str×Addr)):Prop where
 top:(prog.main.scope.names.lookup ("super" : Str)).isSome=false
 clo:∃ cc,cl.lookup (Str.ofString "__class__")=some cc/\g.IsCell cc (some (.ref CA))
 cls:clsIn K CA=some cd
 ob:∃ o,K.lookup CA=some o/\o.data=.cls cd
 mro:(cd.mro.dropWhile (· != .ref CA)).drop 1=[.type "list",.type "object"]
 self:mroIn K CA (.ref CA)=some true
 opq:nsIn K cStatics "thirdparty.any" = some none
 typ:typeIn K (.ref CA)=some (.type "type")
 modu:mroIn K CA (.type "module")=some false
 chk:∀ x:Addr,Bind.checkArgs "list.pop" (Jlr s!"{cd.qualname.toString}.{Bind.lastOf "list.pop"}") ⟨[.ref x],[]⟩=pure ()
 gsup:Glb g "super" (.type "super")
inductive Js5 (prog:Program) (g:Heap) (c:Value) (q:Str):Prop
 | mk (a:Addr) (o:Obj) (vs:Array Value) (file:Str) (t:Tok) (e:c=.ref a) (at_:g.get? a=some o) (d:o.data=.fields vs) (v:vs[2]?=some (.str file t)) (f:((prog.main.file:Str)==file)=true)
inductive Jvw (g:Heap) (f:Addr):Prop
 | mk (o:Obj) (fd:FuncData) (ar:Arg) (at_:g.get? f=some o) (d:o.data=.func fd) (p:(fd.params.posonlyargs++fd.params.args).head?=some ar) (n:ar.arg=Str.ofString "self")
section
variable {prog:Program}{w:World}{g:Heap}{T:Ja3}{K:Frag}{n:Nat}{s s' s0:Shared}{CA c dx:Addr}{av:List Addr}{ow ow0:Ow}{env:Env}{σ σZ:Sto}{A A0:Around}{f:Addr}{cd:ClassData}{E:Value->Shared->Prop}{cl:List (Str×Addr)}{sc:Scope}{vs:List Value}{k:Nat}
theorem Jz7 {M:Model}{x:Str}{v:Value}{Q:Value->Shared->Prop}(hk:env.scope.kind=.function) (l:Jat env s.heap x v) (h:Q v s):wpAny M A (loadName env x) Q E s:=by
 cases l with
 | loc o k m n hv=>exact wpAny_loadName_local hk k n hv h
 | cel o k c hc hv=>exact k.elim (fun k=>wpAny_loadName_cell hk k hc hv h) fun k=>wpAny_loadName_free hk k hc hv h (Jfk o).2
theorem Jz8 {M:Model}{x:Str}{v:Value}{Q:Value->Shared->Prop}(hk:env.scope.kind=.function) (hg:env.globals=mainGlobals) (hb:env.builtins=builtinsNs) (hx:env.kindOf x=some .globalImplicit) (k:∀ b o,g.get? b=some o->s.heap.get? b=some o) (l:Glb g x v) (h:Q v s):wpAny M A (loadName env x) Q E s:=by
 cases l with
 | glob o m n e=>exact ks_loadName_global hk hx (loadGlobal_global (env:=env) (hg▸n.keeps k) e h)
 | blt o m b n e n' e'=>exact ks_loadName_global hk hx (loadGlobal_builtin (env:=env) (hg▸n.keeps k) e (hb▸n'.keeps k) e' h)
theorem Jsm {body:List Stmt}{p0 p1:Pos}{attr:Str}{whole:Sem Value}{Q:Value->Shared->Prop}(S:Jvx prog K g CA cd cl) (SP:Jvw g f) (X:K.In g) (N:JB4 (fun c q=>Js5 prog g c q) g T n f sc cl av A0 s0 σZ env ow0 s') (F:Fm g T av ow env σ s) (hself:σ.lookup (Str.ofString "self")=some (.val (.adr c))) (ho:s.heap.get? c=some (Jbz CA dx vs k))
  (hks:sc.names.lookup ("super" : Str)=some .globalImplicit) (hkc:sc.names.lookup ("__class__" : Str)=some .free) (hnc:Ja1 sc.names=[]) (hat:(attr==("__class__" : Str))=false)
  (h:∀ h',h'.get? s.heap.objs.size=some (ks_superObj CA c CA)->(∀ y o,s.heap.get? y=some o->h'.get? y=some o)->Q (.ref s.heap.objs.size) { s with heap:=h' }) :
  _root_.PySem.wpAt (model prog w) A (.func body env) (attributeBase (.Call (.Name "super" p0) [] [] p1) attr env whole) Q E s:=by
 cases SP with | mk of fd ar hof hofd hp har =>
 cases N.p with | mk cda oc vs0 file tf e1 e2 e3 e4 e5 =>
 obtain ⟨cc,f1,f2⟩:=S.clo
 have X':=Jbo X F.gk.keep
 have ks:env.kindOf "super" = some .globalImplicit:=(congrArg (fun z:Scope=>z.names.lookup ("super" : Str)) N.sc_).trans hks
 have kc:env.kindOf "__class__" = some .free:=(congrArg (fun z:Scope=>z.names.lookup ("__class__" : Str)) N.sc_).trans hkc
 refine ks_wpAt_super_base ks kc hat N.fn (F.gk.keep _ _ hof) hofd hp e1 (F.gk.keep _ _ e2) e3 e4 e5 S.top ?_
 refine Jz8 F.ec.kind F.ec.glob F.ec.blt ks F.gk.keep S.gsup ⟨rfl,?_⟩
 refine wpAny_loadName_free F.ec.kind kc ((N.cells _ fun h=>nomatch hnc▸Jau.mpr h).trans f1) (f2.keeps F.gk.keep) ?_
 rw [har]
 refine Jz7 F.ec.kind (F.ec.adr hself) ?_
 obtain ⟨oD,hD1,hD2⟩:=S.ob
 have hD1:=X' _ _ hD1
 obtain ⟨hh,gg,d,t,os⟩:=s
 exact ks_wpAny_isType_cls hD1 hD2 ⟨rfl,ks_wpAny_call_super hD1 hD2 ho rfl (fun c e=>nomatch e) (looks_mroIn X' S.self) fun h' e kk=>h h' e kk⟩
theorem JDo {h:Heap}(X:K.In h) (S:Jvx prog K g CA cd cl) (ho:h.get? c=some (Jbz CA dx vs k)):c≠CA:=fun z=>S.ob.elim fun o p=>Jbe tgB ((congrArg Obj.data (Jav (z▸ho) (X _ _ p.1))).trans p.2) rfl
theorem Joq {id mt bt gi name:String}{Bg:Builtin}{so:Addr}{pl:Sem Bool}{Q:Value×List Value->Shared->Prop}(S:Jvx prog K g CA cd cl) (X:K.In s.heap) (hso:s.heap.get? so=some (ks_superObj CA c CA)) (ho:s.heap.get? c=some (Jbz CA dx vs k))
  (hf:alongIn K name [.type "list",.type "object"]=some (some (.builtin id))) (hTT:∀ s:Shared,s.TypeIs (.builtin id) mt) (Sl:Slot mt "__get__" gi) (hb:entryFor table gi=some Bg) (hargs:∀ a b c,argsOk gi ⟨[a,b,c],[]⟩)
  (hrun:∀ (A:Around) (h':Heap) (t':Nat) (Q:PySem.Fin->Shared->Prop) (E:Value->Shared->Prop),(∀ b o,s.heap.get? b=some o->h'.get? b=some o)->Q (.done (.ret (.ref h'.objs.size))) ⟨h'.push (Jc5 bt id c),s.gens,s.drawn,t',s.os⟩->wpAny (model prog w) A (Bg ⟨[.builtin id,.ref c,.ref CA],[]⟩) Q E ⟨h',s.gens,s.drawn,t',s.os⟩)
  (hn:((name:Str)==("__class__" : Str))=false) (hq:Q (.ref s.heap.objs.size,[]) { s with heap:=s.heap.push (Jc5 bt id c),toks:=s.toks+1 }):wpAny (model prog w) A (getMethod (.ref so) name pl) Q E s:=by
 obtain ⟨hh,gg,d,t,os⟩:=s
 exact Jsx (ox:=Jbz CA dx vs k) hso (looks_opaque X S.opq) ((looks_clsIn X S.cls).andThen .now) S.mro X hf hTT Sl hb hargs hrun (JDo X S ho) hn hq
end
section
variable {prog:Program}{w:World}{A:Around}{E:Value->Shared->Prop}{h:Heap}{gs:Array GenState}{d:Drawn}{t:Nat}{os:OsState}{CA c dx:Addr}{vs:List Value}{k:Nat}
theorem Jvi {Q:Value->Shared->Prop}(ho:h.get? c=some (Jbz CA dx vs k)) (hq:∀ t,Q (.int vs.length t) ⟨h,gs,d,t+1,os⟩):wpAny (model prog w) A (Builtin.«list.__len__» ⟨[.ref c],[]⟩) (fun fin s'=>∃ v,fin=.done (.ret v)/\Q v s') E ⟨h,gs,d,t,os⟩:=by
 unfold Builtin.«list.__len__»
 have:=hq t
 wp_walk using wpAny_loadPart' ho
 exact ⟨_,rfl,by simpa using this⟩
theorem Jrp {Q:Value->Shared->Prop}(ho:h.get? c=some (Jbz CA dx [] k)) (hq:∀ h' k',Heap.SameBut c h h'->h'.get? c=some (Jbz CA dx [] k')->Q .none ⟨h',gs,d,t,os⟩):wpAny (model prog w) A (Builtin.«list.__init__» ⟨[.ref c],[]⟩) (fun fin s'=>∃ v,fin=.done (.ret v)/\Q v s') E ⟨h,gs,d,t,os⟩:=by
 show let Q:=_; wpAny _ _ _ Q _ _
 intro Q
 have e:=Ji8 (s:=⟨h,gs,d,t,os⟩) (f:=fun V=> #[]) ho
 unfold Builtin.«list.__init__»
 wp_walk using (wpAny_updateSeq ho rfl (hz:=by decide) (_hz':=by decide)),wpAny_loadPart' ho
 exact ⟨_,rfl,hq _ _ (Heap.SameBut.update ..) e⟩
theorem Jni (vs:List Value) (y:Value):(vs++[y]).eraseIdx vs.length=vs:=by
 induction vs with
 | nil=>rfl
 | cons v vs ih=>simp [ih]
theorem Jvh {y:Value}{Q:Value->Shared->Prop}(ho:h.get? c=some (Jbz CA dx (vs++[y]) k)) (hz:vs.length<=900) (hq:∀ h' k',Heap.SameBut c h h'->h'.get? c=some (Jbz CA dx vs k')->Q y ⟨h',gs,d,t,os⟩):wpAny (model prog w) A (Builtin.«list.pop» ⟨[.ref c],[]⟩) (fun fin s'=>∃ v,fin=.done (.ret v)/\Q v s') E ⟨h,gs,d,t,os⟩:=by
 show let Q:=_; wpAny _ _ _ Q _ _
 intro Q
 have hs:(vs++[y]).toArray.size=vs.length+1:=by simp
 have hl:(1000:Nat)<=sizeLine:=by decide
 have hne:¬ (vs++[y]).toArray.isEmpty=true:=by simp
 have hk:seqIndex? (-1) (vs++[y]).toArray.size=some vs.length:=by
  rw [hs,seqIndex_neg (by lia) (by lia)]; congr 1; lia
 have hy:(vs++[y]).toArray[vs.length]?=some y:=by simp
 have e:=Ji8 (s:=⟨h,gs,d,t,os⟩) (f:=fun xs=>xs.eraseIdxIfInBounds vs.length) ho
 have e1:((fun xs:Array Value=>xs.eraseIdxIfInBounds vs.length) (vs++[y]).toArray).toList=vs:=by
  simp [Array.eraseIdxIfInBounds]; exact Jni vs y
 rw [e1] at e
 unfold Builtin.«list.pop»
 wp_walk using wpAny_loadPart' ho
 simp only [hk,hy,Option.bind_some,Option.map_some]
 have hz':((vs++[y]).toArray.eraseIdxIfInBounds vs.length).size<=sizeLine+1:=(by
  have:((vs++[y]).toArray.eraseIdxIfInBounds vs.length).toList=vs:=e1
  have:=congrArg List.length this
  simp only [Array.length_toList] at this
  lia)
 wp_walk using (wpAny_updateSeq ho rfl (hz:=by rw [hs]; lia) (_hz':=hz')),wpAny_loadPart' ho
 exact ⟨_,rfl,hq _ _ (Heap.SameBut.update ..) e⟩
end
end
section
section
variable {ι:Type}{prog:Program}{w:World}{g:Heap}{T:Ja3}{K:Frag}{n:Nat}{s s' s0 sA:Shared}{CA c dx:Addr}{av:List Addr}{ow ow0:Ow}{env:Env}{σ σZ:Sto}{A A0:Around}{f:Addr}{cd:ClassData}{E:Value->Shared->Prop}{cl:List (Str×Addr)}{sc:Scope}{pos p0 p1:Pos}{body:List Stmt}{W:Wo ι}{j:ι}{d:D}{vs:List Value}{k:Nat}
theorem Jlm {e:Expr}(h:_root_.PySem.wpAt (model prog w) A (.func body env) (eval e env) (fun v s'=>MtU W g T ow env s (.ret d) j (.ret v) s') NoE sA):_root_.PySem.wpAt (model prog w) A (.func body env) (execs [.Return (some e) pos] env) (MtU W g T ow env s (.ret d) j) NoE sA:=ks_wpAt_execs_cons (ks_wpAt_Return_some h)
structure JEg (K:Frag) (m:Str) (id mt bt gi:String) (Bg b:Builtin):Prop where
 al:alongIn K m [.type "list",.type "object"]=some (some (.builtin id))
 ty:∀ s:Shared,s.TypeIs (.builtin id) mt
 sl:Slot mt "__get__" gi
 eg:entryFor table gi=some Bg
 ag:∀ a b c,argsOk gi ⟨[a,b,c],[]⟩
 cn:(m==("__class__" : Str))=false
 kd:bt = "builtin_function_or_method" \/ bt = "method-wrapper"
 pl:plainId id=true
 en:entryFor table id=some b
 get:∀ {prog:Program}{w:World}{A:Around}{x C:Addr}{ox:Obj}{h:Heap}{g:Array GenState}{d:Drawn}{t:Nat}{os:OsState}{Q:PySem.Fin->Shared->Prop}{E:Value->Shared->Prop},h.get? x=some ox->ox.cls=.ref C->Looks (model prog w) h (isSubtype (.ref C) (.type "list")) true->Q (.done (.ret (.ref h.objs.size))) ⟨h.push (Jc5 bt id x),g,d,t,os⟩->wpAny (model prog w) A (Bg ⟨[.builtin id,.ref x,.ref C],[]⟩) Q E ⟨h,g,d,t,os⟩
theorem Jf8 {m:String}{id mt bt gi:String}{Bg b:Builtin}{apos:Pos}{Q:Value->Shared->Prop}(B:JEg K m id mt bt gi Bg b) (S:Jvx prog K g CA cd cl) (SP:Jvw g f) (L:Jia K CA) (X:K.In g) (N:JB4 (fun c q=>Js5 prog g c q) g T n f sc cl av A0 s0 σZ env ow0 s') (F:Fm g T av ow env σ s) (hself:σ.lookup (Str.ofString "self")=some (.val (.adr c))) (ho:s.heap.get? c=some (Jbz CA dx vs k))
  (hks:sc.names.lookup ("super" : Str)=some .globalImplicit) (hkc:sc.names.lookup ("__class__" : Str)=some .free) (hnc:Ja1 sc.names=[])
  (hchk:∀ (A:Around) (s:Shared) (Q:Unit->Shared->Prop) (E:Value->Shared->Prop),K.In s.heap->s.heap.get? c=some (Jbz CA dx vs k)->Q () s->wpAny (model prog w) A (checkBoundCall id ⟨[.ref c],[]⟩) Q E s)
  (h:∀ (A:Around) (s2:Shared),Ext g T s s2->s2.heap.get? c=some (Jbz CA dx vs k)->wpAny (model prog w) A (b ⟨[.ref c],[]⟩) (fun fin s'=>∃ v,fin=.done (.ret v)/\Q v s') E s2) (hE:E=NoE)
  (he:∃ pl,eval (.Call (.Attribute (.Call (.Name "super" p0) [] [] p1) m apos) [] [] pos) env=(do
   let ov <- attributeBase (.Call (.Name "super" p0) [] [] p1) m env (eval (.Call (.Name "super" p0) [] [] p1) env)
   standAt apos.atName
   let (f,first) <- holding [ov] (getMethod ov m pl)
   callWith pos f first (backTo pos (starEach [] env)) [])) :
  _root_.PySem.wpAt (model prog w) A (.func body env) (eval (.Call (.Attribute (.Call (.Name "super" p0) [] [] p1) m apos) [] [] pos) env) Q E s:=by
 obtain ⟨pl,he⟩:=he
 refine ks_wpAt_MethodCall (pl:=pl) (Jsm S SP X N F hself ho hks hkc hnc B.cn fun h' e1 e2=>?_) he
 have X2:K.In h':=fun b o e=>e2 _ _ (F.gk.keep _ _ (X b o e))
 have cB:=e2 _ _ ho
 refine Joq (s:={ s with heap:=h' }) (name:=m) S X2 e1 cB B.al B.ty B.sl B.eg B.ag (fun A hh t' Q E kk q=>B.get (kk _ _ cB) rfl ((looks_mroIn X2 L.sub).keeps kk) q) B.cn ?_
 have k3:∀ b o,h'.get? b=some o->(h'.push (Jc5 bt id c)).get? b=some o:=fun b o e=>Heap.get?_push_of_some _ e
 have x3:Ext g T s { s with heap:=h'.push (Jc5 bt id c),toks:=s.toks+1 }:=.of _ _ fun b o e=>k3 _ _ (e2 _ _ e)
 refine Jgb B.kd (Heap.get?_push_size _ rfl) (Jnt B.kd (Heap.get?_push_size _ rfl) (fun A Q E q=>hchk A _ Q E (fun b o e=>k3 _ _ (X2 b o e)) (k3 _ _ cB) q) B.pl B.en (h _ _ x3 (k3 _ _ cB)))
theorem Jsz (h:alongIn K "__len__" [.type "list",.type "object"]=some (some (.builtin "list.__len__"))):JEg K "__len__" "list.__len__" "wrapper_descriptor" "method-wrapper" "wrapper_descriptor.__get__" Builtin.«wrapper_descriptor.__get__» Builtin.«list.__len__» :=
 ⟨h,fun V=>Jol,Jff,Jev,Jg0,by decide,.inr rfl,PySem.F.slot_list_len.plain,PySem.F.entry_list_len,Jgm (id := "list.__len__") (by decide +kernel)⟩
theorem Jot (h:alongIn K "__init__" [.type "list",.type "object"]=some (some (.builtin "list.__init__"))):JEg K "__init__" "list.__init__" "wrapper_descriptor" "method-wrapper" "wrapper_descriptor.__get__" Builtin.«wrapper_descriptor.__get__» Builtin.«list.__init__» :=
 ⟨h,fun V=>Jmt,Jff,Jev,Jg0,by decide,.inr rfl,PySem.F.slot_list_init.plain,PySem.F.entry_list_init,Jgm (id := "list.__init__") (by decide +kernel)⟩
theorem Jsy (h:alongIn K "pop" [.type "list",.type "object"]=some (some (.builtin "list.pop"))):JEg K "pop" "list.pop" "method_descriptor" "builtin_function_or_method" "method_descriptor.__get__" Builtin.«method_descriptor.__get__» Builtin.«list.pop» :=
 ⟨h,fun V=>Jok,Jk3,Jjc,Jl4,by decide,.inl rfl,PySem.F.slot_list_pop.plain,PySem.F.entry_list_pop,Jn2 (id := "list.pop") (by decide +kernel) (by decide +kernel)⟩
end
end
section
section
variable {ι:Type}{prog:Program}{w:World}{g g':Heap}{T:Ja3}{K:Frag}{n:Nat}{CA c dx:Addr}{av:List Addr}{σ:Sto}{f fp:Addr}{cd:ClassData}{cl:List (Str×Addr)}{ps:List (Str×Str)}{i:Int}{sc:Scope}{pos apos:Pos}{W:Wo ι}{j:ι}{d:D}{P:Value->Str->Prop}{st:Stmt}{m:Str}{xs:List Str}{o:Expr}
theorem Jec (L:Jia K CA) (X:K.In g) (M:MF P K g CA m f st cl xs) (hne:(isz==m)=false):Jld prog w g ((Jdj CA av c dx).Ω (ps,i)) c f m:=fun k hw q=>by
 cases hw.1 with | mk qs kk kd hs tk t e a =>
 refine Jnd (Jbo X k) (Jbr a.o a.d) L.ga L.gx M.find (beq_iff_eq.mp M.isf) ?_ q
 show (getL m (Jug hs tk i t)).map (·.isSome)=some false
 unfold getL Jug
 rw [List.find?_cons,show (Value.str isz tk).isStr m=false from hne]
 rfl
theorem Ev.own0 (up:∀ b o,g.get? b=some o->g'.get? b=some o) (ok:W.Ok g) (X:K.In g) (hk:keepIn K (.ref f)=true) (hm:Jby o m apos [] pos) (hb:∀ env,attributeBase o m env (eval o env)=eval o env) (ho:Ev prog w g' T n sc σ o (.adr c)) (hf:Jld prog w g (W.Ω j) c f m) (hr:ClU prog w g T n f W.ro j [.adr c] d j) (hw:W.Ω j g') (ha:W.av=[]) (hd:Flat d) :
  Ev prog w g' T n sc σ (.Call (.Attribute o m apos) [] [] pos) d:=fun A s av env he rm q hc=>Jc2 hm hb (Ja0 (ho A s av env he rm q hc) fun v sA h₁ pl=>by
 cases h₁.2.i1
 have qA:=h₁.1.gk q
 have up1:=fun b o e=>qA.keep b o (up b o e)
 have wA:W.Ω j sA.heap:=ok.st j _ _ hw (fun b o V e=>qA.keep b o e) fun a V V e=>qA.keep a _ e
 refine hf up1 wA (callWith_K0 (Jbo X up1) hk (Ja0 (hr.run A sA _ rm (qA.down up) wA (fun b hb=>nomatch (ha▸hb:b∈([]:List Addr))) VDs.nil.cons0) fun v s2 h₂=>?_))
 cases h₂ with | mk m r wB=>exact ⟨h₁.1.trans ((m.ext fun b f=>f.elim).rise up),hd _ _ _ (r.sub (av':=[]) nofun)⟩)
theorem Jrg (S:Jvx prog K g CA cd cl) (SP:Jvw g f) (L:Jia K CA) (X:K.In g) (M:MF (fun c q=>Js5 prog g c q) K g CA "part_count" f (Jak "_Accumulator" "part_count") cl ["self"]) (h:alongIn K "__len__" [.type "list",.type "object"]=some (some (.builtin "list.__len__"))) :
  ClU prog w g T (n+1) f (Jdj CA [] c dx).ro (ps,i) [.adr c] (.int ps.length) (ps,i):=⟨fun A s vs rm hg hw hav hv=>wpAny_call (Jbv (R:=.ret (.int ps.length)) M Jcv (M.fo.looks hv.length) rm hg hw hav hv rfl fun env ow sA N Z=>by
 cases (show Jd2 CA sA.heap c dx ps i from Z.w.1) with | mk qs k kd hs tk t ep a =>
 refine Jlm (Jf8 (E:=NoE) (Jsz h) S SP L X N Z.F rfl a.o rfl rfl M.nc (fun A s Q E V V q=>Jmc (by decide +kernel) (PySem.F.args_list_len_1 _) A Q E q) (fun A s2 x o=>?_) rfl ⟨_,rfl⟩)
 have Z2:=(Z.ext Jcv (x.trans (.tok (s2.toks+1)))).w
 obtain ⟨h,gs,d,t,os⟩:=s2
 exact Jvi o fun t=>.ret (Jl9 ep▸.int _ t) (x.trans (.tok _)).mv Z2)⟩
noncomputable def Jcm (ps:List (Str×Str)):Str×Str:=ps.getLast?.getD (es0,es0)
theorem JD9 (S:Jvx prog K g CA cd cl) (SP:Jvw g f) (L:Jia K CA) (X:K.In g) (hc:g.get? c=none) (hd:g.get? dx=none) (M:MF (fun c q=>Js5 prog g c q) K g CA "pop" f (Jak "_Accumulator" "pop") cl ["self"]) (h:alongIn K "pop" [.type "list",.type "object"]=some (some (.builtin "list.pop")))
  (Mp:MF P K g CA "part_count" fp st cl ["self"]) (hp:∀ ps,ClU prog w g T (n+1) fp (Jdj CA [] c dx).ro (ps,i) [.adr c] (.int (ps.length:Nat)) (ps,i)) (hz:ps.length<=900) :
  ClU prog w g T (n+2) f (Jdj CA av c dx) (ps,i) [.adr c] (chD (Jcm ps)) (ps.dropLast,i):=⟨fun A s vs rm hg hw hav hv=>wpAny_call (Jbv (R:=.ret (chD (Jcm ps))) M (Jbc hc hd) (M.fo.looks hv.length) rm hg hw hav hv rfl fun env ow sA N Z=>by
 have ok:=Jbc (CA:=CA) (av:=av) hc hd
 have test:Jer g (Jdj CA av c dx) (ps,i) fun g'=>EvT prog w g' T (n+1) (Ja2 (Jak "_Accumulator" "pop")) (froz (params ["self"] [.adr c])) (stP (nth (Ja5 (Jak "_Accumulator" "pop")) 0)).test ((ps.length:Int)==0):=fun g' up hw=>
  EvT.cmp (Ev.own0 (W:=Jdj CA [] c dx) up (Jbc hc hd) X Mp.kee (fun V=>⟨_,rfl⟩) (fun V=>rfl) (Ev.name rfl) (Jec L X Mp (by decide)) (hp ps) ⟨hw.1,nofun⟩ rfl Jc3) Ev.int rfl Jcd
 cases ps with
 | nil=>exact wpAt_of_wpAny (Jam.last (SxU.ite ok test (Jam.last (SxU.ret (EvU.gnd ok fun g' V V=>Ev.tup (EvL.more (fun V=>rfl) Ev.str (EvL.more (fun V=>rfl) Ev.str EvL.nil)) (show (2:Nat)<=lim by decide))))) _ _ ow env N.sc_ N.c N.rm Z)
 | cons p ps =>
  refine ks_wpAt_execs_cons (wpAt_of_wpAny (Ja0 (SxU.ite (R:=.next _) ok test Jam.nil _ _ ow env N.sc_ N.c N.rm Z) fun fl s2 h₂=>?_))
  cases h₂ with | next nx wB =>
  cases nx with | mk ow' c' F m hw' =>
  have Z2:=Z.nx ok F hw' wB
  cases (show Jd2 CA s2.heap c dx (p::ps) i from wB.1) with | mk qs k kd hs tk t ep a =>
  rcases List.eq_nil_or_concat qs with rfl | ⟨qs,q,rfl⟩
  ·exact nomatch ep
  rw [List.concat_eq_append] at ep a
  have e1:p::ps=qs.map Jbj.tx++[q.tx]:=ep.symm.trans List.map_append
  have o:=a.o
  rw [List.map_append] at o
  have hl:(qs.map Jbj.ref).length<=900:=by
   have:=congrArg List.length e1
   rw [List.length_append,List.length_map] at this
   rw [List.length_map]
   exact Nat.le_trans (Nat.le_add_right ..) (this▸hz)
  rw [e1,show Jcm (qs.map Jbj.tx++[q.tx])=q.tx by unfold Jcm; rw [List.getLast?_concat]; rfl,List.dropLast_concat]
  refine ks_wpAt_mono (Jlm (W:=Jdj CA av c dx) (ow:=ow') (s:=s2) (j:=(qs.map Jbj.tx,i)) (d:=chD q.tx) (Jf8 (E:=NoE) (Jsy h) S SP L X N F rfl o rfl rfl M.nc (fun A s Q E X' o q=>?_) (fun A s3 x o3=>?_) rfl ⟨_,rfl⟩)) (fun fl s' q=>q.then (Z2.has ok) c' F.gk m hw') fun V V e=>e
  ·obtain ⟨h,gs,d,t,os⟩:=s
   exact JAh X' o S.cls S.typ S.modu (S.chk c) A Q E q
  ·have Z3:=Z2.ext ok x
   have aC:Jic CA s3.heap c dx (qs++[q]) k kd (Jug hs tk i t):=⟨x.get' F.gk a.o (Je6 _ _ _ _),x.get' F.gk a.d (Jaz _ _),a.p.keep fun V V V e=>x.get' F.gk e (Jdm _ _)⟩
   have hq:=aC.p q (List.mem_append_right _ (.head _))
   have fin:∀ h' k',Heap.SameBut c s3.heap h'->h'.get? c=some (Jbz CA dx (qs.map Jbj.ref) k')->Jlb (Jdj CA av c dx) g T av s2 (chD q.tx) (qs.map Jbj.tx,i) q.ref { s3 with heap:=h' }:=fun h' k' hs' e=>
    Jl7 hc x.mv Z3.F.gk aC Z3.w.2 (fun z hz=>aC.p z (List.mem_append_left _ hz)) rfl hs' e (q.vd ((hs'.2 _ (apart hq aC.o rfl)).trans hq) (Z3.w.2.ntup hq))
   obtain ⟨h,gs,d,t,os⟩:=s3
   exact Jvh o3 hl fun h' k' hs' e=>by cases fin h' k' hs' e with | mk m r w=>exact .ret r (m.sub fun V hb=>.inl (.inr hb)) w)⟩
end
end
section
section
variable {prog:Program}{w:World}{g:Heap}{T:Ja3}{K:Frag}{n:Nat}{CA c dx:Addr}{av:List Addr}{σ:Sto}{f:Addr}{cd:ClassData}{ps qs:List (Str×Str)}{q:Str×Str}{i h:Int}{P:Value->Str->Prop}{A:Around}{s:Shared}{vs:List Value}{j k kd:Nat}{st:Stmt}{cl:List (Str×Addr)}{d:D}
section
variable (L:LCls K CA) (X:K.In g) (hc:g.get? c=none) (hd:g.get? dx=none) (hz:ps.length<=900)
include L X hc hd hz
theorem Jfz:Jam prog w g T n (Ja2 (Jak "_Accumulator" "push")) (Jdj CA av c dx) (ps,i) (params ["self", "fws", "string"] [.adr c,.str q.1,.str q.2]) (Ja5 (Jak "_Accumulator" "push")) (.next (params ["self", "fws", "string"] [.adr c,.str q.1,.str q.2])) (ps++[q],i) :=
 have ok:=Jbc (CA:=CA) (av:=av) hc hd
 Jam.cons ok (SxU.expr ok (EvU.accApp L X hc hd (fun V=>⟨_,rfl⟩) rfl (fun V V V=>Ev.tup (EvL.more (fun V=>rfl) (Ev.name rfl) (EvL.more (fun V=>rfl) (Ev.name rfl) EvL.nil)) (show (2:Nat)<=lim by decide)) (fun V=>rfl) hz) (fun V V V=>rfl)) Jam.nil
variable (Y:Jh0 K CA cd)
include Y
theorem Jn3 (hz':qs.length<=1000) (hs:σ.lookup (Str.ofString "self")=some (.val (.adr c))) (hv:σ.lookup (Str.ofString "startval")=some (.val (.lst (qs.map chD)))):Jam prog w g T n (Ja2 (Jak "_Accumulator" "reset")) (Jdj CA av c dx) (ps,i) σ (Ja5 (Jak "_Accumulator" "reset")).tail (.next σ) (qs,0) :=
 have ok:=Jbc (CA:=CA) (av:=av) hc hd
 Jam.cons ok (SxU.accSet (j:=0) (lo:=none) (qs:=qs) L X hc hd hs (fun V V V=>Ev.name hv) (fun V V V=>.none') (fun V V V=>rfl) (Nat.le_trans hz (by decide)) hz' rfl) (Jam.cons ok (SxU.accIsz Y X hc hd hs (fun V V V=>rfl) fun V V V=>Ev.int) Jam.nil)
theorem Jrf (hb:∀ {o fd},g.get? f=some o->o.data=.func fd->Looks (model prog w) g (bindArgs fd ⟨[.ref c],[]⟩) [("self",.ref c),("startval",.none)]) (M:MF P K g CA "reset" f (Jak "_Accumulator" "reset") cl ["self", "startval"]):ClU prog w g T (n+2) f (Jdj CA av c dx) (ps,i) [.adr c] .none ([],0):=⟨fun A s vs rm hg hw hav hv=>by
 have ok:=Jbc (CA:=CA) (av:=av) hc hd
 cases hv.one1 with | mk r =>
 cases r.i1
 exact wpAny_call (Jbv (R:=.next _) (vs':=[.ref c,.none]) (ds:=[.adr c,.none]) M ok hb rm hg hw hav (.cons r (.cons .none .nil)) rfl fun env ow sA N Z=>wpAt_of_wpAny (Jam.cons ok (SxU.ite ok (fun V V V=>EvT.cmp (Ev.name rfl) Ev.none rfl JA5)
  (Jam.cons ok (SxU.assign ok (EvU.gnd ok fun V V V=>Ev.list EvL.nil (Nat.zero_le _)) (fun V V V=>rfl) rfl) Jam.nil)) (Jn3 (qs:=[]) L X hc hd hz Y (Nat.zero_le _) rfl rfl) _ sA ow env N.sc_ N.c N.rm Z))⟩
end
inductive JB7 (CA c dx:Addr) (h:Heap):Option Int->Prop
 | nil (k kd:Nat) (a:Jic CA h c dx [] k kd []):JB7 CA c dx h none
 | one (i:Int) (a:Jd2 CA h c dx [] i):JB7 CA c dx h (some i)
noncomputable abbrev Jx2 (CA c dx:Addr):Wo (Option Int):={ av:=[],P:=fun b=>b=c\/b=dx,U:=fun b=>b=c\/b=dx,Ω:=fun i h=>JB7 CA c dx h i }
inductive JHe (CA c dx:Addr) (h:Heap):Prop
 | mk (k kd:Nat) (es:List DictEntry) (qs:List Jbj) (a:Jic CA h c dx qs k kd es):JHe CA c dx h
theorem JB7.ex {h:Heap}{i:Option Int}(a:JB7 CA c dx h i):JHe CA c dx h:=by
 cases a with
 | nil k kd a=>exact ⟨_,_,_,_,a⟩
 | one i a=>cases a with | mk qs k kd hs tk t e a=>exact ⟨_,_,_,_,a⟩
theorem Js3 (hc:g.get? c=none) (hd:g.get? dx=none):(Jx2 CA c dx).Ok g where
 up:=fun b hb=>hb
 off:=fun b hb=>hb.elim (fun e=>e▸hc) fun e=>e▸hd
 obj:=fun i h hw b hb=>hw.ex.rec fun V V V V a=>hb.elim (fun e=>e▸⟨_,a.o,Je6 _ _ _ _⟩) fun e=>e▸⟨_,a.d,Jaz _ _⟩
 seq:=fun i h hw b o hb e so=>hw.ex.rec fun V V V V a=>(hb.elim (fun z=>Jl8 (Jav (z▸e) a.o▸so)) fun z=>Jed (Jav (z▸e) a.d▸so)).elim
 st:=fun i h h' hw hk tk=>by
  cases hw with
  | nil k kd a=>exact .nil k kd ⟨hk _ _ (.inl rfl) a.o,hk _ _ (.inr rfl) a.d,nofun⟩
  | one i a=>exact .one i (a.st hk tk)
theorem Jrb (L:Jia K CA) (X:K.In g) (hc:g.get? c=none) (hd:g.get? dx=none) (Y:Jh0 K CA cd) (S:Jvx prog K g CA cd cl) (SP:Jvw g f) (M:MF (fun c q=>Js5 prog g c q) K g CA "__init__" f (Jak "_Accumulator" "__init__") cl ["self", "initial_size"]) (hal:alongIn K "__init__" [.type "list",.type "object"]=some (some (.builtin "list.__init__")))
  (rm:Rm (n+1) A) (hg:GK g T s) (a:Jic CA s.heap c dx [] k kd []) {th:Tok}:codeAny (model prog w) A (.call (.ref f) ⟨[.ref c,.int h th],[]⟩) (Jle (Jlb (Jx2 CA c dx) g T [] s .none (some h))) s :=
 Jbv (W:=Jx2 CA c dx) (R:=.next (params ["self", "initial_size"] [.adr c,.int h])) (ds:=[.adr c,.int h]) M (Js3 hc hd) (M.fo.looks rfl) rm hg (.nil k kd a) nofun (.cons (.adr c) (.cons (.int h th) .nil)) rfl fun env ow sA N Z=>by
  have ok:=Js3 (CA:=CA) hc hd
  cases (show JB7 CA c dx sA.heap none from Z.w) with | nil k kd a =>
  refine ks_wpAt_execs_cons (wpAt_of_wpAny (Ja0 (Jpe (j:=h) Y X hd .nil rfl (fun V V V=>rfl) Z.F (Ev.name rfl (A.deeper env) sA _ env N.sc_ N.rm Z.F.gk Z.F.ec) a nofun) fun fl s2 h₂=>?_))
  cases h₂ with | mk kd hs tk t m aB l =>
  have mQ:Mv g T (Jx2 CA c dx).U sA s2:=m.sub fun V hb=>.inl (.inr hb)
  have Z2:FmW (Jx2 CA c dx) g T ow env _ s2 (some h):=Z.out ok mQ (.one h ⟨[],k,kd,hs,tk,t,rfl,aB⟩)
  refine ks_wpAt_execs_cons (ks_wpAt_Expr_any (Jf8 (E:=NoE) (Jot hal) S SP L X N Z2.F rfl aB.o rfl rfl M.nc (fun A s Q E V V q=>Jmc (by decide +kernel) (PySem.F.args_list_init_1 _) A Q E q) (fun A s3 x o3=>?_) rfl ⟨_,rfl⟩) (Jac Z2.F) rfl)
  have Z3:=Z2.ext ok x
  have aC:Jic CA s3.heap c dx [] k kd (Jug hs tk h t):=⟨o3,x.get' Z2.F.gk aB.d (Jaz _ _),nofun⟩
  have fin:∀ h' k',Heap.SameBut c s3.heap h'->h'.get? c=some (Jbz CA dx [] k')->MtU (Jx2 CA c dx) g T ow env sA (.next _) (some h) .next { s3 with heap:=h' }:=fun h' k' hs' e=>
   (Jlb.mk (av:=[]) (d:=.none) (v:=.none) (mQ.trans (Mv.trans x.mv (Mv.one (tk:=s3.toks) hs' o3 Jpp hc (.inl rfl:(Jx2 CA c dx).U c)) fun V hb=>.inl hb) fun V hb=>.inl hb) .none (.one h ⟨[],k',kd,hs,tk,t,rfl,aC.put nofun hs' e⟩)).next ok Z
  obtain ⟨hh,gs,d,t',os⟩:=s3
  exact Jrp o3 fun h' k' hs' e=>wpAt_of_wpAny (wpAny_execs_nil (fin h' k' hs' e))
end
end
section
structure Jbn where
 CA:Addr
 cd:ClassData
 cl:List (Str×Addr)
 ini:Addr
 psh:Addr
 pfr:Addr
 pop:Addr
 len:Addr
 str:Addr
 rst:Addr
 ows:Addr
 pcn:Addr
noncomputable abbrev Jo2:Value->Str->Prop:=fun V V=>True
structure Jjs (prog:Program) (w:World) (K:Frag) (g:Heap) (T:Ja3) (a:Jbn):Prop where
 L:Jia K a.CA
 X:K.In g
 Y:Jh0 K a.CA a.cd
 mkL:JAx K a.CA a.ini
 S:Jvx prog K g a.CA a.cd a.cl
 ini:MF (Js5 prog g) K g a.CA "__init__" a.ini (Jak "_Accumulator" "__init__") a.cl ["self", "initial_size"]
 psh:MF Jo2 K g a.CA "push" a.psh (Jak "_Accumulator" "push") [] ["self", "fws", "string"]
 pfr:MF (fun c V=>c≠.none) K g a.CA "pop_from" a.pfr (Jak "_Accumulator" "pop_from") [] ["self", "i"]
 pop:MF (Js5 prog g) K g a.CA "pop" a.pop (Jak "_Accumulator" "pop") a.cl ["self"]
 len:MF (JB5 g T) K g a.CA "__len__" a.len (Jak "_Accumulator" "__len__") [] ["self"]
 str:MF (JB5 g T) K g a.CA "__str__" a.str (Jak "_Accumulator" "__str__") [] ["self"]
 rst:MF (fun c V=>c≠.none) K g a.CA "reset" a.rst (Jak "_Accumulator" "reset") [] ["self", "startval"]
 ows:MF Jo2 K g a.CA "is_onlyws" a.ows (Jak "_Accumulator" "is_onlyws") [] ["self"]
 pcn:MF (Js5 prog g) K g a.CA "part_count" a.pcn (Jak "_Accumulator" "part_count") a.cl ["self"]
 pshG:specialIn K (.ref a.psh) "__get__" = some (some (.builtin "function.__get__"))
 pshT:takesIn K (.ref a.psh)=some false
 rs0:∀ {c o fd},g.get? a.rst=some o->o.data=.func fd->Looks (model prog w) g (bindArgs fd ⟨[.ref c],[]⟩) [("self",.ref c),("startval",.none)]
 iniP:Jvw g a.ini
 popP:Jvw g a.pop
 pcnP:Jvw g a.pcn
 iniA:alongIn K "__init__" [.type "list",.type "object"]=some (some (.builtin "list.__init__"))
 popA:alongIn K "pop" [.type "list",.type "object"]=some (some (.builtin "list.pop"))
 lenA:alongIn K "__len__" [.type "list",.type "object"]=some (some (.builtin "list.__len__"))
 gsum:Glb g "sum" (.builtin "sum")
 glen:Glb g "len" (.builtin "len")
 gstr:Glb g "str" (.type "str")
 gemp:∃ te,Glb g "EMPTYSTRING" (.str es0 te)
structure Jlg (prog:Program) (w:World) (K:Frag) (g g':Heap) (T:Ja3) (a:Jbn) (c dx:Addr) (ps:List (Str×Str)) (i:Int):Prop where
 B:Jjs prog w K g T a
 up:∀ b o,g.get? b=some o->g'.get? b=some o
 at_:Jd2 a.CA g' c dx ps i
 sm:Jba ps
 sz:0<=i/\i<=1000
theorem Jmw {α:Type}(f:α->Nat) (l:List α):(l.map fun x=>(f x:Int)).sum=((l.map f).sum:Nat):=by
 induction l with
 | nil=>rfl
 | cons x l ih=>rw [List.map_cons,List.sum_cons,ih,List.map_cons,List.sum_cons,Int.natCast_add]
theorem Js2 {ps:List (Str×Str)}{i:Int}(hz:Jba ps) (hi:0<=i/\i<=1000):0<=Jaf ps i/\Jaf ps i<=1801000:=by
 have h:=Jwa (fun p:Str×Str=>p.1.length+p.2.length) 2000 ps fun p hp=>Nat.add_le_add (hz.p p hp).1 (hz.p p hp).2
 have h2:=Nat.mul_le_mul_right 2000 hz.n
 have e:=Jmw (fun p:Str×Str=>p.1.length+p.2.length) ps
 unfold Jaf
 rw [show (ps.map fun p=>((p.1.length:Int)+(p.2.length:Int)))=ps.map fun p=>((p.1.length+p.2.length:Nat):Int) from List.map_congr_left fun p V=>(Int.natCast_add ..).symm,e]
 lia
section
variable {prog:Program}{w:World}{g g':Heap}{T:Ja3}{K:Frag}{n:Nat}{s s':Shared}{c dx:Addr}{ps:List (Str×Str)}{i:Int}{av:List Addr}{A:Around}{a:Jbn}{e:Expr}
section
variable (Z:Jlg prog w K g g' T a c dx ps i)
include Z
theorem Jlg.here (q:GK g' T s):Jd2 a.CA s.heap c dx ps i:=Z.at_.st (fun b o V e=>q.keep b o e) fun b V V e=>q.keep b _ e
theorem Jlg.heap (q:GK g' T s):K.In s.heap:=Jbo Z.B.X fun b o e=>q.keep b o (Z.up b o e)
theorem Jlg.run {f:Addr}{d:D}(q:GK g' T s) (rm:Rm n A) (h:ClU prog w g T n f (Jdj a.CA [] c dx).ro (ps,i) [.adr c] d (ps,i)):wpAny (model prog w) A (call (.ref f) [.ref c]) (Out g' T [] s d) NoE s :=
 Ja0 (h.run A s _ rm (q.down Z.up) ⟨Z.here q,nofun⟩ nofun VDs.nil.cons0) fun v s2 h₂=>by cases h₂ with | mk m r w=>exact ⟨(m.ext fun b f=>f.elim).rise Z.up,r⟩
theorem Jlz (q:GK g' T s) (rm:Rm (n+3) A):wpAny (model prog w) A (Builtin.«len» ⟨[.ref c],[]⟩) (fun fin s'=>∃ v,fin=.done (.ret v)/\Out g' T [] s (.int (Jaf ps i)) v s') NoE s:=by
 have b:=Js2 Z.sm Z.sz
 unfold Builtin.«len»
 refine wpAny_bind (m:=oneArg "len" _) (wpAny_pure ?_)
 cases Z.here q with | mk qs k kd hs tk t ep ac =>
 refine wpAny_bind (m:=callSpecial? (.ref c) (Str.ofString "__len__")) (special_fn (Z.heap q) (Jbr ac.o ac.d) Z.B.len.find (beq_iff_eq.mp Z.B.len.isf) (Ja0 (Z.run q rm (JAf (n:=n) Z.B.len Z.B.L Z.B.X Z.B.gsum Z.B.glen Z.sm Z.sz)) fun r s' hr=>?_))
 obtain ⟨t',rfl⟩:=hr.2.i4
 refine wpAny_bind (wpAny_holding (wpAny_pure (wpAny_bind (wpAny_letGo ?_))))
 show wpAny _ _ (if Jaf ps i<0 then _ else _) _ _ _
 rw [if_neg (Int.not_lt.mpr b.1)]
 show wpAny _ _ (if Jaf ps i>=2 ^ 63 then _ else _) _ _ _
 rw [if_neg (Int.not_le.mpr (Int.lt_of_le_of_lt b.2 (by decide)))]
 exact wpAny_bind (wpAny_mkInt (wpAny_pure ⟨_,rfl,hr.1.trans (.tok _),.int _ _⟩))
theorem Jea {vs:List Value}{av:List Addr}{h:Heap}(r:VDs av h vs [.adr c]):vs=[.ref c]:=by
 cases r.one1 with | mk r1=>cases r1.i1; rfl
theorem Jri:ClV prog w g' T (n+4) "len" [.adr c] (.int (Jaf ps i)):=⟨_,Z.B.glen.up Z.up,.bi _,fun A s av vs rm q hav hv=>by
 rw [Jea Z hv]
 exact Calls.call_function_entry PySem.kind_len plain_len entry_len (args_len1 _) (Ja0 (Jlz Z q rm.in1) fun fin s' h=>h.imp fun v p=>⟨p.1,p.2.1,Jc3 _ _ _ p.2.2⟩)⟩
end
end
end
section
noncomputable def Je9 (ps:List (Str×Str)) (i:Int):Bool:=i==0&&(!(Jaf ps i != 0)||Txt.isspace (Jb3 ps))
section
variable {prog:Program}{w:World}{g g':Heap}{T:Ja3}{K:Frag}{n:Nat}{s s':Shared}{c dx:Addr}{ps:List (Str×Str)}{i:Int}{av:List Addr}{σ:Sto}{sc:Scope}{A:Around}{a:Jbn}{x:Str}{pos:Pos}
theorem Jnb:MtV prog w g T n "isspace" (.str x) [] (.bool (Txt.isspace x)) :=
 ⟨_,_,F.plainAttrs_str,F.slot_str_isspace,F.type_str_isspace,fun V V V=>Jho,fun A s av ov vs rm hg hav ho hv=>by
  obtain ⟨_,rfl⟩:=ho.i5
  cases hv.i0
  exact call_gives F.slot_str_isspace (typeIs_str _ _ _) F.entry_str_isspace (F.args_str_isspace_1 _) (gives_str_isspace _ _) Jal⟩
section
variable (Z:Jlg prog w K g g' T a c dx ps i)
include Z
theorem Js1 (q:GK g' T s) (rm:Rm (n+4) A):wpAny (model prog w) A (truthy (.ref c)) (fun b s'=>b=(Jaf ps i != 0)/\Ext g' T s s') NoE s:=by
 cases Z.here q with | mk qs k kd hs tk t ep ac =>
 have X:=Z.heap q
 have I:=Jbr ac.o ac.d
 unfold truthy
 refine wpAny_bind (m:=callSpecial? (.ref c) (Str.ofString "__bool__")) (wpAny_bind (wpAny_bind (I.type.here ((looks_findIn X Z.B.L.bl).here (wpAny_pure ?_)))))
 refine wpAny_bind (wpAny_bind (I.type.here ((looks_findIn X Z.B.len.find).here ?_)))
 refine wpAny_bind (Ja0 (wpAny_runValue (Q:=Out g' T [] s (.int (Jaf ps i))) (codeAny_builtin entry_len (by
  rw [Around.under_plainId plain_len _]
  exact Ja0 (Jlz Z q rm.in1) fun fin s' h=>h.elim fun v p=>p.1▸p.2))) fun v s' h=>?_)
 obtain ⟨t',rfl⟩:=h.2.i4
 exact wpAny_pure ⟨rfl,h.1⟩
theorem Ev.notAcc {o:Expr}(ho:Ev prog w g' T (n+4) sc σ o (.adr c)):Ev prog w g' T (n+4) sc σ (.UnaryOp .Not o pos) (.bool (!(Jaf ps i != 0))):=fun A s av env he rm q hc=>
 wpAny_UnaryOp (Ja0 (ho A s av env he rm q hc) fun v sA h₁=>by
  cases h₁.2.i1
  exact not_value (Ja0 (Js1 Z (h₁.1.gk q) rm) fun b s2 h₂=>⟨h₁.1.trans h₂.2,h₂.1▸.bool _⟩))
theorem Jjj:ClV prog w g' T (n+5) "str" [.adr c] (.str (Jb3 ps)):=⟨_,Z.B.gstr.up Z.up,.ty _,fun A s av vs rm q hav hv=>by
 rw [Jea Z hv]
 cases Z.here q with | mk qs k kd hs tk t ep ac =>
 obtain ⟨te,ge⟩:=Z.B.gemp
 have r2:Rm (n+3) A.in1.in1:=rm.in1.in1
 exact kso_call (by have:=r2.units; lia) (Z.heap q) (Jbr ac.o ac.d) Z.B.str.find Z.B.str.isf (Ja0 (Z.run q r2 (JAe (n:=n) Z.B.str Z.B.L Z.B.X ge Z.sm)) fun v s' h=>by
  obtain ⟨t,rfl⟩:=h.2.i5
  exact ⟨h.1,.str _ t⟩)⟩
end
theorem JDa (B:Jjs prog w K g T a) (hz:Jba ps) (hi:0<=i/\i<=1000):ClU prog w g T (n+6) a.ows (Jdj a.CA [] c dx).ro (ps,i) [.adr c] (.bool (Je9 ps i)) (ps,i) :=
 ClU.of (R:=.ret (.bool (Je9 ps i))) B.ows Jcv rfl (Jam.last (SxU.ret (EvU.gnd Jcv fun g' up hw=>by
  have Z:Jlg prog w K g g' T a c dx ps i:=⟨B,up,hw.1,hz,hi⟩
  exact Ev.bool2 (EvV.and_cons (Ev.cmp (Ev.attr (fun V=>rfl) (Ev.name rfl) (Jul B.L (Jbo B.X up) hw.1) Jc3) Ev.int rfl Jcd) fun V=>EvV.one (Ev.bool2 (EvV.or_cons ((Ev.notAcc (n:=n) Z (Ev.name rfl)).mono (by lia)) fun V=>EvV.one (Ev.meth0 (fun V=>rfl) rfl (Ev.call rfl (EvL.more (fun V=>rfl) (Ev.name rfl) EvL.nil) (Jjj (n:=n) Z)) Jnb)))))))
end
end
theorem Joo (C:Addr) (l:List Value):(Code.builtin "type.__call__" ⟨.ref C::l,[]⟩).weight=1:=by kernel_rfl
theorem Jsw (args:Args):(Code.builtin "type.__call__" args).cUnits=1:=by kernel_rfl
theorem Rm.tc {n:Nat}{A:Around}{C:Addr}{l:List Value}(r:Rm (n+1) A):Rm n (A.under (.builtin "type.__call__" ⟨.ref C::l,[]⟩)):=by
 refine ⟨?_,?_,r.hand⟩
 ·show A.depth+(Code.builtin "type.__call__" ⟨.ref C::l,[]⟩).weight+n<_
  rw [Joo,Nat.add_assoc,Nat.add_comm 1]
  exact r.depth
 ·show A.units+(Code.builtin "type.__call__" ⟨.ref C::l,[]⟩).cUnits+100*n<_
  rw [Jsw]
  exact Nat.lt_of_le_of_lt (by lia) r.units
inductive Jxa (g:Heap) (T:Ja3) (CA:Addr) (i:Int) (s:Shared):Value->Shared->Prop
 | mk {c dx:Addr}{s':Shared}(hc:s.heap.get? c=none) (hd:s.heap.get? dx=none) (x:Ext g T s s') (a:Jd2 CA s'.heap c dx [] i):Jxa g T CA i s (.ref c) s'
theorem JAu {prog:Program}{w:World}{g:Heap}{T:Ja3}{K:Frag}{n:Nat}{s:Shared}{A:Around}{a:Jbn}{h:Int}{th:Tok}(B:Jjs prog w K g T a) (rm:Rm (n+2) A) (hg:GK g T s):wpAny (model prog w) A (call (.ref a.CA) [.int h th]) (Jxa g T a.CA h s) NoE s:=by
 obtain ⟨hp,gs,d,t,os⟩:=s
 have xA:Ext g T ⟨hp,gs,d,t,os⟩ ⟨(hp.push emptyDict).push (Jbz a.CA hp.objs.size [] 0),gs,d,t,os⟩:=Ext.trans (s':=⟨hp.push emptyDict,gs,d,t,os⟩) (.push _) (.push _)
 have n1:hp.get? hp.objs.size=none:=Heap.get?_none_of_le (Nat.le_refl _)
 have n2:hp.get? (hp.objs.size+1)=none:=Heap.get?_none_of_le (Nat.le_succ _)
 have hx:((hp.push emptyDict).push (Jbz a.CA hp.objs.size [] 0)).get? (hp.objs.size+1)=some (Jbz a.CA hp.objs.size [] 0):=by heap_get
 refine wpAny_call (Jpw (Jbo B.X hg.keep) B.mkL (codeAny_mono (Jrb (th:=th) (c:=hp.objs.size+1) (dx:=hp.objs.size) B.L B.X (hg.new n2) (hg.new n1) B.Y B.S B.iniP B.ini B.iniA rm.tc (xA.gk hg) ⟨hx,by heap_get,nofun⟩) fun r s' z=>?_))
 rcases r with e | (v | _ | _ | _) <;> first | exact z.elim | skip
 cases z with | mk m r wj =>
 cases r.i2
 cases wj with | one _ ac=>exact ⟨rfl,n2,n1,(Mv.trans (W:=(Jx2 a.CA (hp.objs.size+1) hp.objs.size).U) xA.mv m fun b hb=>.inl hb).ext fun b hb=>hb.elim (fun e=>e▸n2) fun e=>e▸n1,ac⟩
section
structure Pg where
 m:Addr
 md:Addr
 l:Addr
 c:Addr
 dx:Addr
structure PgP where
 mx:Int
 cw:Str
 sp:Str
noncomputable abbrev Pst:=List Str×List (Str×Str)×Int
noncomputable def Jhf:List Str:=["newline", "_str", "__str__", "_append_chunk", "feed", "add_transition", "_maxlengths", "_ascii_split"]
structure Jx4 (CV:Addr) (h:Heap) (q:Pg) (p:PgP) (es:List DictEntry) (kd:Nat):Prop where
 obj:h.get? q.m=some (instObj CV q.md)
 dic:h.get? q.md=some (dictOf es kd)
 mx:∃ t,getL "_maxlen" es=some (some (.int p.mx t))
 cw:∃ t,getL "_continuation_ws" es=some (some (.str p.cw t))
 cl:∃ t,getL "_continuation_ws_len" es=some (some (.int p.cw.length t))
 sp:∃ t,getL "_splitchars" es=some (some (.str p.sp t))
 ln:getL "_lines" es=some (some (.ref q.l))
 cu:getL "_current_line" es=some (some (.ref q.c))
 ne:q.dx≠q.md
 no:∀ x∈Jhf,getL x es=some none
inductive Jah (CV CA:Addr) (h:Heap) (q:Pg) (p:PgP) (st:Pst):Prop
 | mk (es:List DictEntry) (kd:Nat) (ts:List (Str×Tok)) (kl:Nat) (H:Jx4 CV h q p es kd) (l:h.get? q.l=some (Jb0 (strValues ts) kl)) (e:ts.map (·.1)=st.1) (a:Jd2 CA h q.c q.dx st.2.1 st.2.2)
noncomputable def Pg.U (q:Pg) (b:Addr):Prop:=b=q.l\/b=q.c\/b=q.dx
noncomputable def Pg.all (q:Pg) (b:Addr):Prop:=b=q.m\/b=q.md\/q.U b
noncomputable abbrev pgW (CV CA:Addr) (q:Pg) (p:PgP):Wo Pst:={ av:=[q.l],P:=q.all,U:=q.U,Ω:=fun st h=>Jah CV CA h q p st }
section
variable {g:Heap}{T:Ja3}{s s':Shared}{h h':Heap}{CV CA:Addr}{q:Pg}{p:PgP}{st:Pst}{ps:List (Str×Str)}{i:Int}{b:Addr}
theorem Jkg (C d:Addr):NT (instObj C d):=fun V e=>Jbe tgO e rfl
theorem Jx4.keep {es:List DictEntry}{kd:Nat}(H:Jx4 CV h q p es kd) (k1:h'.get? q.m=some (instObj CV q.md)) (k2:h'.get? q.md=some (dictOf es kd)):Jx4 CV h' q p es kd:={ H with obj:=k1,dic:=k2 }
theorem Jcj (P:Jah CV CA h q p st) (hb:q.all b):∃ o,h.get? b=some o/\NT o:=by
 cases P with | mk es kd ts kl H l e a =>
 cases a with | mk qs k kd hs tt t e' a =>
 rcases hb with rfl | rfl | rfl | rfl | rfl
 ·exact ⟨_,H.obj,Jkg _ _⟩
 ·exact ⟨_,H.dic,Jaz _ _⟩
 ·exact ⟨_,l,Jai _ _⟩
 ·exact ⟨_,a.o,Je6 _ _ _ _⟩
 ·exact ⟨_,a.d,Jaz _ _⟩
theorem Jhg (P:Jah CV CA h q p st) (hk:∀ b o,q.all b->h.get? b=some o->h'.get? b=some o) (tk:Jvv h h'):Jah CV CA h' q p st:=by
 cases P with | mk es kd ts kl H l e a =>
 exact ⟨es,kd,ts,kl,H.keep (hk _ _ (.inl rfl) H.obj) (hk _ _ (.inr (.inl rfl)) H.dic),hk _ _ (.inr (.inr (.inl rfl))) l,e,a.st (fun b o hb=>hk b o (.inr (.inr (.inr hb)))) tk⟩
theorem Jtc {o:Obj}(P:Jah CV CA h q p st) (hb:q.U b) (eo:h.get? b=some o) (so:Jaq o):b=q.l:=by
 cases P with | mk es kd ts kl H l e a =>
 cases a with | mk qs k kd hs tt t e' a =>
 rcases hb with rfl | rfl | rfl
 ·rfl
 ·exact (Jl8 (Jav eo a.o▸so)).elim
 ·exact (Jed (Jav eo a.d▸so)).elim
theorem Jaw (hU:∀ b,q.U b->g.get? b=none):(pgW CV CA q p).Ok g where
 up:=fun b hb=>.inr (.inr hb)
 off:=hU
 obj:=fun st h hw b hb=>Jcj hw hb
 seq:=fun st h hw b o hb eo so=>Jtc hw hb eo so▸.head _
 st:=fun st h h' hw hk tk=>Jhg hw hk tk
structure JI4 (q:Pg):Prop where
 mU:¬ q.U q.m
 dU:¬ q.U q.md
 lc:q.l≠q.c
 ld:q.l≠q.dx
theorem Jah.apart (P:Jah CV CA h q p st):JI4 q:=by
 cases P with | mk es kd ts kl H l e a =>
 cases a with | mk qs k kd' hs tt t e' a =>
 exact ⟨fun z=>z.elim (Mine.apart H.obj l rfl) fun z=>z.elim (Mine.apart H.obj a.o rfl) (Mine.apart H.obj a.d rfl),fun z=>z.elim (Mine.apart H.dic l rfl) fun z=>z.elim (Mine.apart H.dic a.o rfl) fun z=>H.ne z.symm,Mine.apart l a.o rfl,Mine.apart l a.d rfl⟩
theorem Jah.accMv (P:Jah CV CA s.heap q p st) (hg:GK g T s) (m:Mv g T (fun b=>b=q.c\/b=q.dx) s s') (a:Jd2 CA s'.heap q.c q.dx ps i):Jah CV CA s'.heap q p (st.1,ps,i):=by
 have A:=P.apart
 cases P with | mk es kd ts kl H l e _ =>
 exact ⟨es,kd,ts,kl,H.keep (m.get' hg H.obj (fun z=>A.mU (.inr z)) (Jkg _ _)) (m.get' hg H.dic (fun z=>A.dU (.inr z)) (Jaz _ _)),m.get' hg l (fun z=>z.elim A.lc A.ld) (Jai _ _),e,a⟩
theorem Jah.acc (P:Jah CV CA h q p st):Jd2 CA h q.c q.dx st.2.1 st.2.2:=P.rec fun V V V V V V V a=>a
theorem Jah.avl (P:Jah CV CA h q p st):AvL [q.l] h:=fun b hb=>List.mem_singleton.mp hb▸P.rec fun V V V V V l V V=>⟨_,_,l⟩
theorem Jah.rows {ts:List (Str×Tok)}{kl:Nat}(P:Jah CV CA h q p st) (hs:Heap.SameBut q.l h h') (l':h'.get? q.l=some (Jb0 (strValues ts) kl)):Jah CV CA h' q p (ts.map (·.1),st.2):=by
 have A:=P.apart
 cases P with | mk es kd ts' kl' H l e a =>
 refine ⟨es,kd,ts,kl,H.keep ((hs.2 _ fun z=>A.mU (.inl z)).trans H.obj) ((hs.2 _ fun z=>A.dU (.inl z)).trans H.dic),l',rfl,a.st (fun b o hb e=>(hs.2 b fun z=>hb.elim (fun y=>A.lc (z▸y)) fun y=>A.ld (z▸y)).trans e) fun a us n e=>(hs.2 a (Mine.apart e l rfl)).trans e⟩
end
section
variable {prog:Program}{w:World}{g:Heap}{T:Ja3}{n:Nat}{σ:Sto}{f:Addr}{CV CA:Addr}{q:Pg}{p:PgP}{ls:List Str}{ps ps':List (Str×Str)}{i i':Int}{ds:List D}{d:D}
theorem Jvy.cur (h:∀ av,ClU prog w g T n f (Jdj CA av q.c q.dx) (ps,i) ds d (ps',i')):Jvy prog w g T n σ f (pgW CV CA q p) (ls,ps,i) ds d (ls,ps',i'):=⟨fun A s ow env vs rm Z hv=>by
 have l:=Z.lists Z.w.avl
 exact Ja0 ((h _).run A s vs rm Z.F.gk ⟨Z.w.acc,l⟩ l.ok hv) fun v s' q=>by
  cases q with | mk m r wj=>exact ⟨m.sub fun V hb=>.inl (.inr hb),r,Z.w.accMv Z.F.gk m wj.1⟩⟩
end
end
section
structure Jc7 where
 CV:Addr
 cv:ClassData
 ini:Addr
 sfn:Addr
 nwl:Addr
 apc:Addr
noncomputable def Jdr:List Str:=["_maxlen", "_continuation_ws", "_continuation_ws_len", "_splitchars", "_lines", "_current_line"]
structure JI2 (K:Frag) (CV:Addr):Prop where
 ga:findIn K (.ref CV) "__getattribute__" = some (some (.builtin "object.__getattribute__"))
 gx:findIn K (.ref CV) "__getattr__" = some none
 hd:hasDictIn K CV=true
 at_:∀ x∈Jdr,findIn K (.ref CV) x=some none
structure JG2 (K:Frag) (CV:Addr) (cd:ClassData):Prop where
 sa:findIn K (.ref CV) "__setattr__" = some (some (.builtin "object.__setattr__"))
 cls:clsIn K CV=some cd
 mro:cd.mro=[.ref CV,.type "object"]
 tak:∀ x∈Jdr,takerIn K CV x=some none
 dict:cd.hasDict=true
structure Jan (prog:Program) (w:World) (K:Frag) (g:Heap) (T:Ja3) (a:Jbn) (b:Jc7):Prop where
 A:Jjs prog w K g T a
 V:JI2 K b.CV
 S:JG2 K b.CV b.cv
 mkV:makesIn K b.CV=true
 gacc:Glb g "_Accumulator" (.ref a.CA)
 kacc:keepIn K (.ref a.CA)=true
 gran:Glb g "range" (.type "range")
 ini:MF Jo2 K g b.CV "__init__" b.ini (Jak "_ValueFormatter" "__init__") [] ["self", "headerlen", "maxlen", "continuation_ws", "splitchars"]
 sfn:MF Jo2 K g b.CV "_str" b.sfn (Jak "_ValueFormatter" "_str") [] ["self", "linesep"]
 nwl:MF Jo2 K g b.CV "newline" b.nwl (Jak "_ValueFormatter" "newline") [] ["self"]
 apc:MF Jo2 K g b.CV "_append_chunk" b.apc (Jak "_ValueFormatter" "_append_chunk") [] ["self", "fws", "string"]
noncomputable def sp1:Str:=Str.ofString " "
structure Jcg (st:Pst):Prop where
 n:st.2.1.length<=800
 p:∀ x∈st.2.1,x.1.length<=1000/\x.2.length<=1000
 o:∀ x∈st.2.1,PyData.strOk x.1=true/\PyData.strOk x.2=true
 i:0<=st.2.2/\st.2.2<=1000
 l:st.1.length<=900
 m:∀ x∈st.1,x.length<=4000000
theorem Jm6 {c:Addr}:Flat (.adr c):=fun av h v r=>by cases r.i1; exact .adr _
theorem Jhs {x:Str}:Flat (.str x):=fun av h v r=>by obtain ⟨t,rfl⟩:=r.i5; exact .str _ t
theorem Jdb:Flat .none:=fun av h v r=>r.i2▸.none
theorem Jqo {b:Bool}:Flat (.bool b):=fun av h v r=>r.i3▸.bool b
section
variable {prog:Program}{w:World}{g g':Heap}{T:Ja3}{K:Frag}{n:Nat}{q:Pg}{p:PgP}{st:Pst}{ls:List Str}{ps:List (Str×Str)}{i:Int}{σ:Sto}{sc:Scope}{a:Jbn}{b:Jc7}{p0 p1 p2 pos apos:Pos}{e:Expr}
inductive Jjp (q:Pg) (p:PgP):Str->D->Prop
 | mx:Jjp q p "_maxlen" (.int p.mx)
 | cw:Jjp q p "_continuation_ws" (.str p.cw)
 | sp:Jjp q p "_splitchars" (.str p.sp)
 | ln:Jjp q p "_lines" (.adr q.l)
 | cu:Jjp q p "_current_line" (.adr q.c)
 | cl:Jjp q p "_continuation_ws_len" (.int p.cw.length)
inductive JG6 (q:Pg) (p:PgP) (es:List DictEntry) (x:Str) (d:D):Prop
 | mk (v:Value) (e:getL x es=some (some v)) (h:handedIn v=true) (r:∀ av h,VD av h v d) (m:x∈Jdr)
theorem Jx4.ent {CV:Addr}{h:Heap}{es:List DictEntry}{kd:Nat}{x:Str}{d:D}(H:Jx4 CV h q p es kd) (z:Jjp q p x d):JG6 q p es x d:=by
 cases z with
 | mx=>exact H.mx.elim fun t e=>⟨_,e,rfl,fun V V=>.int _ t,by decide⟩
 | cw=>exact H.cw.elim fun t e=>⟨_,e,rfl,fun V V=>.str _ t,by decide⟩
 | sp=>exact H.sp.elim fun t e=>⟨_,e,rfl,fun V V=>.str _ t,by decide⟩
 | ln=>exact ⟨_,H.ln,rfl,fun V V=>.adr _,by decide⟩
 | cu=>exact ⟨_,H.cu,rfl,fun V V=>.adr _,by decide⟩
 | cl=>exact H.cl.elim fun t e=>⟨_,e,rfl,fun V V=>.int _ t,by decide⟩
theorem Jx4.inst {CV:Addr}{h:Heap}{es:List DictEntry}{kd:Nat}(H:Jx4 CV h q p es kd):InstAt h q.m (instObj CV q.md) CV (some (dictOf es kd)):=⟨H.obj,rfl,rfl,H.dic⟩
theorem Ev.pg {x:Str}{d:D}{o:Expr}(B:Jan prog w K g T a b) (up:∀ b o,g.get? b=some o->g'.get? b=some o) (P:Jah b.CV a.CA g' q p st) (hi:Js8 o x pos) (ho:Ev prog w g' T n sc σ o (.adr q.m)) (z:Jjp q p x d):Ev prog w g' T n sc σ (.Attribute o x pos) d:=fun A s av env he rm hg hc=>
 Attribute_any_ (Ja0 (ho A s av env he rm hg hc) fun v sA h₁=>by
  cases h₁.2.i1
  have k:=(h₁.1.gk hg).keep
  cases P with | mk es kd ts kl H l e ac =>
  cases H.ent z with | mk v e h r m=>exact get_value (Jbo B.A.X fun b o e=>k b o (up b o e)) (H.keep (k _ _ H.obj) (k _ _ H.dic)).inst B.V.ga (findObj_own B.V.hd (B.V.at_ _ m) (by rfl) e) h ⟨h₁.1.trans (.tok _),r _ _⟩) (hi env)
theorem Jeb {m:Str}{xs:List Str}{sm:Stmt}{f:Addr}(B:Jan prog w K g T a b) (M:MF Jo2 K g b.CV m f sm [] xs) (hm:m∈Jhf):Jld prog w g ((pgW b.CV a.CA q p).Ω st) q.m f m:=fun k P z=>by
 cases P with | mk es kd ts kl H l e ac =>
 refine method_fn (Jbo B.A.X k) H.inst B.V.ga B.V.gx M.find (beq_iff_eq.mp M.isf) ?_ z
 show (getL m es).map (·.isSome)=some false
 rw [H.no m hm]; rfl
section
variable (B:Jan prog w K g T a b) (hU:∀ x,q.U x->g.get? x=none) (hs:σ.lookup (Str.ofString "self")=some (.val (.adr q.m)))
include B hs
theorem Jgr:Jer g (pgW b.CV a.CA q p) st fun g'=>Ev prog w g' T n sc σ (.Attribute (.Name "self" p0) "_current_line" p1) (.adr q.c):=fun g' up P=>.pg B up P (fun V=>rfl) (Ev.name hs) .cu
omit hs
theorem JBh (hz:Jba ps) (hi:0<=i/\i<=1000) (up:∀ b o,g.get? b=some o->g'.get? b=some o) (P:Jah b.CV a.CA g' q p (ls,ps,i)):Jlg prog w K g g' T a q.c q.dx ps i:=⟨B.A,up,P.acc,hz,hi⟩
include hs
theorem Jfu (hl:sc.names.lookup ("len" : Str)=some .globalImplicit) (hz:Jba ps) (hi:0<=i/\i<=1000):Jer g (pgW b.CV a.CA q p) (ls,ps,i) fun g'=>Ev prog w g' T (n+4) sc σ (.Call (.Name "len" p2) [.Attribute (.Name "self" p0) "_current_line" p1] [] pos) (.int (Jaf ps i)):=fun g' up P=>
 Ev.call hl (EvL.more (fun V=>rfl) (Jgr B hs g' up P) EvL.nil) (Jri (n:=n) (JBh B hz hi up P))
theorem Jj8 (hl:sc.names.lookup ("str" : Str)=some .globalImplicit) (hz:Jba ps) (hi:0<=i/\i<=1000):Jer g (pgW b.CV a.CA q p) (ls,ps,i) fun g'=>Ev prog w g' T (n+5) sc σ (.Call (.Name "str" p2) [.Attribute (.Name "self" p0) "_current_line" p1] [] pos) (.str (Jb3 ps)):=fun g' up P=>
 Ev.call hl (EvL.more (fun V=>rfl) (Jgr B hs g' up P) EvL.nil) (Jjj (n:=n) (JBh B hz hi up P))
theorem JD2 {m:Str}{P:Value->Str->Prop}{f:Addr}{sm:Stmt}{cl:List (Str×Addr)}{xs:List Str}{d:D}(M:MF P K g a.CA m f sm cl xs) (hne:(isz==m)=false) (hr:ClU prog w g T n f (Jdj a.CA [] q.c q.dx).ro (ps,i) [.adr q.c] d (ps,i)) (hd:Flat d) (hm:Jby (.Attribute (.Name "self" p0) "_current_line" p1) m apos [] pos) (hb:∀ env,attributeBase (.Attribute (.Name "self" p0) "_current_line" p1) m env (eval (.Attribute (.Name "self" p0) "_current_line" p1) env)=eval (.Attribute (.Name "self" p0) "_current_line" p1) env) (hU:∀ x,q.U x->g.get? x=none) :
  Jer g (pgW b.CV a.CA q p) (ls,ps,i) fun g'=>Ev prog w g' T n sc σ (.Call (.Attribute (.Attribute (.Name "self" p0) "_current_line" p1) m apos) [] [] pos) d:=fun g' up P=>
 Ev.own0 (W:=Jdj a.CA [] q.c q.dx) up (Jbc (hU _ (.inr (.inl rfl))) (hU _ (.inr (.inr rfl)))) B.A.X M.kee hm hb (Jgr B hs g' up P) (Jec B.A.L B.A.X M hne) hr ⟨P.acc,nofun⟩ rfl hd
theorem Jqy {m:Str}{P:Value->Str->Prop}{f:Addr}{sm:Stmt}{cl:List (Str×Addr)}{xs:List Str}{d:D}{ds:List D}{es:List Expr}{ps':List (Str×Str)}{i':Int}(hU:∀ x,q.U x->g.get? x=none) (M:MF P K g a.CA m f sm cl xs) (hne:(isz==m)=false) (hr:∀ av,ClU prog w g T n f (Jdj a.CA av q.c q.dx) (ps,i) (.adr q.c::ds) d (ps',i')) (hm:Jby (.Attribute (.Name "self" p0) "_current_line" p1) m apos (e::es) pos) (hb:∀ env,attributeBase (.Attribute (.Name "self" p0) "_current_line" p1) m env (eval (.Attribute (.Name "self" p0) "_current_line" p1) env)=eval (.Attribute (.Name "self" p0) "_current_line" p1) env) (ha:Jer g (pgW b.CV a.CA q p) (ls,ps,i) fun g'=>EvL prog w g' T n sc σ (e::es) ds) :
  EvU prog w g T n sc (pgW b.CV a.CA q p) (ls,ps,i) σ (.Call (.Attribute (.Attribute (.Name "self" p0) "_current_line" p1) m apos) (e::es) [] pos) d (ls,ps',i') :=
 EvU.own (Jaw hU) B.A.X M.kee hm hb (Jgr B hs) (fun k P=>Jec (av:=[]) B.A.L B.A.X M hne k ⟨P.acc,nofun⟩) ha (Jvy.cur hr)
theorem Jm7 {m:Str}{P:Value->Str->Prop}{f:Addr}{sm:Stmt}{cl:List (Str×Addr)}{xs:List Str}{d:D}{ps':List (Str×Str)}{i':Int}(hU:∀ x,q.U x->g.get? x=none) (M:MF P K g a.CA m f sm cl xs) (hne:(isz==m)=false) (hr:∀ av,ClU prog w g T n f (Jdj a.CA av q.c q.dx) (ps,i) [.adr q.c] d (ps',i')) (hm:Jby (.Attribute (.Name "self" p0) "_current_line" p1) m apos [] pos) (hb:∀ env,attributeBase (.Attribute (.Name "self" p0) "_current_line" p1) m env (eval (.Attribute (.Name "self" p0) "_current_line" p1) env)=eval (.Attribute (.Name "self" p0) "_current_line" p1) env) :
  EvU prog w g T n sc (pgW b.CV a.CA q p) (ls,ps,i) σ (.Call (.Attribute (.Attribute (.Name "self" p0) "_current_line" p1) m apos) [] [] pos) d (ls,ps',i') :=
 EvU.own0 (Jaw hU) B.A.X M.kee hm hb (Jgr B hs) (fun k P=>Jec (av:=[]) B.A.L B.A.X M hne k ⟨P.acc,nofun⟩) (Jvy.cur hr)
end
end
end
section
section
variable {prog:Program}{w:World}{g:Heap}{T:Ja3}{K:Frag}{n:Nat}{q:Pg}{p:PgP}{ls:List Str}{ps:List (Str×Str)}{i:Int}{σ:Sto}{sc:Scope}{a:Jbn}{b:Jc7}{p0 p1 p2 p3 p4 pos apos spos:Pos}{e:Expr}{A:Around}{s:Shared}{vs:List Value}{k:Nat}{env:Env}{E:Value->Shared->Prop}{x:Str}{pr:Str×Str}
theorem Jmm {l:Addr}{y:Value}{t:Tok}{v:Value}{Q:Unit->Shared->Prop}(ho:s.heap.get? l=some (Jb0 (vs++[y]) k))
  (h:∀ h' n',h'.get? l=some (Jb0 (vs++[v]) n')->Heap.SameBut l s.heap h'->Q () { s with heap:=h' }):wpAny (model prog w) A (setItem (.ref l) (.int (-1) t) v) Q E s:=by
 have hl:s.heap.IsList l (vs++[y]).toArray:=⟨_,ho,rfl,k,rfl⟩
 unfold setItem
 try with_reducible refine wpAny_holding ?_
 first | refine wpAny_bind (wpAny_pure ?_) | skip
 refine wpAny_bind (wpAny_sequenceKey hl.typeIs (by decide) ?_)
 refine wpAny_bind (wpAny_callSpecial?_slot (name:=Str.ofString "__setitem__") hl.typeIs slot_list_setitem
  (wpAny_call_entry slot_list_setitem hl.typeIs entry_list_setitem ?_ (args_list_setitem _ _ _)))
 show wpAny _ _ (Builtin.List.listSubscript? (.int (-1) t) >>= _) _ _ s
 refine wpAny_bind (wpAny_listSubscript_int (fitsIndex_neg (by decide) (by decide)) ?_)
 have hs:(vs++[y]).toArray.size=vs.length+1:=by simp
 have hidx:seqIndex? (-1) (vs++[y]).toArray.size=some vs.length:=by
  rw [hs,seqIndex_neg (by lia) (by lia)]; congr 1; lia
 have hx:(vs++[y]).toArray[vs.length]?=some y:=by simp
 show wpAny _ _ ((Builtin.List.listItems (.ref l) >>= fun xs=>pure ((seqIndex? (Int.negSucc 0) xs.size).bind fun i=>xs[i]?.map (i, ·))) >>= _) _ _ s
 refine wpAny_bind (wpAny_bind ?_)
 show wpAny _ _ (seqItems? (.ref l) >>= _) _ _ s
 refine wpAny_bind (wpAny_seqItems ho rfl (wpAny_pure (wpAny_pure ?_)))
 rw [show seqIndex? (Int.negSucc 0) (vs++[y]).toArray.size=some vs.length from hidx]
 simp only [Option.bind_some,hx,Option.map_some]
 show wpAny _ _ (setSeqItemAt l vs.length v >>= _) _ _ s
 have hfin:(s.heap.update l (Obj.mapSeq (·.setIfInBounds vs.length v))).get? l=some (Jb0 (vs++[v]) k):=by
  have:=PySem.IsL.update (h:=s.heap) (l:=l) (items:=(vs++[y]).toArray) (n:=k) ho (fun x=>x.setIfInBounds vs.length v)
  simpa [Jb0] using this
 refine wpAny_bind (wpAny_setSeqItemAt ho rfl ?_)
 first
  | exact wpAny_bind (wpAny_pure (wpAny_pure ⟨.none,rfl,wpAny_pure (h _ _ hfin (Heap.SameBut.update ..))⟩))
  | exact wpAny_pure ⟨.none,rfl,wpAny_pure (h _ _ hfin (Heap.SameBut.update ..))⟩
theorem Ji4 {f:Value}{first:List Value}{Q:Value->Shared->Prop}{Pr:Heap->Prop}(hk:∀ h,Pr h->∃ k,(k=Keeper.frame\/k=Keeper.machine\/k=Keeper.boundFrame)/\Looks (model prog w) h (keeperOf f) k)
  (h:wpAny (model prog w) A (eval e env) (fun v sA=>StarOf (model prog w) A E v (fun vs s2=>Pr s2.heap/\wpAny (model prog w) A (call f (first++vs)) Q E s2) sA) E s) (he:starEach [.Starred e spos] env=[(true,eval e env)]):wpAny (model prog w) A (callWith pos f first (backTo pos (starEach [.Starred e spos] env)) []) Q E s :=
 he▸ks_call rfl hk (ks_lone h)
theorem Jt2 {c:Addr}{Q:List Value->Shared->Prop}(D:s.heap.get? c=some (Jom vs k)) (hz:vs.length<=sizeLine) (h:∀ h',(∀ b o,s.heap.get? b=some o->h'.get? b=some o)->Q vs { s with heap:=h' }):StarOf (model prog w) A E (.ref c) Q s :=
 wpAny_bind (wpAny_specialOf (T := "tuple") ⟨_,D,rfl⟩ PySem.F.slot_tuple_iter.lookup (wpAny_pure ⟨rfl,wpAny_collect_seq c (.inr rfl) D rfl rfl (fun h' hk=>h h' hk) hz⟩))
theorem Jey {M:Model}{E:Value->Shared->Prop}{o:Expr}{name:Str}{args:List Expr}{Q:Value->Shared->Prop}(hb:∀ env,attributeBase o name env (eval o env)=eval o env)
  (h:wpAny M A (eval o env) (fun ov sA=>wpAny M A (getAttr ov name true) (fun f s2=>wpAny M A (callWith pos f [] (backTo pos (starEach args env)) []) Q E s2) E sA) E s) (he:methodCallForm (args.length+0) (backTo pos (starEach args env)) []=false) :
  wpAny M A (eval (.Call (.Attribute o name apos) args [] pos) env) Q E s:=by
 rw [arm_eval_Call,hb env]
 refine wpAny_bind (wpAny_mono h (fun ov sA h₁=>wpAny_bind (wpAny_standAt ?_)) fun V V x=>x)
 show wpAny M A (holding [ov] (calleeOf (methodCallForm (args.length+0) (backTo pos (starEach args env)) []) o env ov name) >>= fun p=>methodCallPos (methodCallForm (args.length+0) (backTo pos (starEach args env)) []) o env apos pos >>= fun c=>callWith c p.1 p.2 (backTo pos (starEach args env)) []) Q E sA
 rw [he]
 exact wpAny_bind (wpAny_holding (wpAny_bind (wpAny_mono h₁ (fun f s2 h₂=>wpAny_pure (wpAny_bind (wpAny_pure h₂:wpAny M A (pure pos) _ E s2))) fun V V x=>x)))
theorem Jkw (B:Jan prog w K g T a b) (hU:∀ x,q.U x->g.get? x=none) (hs:σ.lookup (Str.ofString "self")=some (.val (.adr q.m))) (hx:σ.lookup x=some (.val (chD pr))) (hz:ps.length<=900) :
  EvU prog w g T (n+1) sc (pgW b.CV a.CA q p) (ls,ps,i) σ (.Call (.Attribute (.Attribute (.Name "self" p0) "_current_line" p1) "push" p2) [.Starred (.Name x p3) p4] [] pos) .none (ls,ps++[pr],i):=fun A s ow env he rm Z=>by
 have ok:=Jaw (CV:=b.CV) (CA:=a.CA) (p:=p) hU
 refine Jey (fun V=>rfl) (Ja0 (EvU.gnd ok (Jgr B hs) A s ow env he rm Z) fun ov sA h₁=>?_) rfl
 cases h₁ with | mk mP r1 wA =>
 cases r1.i1
 have Z1:=Z.out ok mP wA
 have Xs:=Jbo B.A.X Z1.F.gk.keep
 cases Z1.w.acc with | mk qs k kd hs' tk t ep ac =>
 refine Jpz (g:=.builtin "function.__get__") (a:=.ref a.psh) Xs (Jbr ac.o ac.d) B.A.L.ga B.A.L.gx (Jeq B.A.L.toLCls Xs ac.o) ?_ (wpAny_call (fn_get (s:={ sA with toks:=sA.toks+1 }) Xs (beq_iff_eq.mp B.A.psh.isf) ?_))
 ·exact findObj_fn B.A.L.hd B.A.psh.find B.A.pshG B.A.pshT (by decide) rfl
 ·refine (wpAny_of_eq (handedOut_of (v:=.ref sA.heap.objs.size) rfl) ?_:wpAny (model prog w) A (handedOut (.ref sA.heap.objs.size)) _ NoE _)
  have xA:Ext g T sA { sA with toks:=sA.toks+1,heap:=sA.heap.push (methodObj (.ref a.psh) (.ref q.c)) }:=Ext.trans (s':={ sA with toks:=sA.toks+1 }) (.tok _) (.push _)
  have hq:(sA.heap.push (methodObj (.ref a.psh) (.ref q.c))).get? sA.heap.objs.size=some (methodObj (.ref a.psh) (.ref q.c)):=Heap.get?_push_size _ rfl
  have Z2:=Z1.ext ok xA
  refine Ji4 (Pr:=MethP K sA.heap.objs.size a.psh (.ref q.c)) (fun h=>keeps_M B.A.psh.fni h) ?_ rfl
  cases Z2.F.ec.vars x _ hx with | mk v l r =>
  cases VD.i7 r with | mk na e rB =>
  cases rB.pair with | mk t1 t2 =>
  refine Jab Z2.F.ec.kind l (Jt2 e (show (2:Nat)<=sizeLine by decide) fun h' hk=>?_)
  have xB:Ext g T sA { sA with toks:=sA.toks+1,heap:=h' }:=xA.trans (.of h' (sA.toks+1) hk)
  have Z3:=Z1.ext ok xB
  refine ⟨⟨hk _ _ hq,Jbo B.A.X Z3.F.gk.keep⟩,wpAny_call (method_call (hk _ _ hq) ?_)⟩
  have l:=Z3.lists Z3.w.avl
  refine codeAny_mono (Jr9 (W:=Jdj a.CA (ow.adr++[q.l]) q.c q.dx) B.A.psh (Jbc (hU _ (.inr (.inl rfl))) (hU _ (.inr (.inr rfl)))) rfl (Jfz (q:=pr) B.A.L.toLCls B.A.X (hU _ (.inr (.inl rfl))) (hU _ (.inr (.inr rfl))) hz) rm Z3.F.gk ⟨Z3.w.acc,l⟩ l.ok (.cons (.adr _) (.cons (.str _ t1) (.cons (.str _ t2) .nil)))) fun r s4 h₄=>?_
  rcases r with e | (v | _ | _ | _) <;> first | exact h₄.elim | skip
  cases h₄ with | mk m4 r4 w4=>exact ⟨mP.trans (Mv.trans xB.mv m4 fun b hb=>.inl (.inr hb)) fun b hb=>.inl hb,r4,Z3.w.accMv Z3.F.gk m4 w4.1⟩
end
end
section
section
variable {prog:Program}{w:World}{g g':Heap}{T:Ja3}{K:Frag}{n:Nat}{q:Pg}{p:PgP}{st:Pst}{ls:List Str}{ps:List (Str×Str)}{i:Int}{σ:Sto}{sc:Scope}{a:Jbn}{b:Jc7}{p0 p1 p2 p4 p5 pos apos cpos:Pos}{kk:Nat}{e:Expr}{A:Around}{s sA:Shared}{env:Env}{x y:Str}{ow:Ow}
theorem Jfa (ts:List (Str×Tok)) (x:Str) (t:Tok):strValues ts++[Value.str x t]=strValues (ts++[(x,t)]):=by unfold strValues; rw [List.map_append]; rfl
theorem Jlq {h':Heap}{ts ts':List (Str×Tok)}{kl kl':Nat}{d:D}{v:Value}{av:List Addr}(hU:∀ x,q.U x->g.get? x=none) (m:Mv g T (pgW b.CV a.CA q p).U s sA) (P:Jah b.CV a.CA sA.heap q p st) (o:sA.heap.get? q.l=some (Jb0 (strValues ts) kl)) (hs:Heap.SameBut q.l sA.heap h') (e:h'.get? q.l=some (Jb0 (strValues ts') kl')) (r:VD av h' v d) :
  Jlb (pgW b.CV a.CA q p) g T av s d (ts'.map (·.1),st.2) v { sA with heap:=h' } :=
 ⟨m.trans (Mv.one (tk:=sA.toks) hs o (Jf4 _ _) (hU _ (.inl rfl)) (.inl rfl:(pgW b.CV a.CA q p).U q.l)) fun V hb=>.inl hb,r,P.rows hs e⟩
theorem Jja (B:Jan prog w K g T a b) (hU:∀ x,q.U x->g.get? x=none) (hs:σ.lookup (Str.ofString "self")=some (.val (.adr q.m))) (hln:(apos.endLine==cpos.line)=true) (hst:∀ env,starEach [e] env=[(false,eval e env)]) (he:Jer g (pgW b.CV a.CA q p) (ls,ps,i) fun g'=>Ev prog w g' T n sc σ e (.str x)) (hl:ls.length<=1000) :
  EvU prog w g T n sc (pgW b.CV a.CA q p) (ls,ps,i) σ (.Call (.Attribute (.Attribute (.Name "self" p0) "_lines" p1) "append" apos) [e] [] cpos) .none (ls++[x],ps,i):=fun A s ow env hev rm Z=>by
 have ok:=Jaw (CV:=b.CV) (CA:=a.CA) (p:=p) hU
 refine wpAny_Call_method_late rfl (by rw [hst]; rfl) hln rfl (Ja0 (EvU.gnd ok (fun g' up P=>Ev.pg B up P (fun V=>rfl) (Ev.name hs) .ln) A s ow env hev rm Z) fun ov sA h₁=>?_)
 cases h₁ with | mk mP r1 wA =>
 cases r1.i1
 have Z1:=Z.out ok mP wA
 have k:∃ vs kl,sA.heap.get? q.l=some (Jb0 vs kl):=wA.avl _ (.head _)
 obtain ⟨_,_,e1⟩:=k
 refine ⟨"list", "list.append",PySem.F.plainAttrs_list,PySem.F.slot_list_append,PySem.F.type_list_append,⟨_,e1,rfl⟩,fun b hb=>by cases hb; exact ⟨_,e1,rfl⟩,?_⟩
 refine callWith_method1 (Ja0 ((EvL.more hst (FmW.over ok Z1.F.gk Z1.w he) EvL.nil).run A sA _ env cpos hev rm (Z1.F.gk.core .refl) Z1.F.ec) fun us s2 h₂=>?_) (hst _) rfl
 have xB:=h₂.1.base (g:=g) (Z1.F.gk.core .refl)
 have Z2:=Z1.ext ok xB
 cases h₂.2.one1 with | mk r =>
 obtain ⟨t,rfl⟩:=r.i5
 cases (show Jah b.CV a.CA s2.heap q p (ls,ps,i) from Z2.w) with | mk es kd ts kl H l el ac =>
 have hz:(strValues ts).length<=1000:=by rw [strValues,List.length_map, <- List.length_map (f:=(·.1)),el]; exact hl
 refine wpAny_list_append_plain ⟨kl,l⟩ (fun h' hp hs'=>?_) (by rw [List.size_toArray]; exact Nat.le_trans hz (by decide))
 obtain ⟨k',e6⟩:=hp
 have e7:h'.get? q.l=some (Jb0 (strValues (ts++[(x,t)])) k'):=by rw [<- Jfa]; simpa [List.push_toArray] using e6
 have o:=Jlq (T:=T) (s:=s) (d:=.none) (v:=.none) (av:=ow.adr++[q.l]) hU (mP.trans xB.mv fun V f=>.inl f) Z2.w l hs' e7 .none
 rw [List.map_append,el] at o
 exact o
theorem Jop (B:Jan prog w K g T a b) (hU:∀ x,q.U x->g.get? x=none) (hs:σ.lookup (Str.ofString "self")=some (.val (.adr q.m))) (he:Jer g (pgW b.CV a.CA q p) (ls++[y],ps,i) fun g'=>Ev prog w g' T n sc σ e (.str x)) (hl:ls.length<=1000) (hx:y.length+x.length<=6000000) :
  SxU prog w g T n sc (pgW b.CV a.CA q p) (ls++[y],ps,i) σ (.AugAssign (.Subscript (.Attribute (.Name "self" p0) "_lines" p1) (.UnaryOp .USub (.Constant (.int 1) kk p4) p5) p2) .Add e pos) (.next σ) (ls++[y++x],ps,i):=fun A s ow env hev hoc rm Z=>by
 have ok:=Jaw (CV:=b.CV) (CA:=a.CA) (p:=p) hU
 refine wpAny_AugAssign_SubscriptAny (Ja0 (EvU.gnd ok (fun g' up P=>Ev.pg B up P (fun V=>rfl) (Ev.name hs) .ln) A s ow env hev rm Z) fun ov sA h₁=>?_)
 cases h₁ with | mk mP r1 wA =>
 cases r1.i1
 have Z1:=Z.out ok mP wA
 refine Ja0 ((Ev.neg Ev.int:Ev prog w g T n sc σ _ (.int (-1))) A _ _ env hev rm Z1.F.gk Z1.F.ec) fun v s2 h₂=>?_
 obtain ⟨_,rfl⟩:=h₂.2.i4
 have Z2:=Z1.ext ok h₂.1
 cases (show Jah b.CV a.CA s2.heap q p (ls++[y],ps,i) from Z2.w) with | mk es kd ts kl H l el ac =>
 rcases List.eq_nil_or_concat ts with rfl | ⟨ts,⟨y',t'⟩,rfl⟩
 ·exact nomatch (congrArg List.length el).trans List.length_append
 rw [List.concat_eq_append] at l el
 rw [List.map_append] at el
 have e2:=List.append_inj' el rfl
 have ey:y=y':=(List.head_eq_of_cons_eq e2.2).symm
 subst ey
 rw [<- Jfa] at l
 have hlt:(strValues ts).length<=1000:=by rw [strValues,List.length_map, <- List.length_map (f:=(·.1)),e2.1]; exact hl
 have hsz:(strValues ts++[Value.str y t']).toArray.size=(strValues ts).length+1:=by rw [List.size_toArray,List.length_append]; rfl
 refine wpAny_getItem_list_neg (x:=.str y t') ⟨_,l,rfl,kl,rfl⟩ (by decide) (by rw [hsz]; lia) (by decide) (by
  rw [hsz,show ((-1:Int)+(((strValues ts).length+1:Nat):Int)).toNat=(strValues ts).length by lia,List.getElem?_toArray]; exact List.getElem?_concat_length) ?_
 refine Ja0 (FmW.over ok Z2.F.gk Z2.w he A s2 _ env hev rm (Z2.F.gk.core .refl) Z2.F.ec) fun v s3 h₃=>?_
 obtain ⟨t,rfl⟩:=h₃.2.i5
 have x3:=h₃.1.base (g:=g) (Z2.F.gk.core .refl)
 refine iadd_str (fun t4 kD=>?_) (show _<=sizeLine from Nat.le_trans hx (by decide))
 have x:=(h₂.1.trans x3).trans (.tok kD)
 have Z4:=Z1.ext ok x
 have l4:=(x3.trans (.tok kD)).get' Z2.F.gk l (Jai _ _)
 refine Jmm l4 fun h' n' e5 hs'=>?_
 rw [Jfa] at l4 e5
 have o:=Jlq (T:=T) (s:=s) (d:=.none) (v:=.none) (av:=[]) hU (mP.trans x.mv fun V f=>.inl f) Z4.w l4 hs' e5 .none
 rw [List.map_append,e2.1] at o
 exact o.next ok Z
end
end
section
noncomputable def Jc9 (ps:List (Str×Str)):List (Str×Str):=if (Jcm ps != (sp1,es0))=true then ps.dropLast++[Jcm ps] else ps.dropLast
noncomputable def Ji7 (ls:List Str) (x:Str) (j:Bool):List Str:=if (j && !ls.isEmpty)=true then ls.dropLast++[ls.getLast?.getD es0++x] else ls++[x]
noncomputable def nlF (ls:List Str) (ps:List (Str×Str)) (i:Int):List Str:=if decide (Jaf (Jc9 ps) i>0)=true then Ji7 ls (Jb3 (Jc9 ps)) (Je9 (Jc9 ps) i) else ls
theorem Jj1 {ps:List (Str×Str)}:Jcm ps=(es0,es0)\/Jcm ps∈ps:=by
 unfold Jcm
 cases h:ps.getLast? with
 | none=>exact .inl rfl
 | some x=>exact .inr (List.mem_of_getLast? h)
theorem Jn5 {ps:List (Str×Str)}:∀ x∈Jc9 ps,x=(es0,es0)\/x∈ps:=fun x hx=>by
 have h0:x∈ps.dropLast->x∈ps:=fun h=>(List.dropLast_sublist ps).subset h
 unfold Jc9 at hx
 by_cases c:(Jcm ps != (sp1,es0))=true
 ·rw [if_pos c] at hx
  exact (List.mem_append.mp hx).elim (fun h=>.inr (h0 h)) fun h=>List.mem_singleton.mp h▸Jj1
 ·rw [if_neg c] at hx; exact .inr (h0 hx)
theorem Jn6 (ps:List (Str×Str)):(Jc9 ps).length<=ps.length+1:=by
 have h:ps.dropLast.length<=ps.length:=(List.dropLast_sublist ps).length_le
 unfold Jc9
 by_cases c:(Jcm ps != (sp1,es0))=true
 ·rw [if_pos c,List.length_append]; exact Nat.succ_le_succ h
 ·rw [if_neg c]; exact Nat.le_succ_of_le h
theorem Jcg.sp {st:Pst}(h:Jcg st):Jba st.2.1:=⟨Nat.le_trans h.n (by decide),h.p⟩
theorem Jcg.pop {st:Pst}(h:Jcg st):Jba (Jc9 st.2.1) :=
 ⟨Nat.le_trans (Jn6 _) (Nat.le_trans (Nat.succ_le_succ h.n) (by decide)),fun x hx=>(Jn5 x hx).elim (fun e=>e▸by decide) (h.p x)⟩
theorem Jv5 (a b:Str×Str):(PyData.tuple [.str a.1,.str a.2]).eqv (.tuple [.str b.1,.str b.2])=(a==b):=by
 show (a.1==b.1&&(a.2==b.2&&true))=(a.1==b.1&&a.2==b.2)
 rw [Bool.and_true]
section
variable {prog:Program}{w:World}{g g':Heap}{T:Ja3}{K:Frag}{n:Nat}{q:Pg}{p:PgP}{ls:List Str}{ps:List (Str×Str)}{i:Int}{σ:Sto}{a:Jbn}{b:Jc7}
theorem Jr3 {x:Str×Str}(h:PyData.strOk x.1=true/\PyData.strOk x.2=true):Dp 9 (chD x) (.tuple [.str x.1,.str x.2]):=.tup (.cons (.str h.1) (.cons (.str h.2) .nil))
noncomputable abbrev nlB:List Stmt:=Ja5 (Jak "_ValueFormatter" "newline")
noncomputable abbrev JGl:Scope:=Ja2 (Jak "_ValueFormatter" "newline")
variable (B:Jan prog w K g T a b) (hU:∀ x,q.U x->g.get? x=none)
include B hU
theorem Jgx:g.get? q.c=none:=hU _ (.inr (.inl rfl))
theorem Jgw:g.get? q.dx=none:=hU _ (.inr (.inr rfl))
theorem Jqx {p0 p1:Pos}{sc:Scope}(hs:σ.lookup (Str.ofString "self")=some (.val (.adr q.m))) (hl:ls.length<=1000):Jer g (pgW b.CV a.CA q p) (ls,ps,i) fun g'=>EvT prog w g' T n sc σ (.Attribute (.Name "self" p0) "_lines" p1) (!ls.isEmpty):=fun g' up P A s av env he rm hg hc=>
 wpAny_isTrue_value (Ja0 (Ev.pg B up P (fun V=>rfl) (Ev.name hs) .ln A s av env he rm hg hc) fun v sA h₁=>by
  cases h₁.2.i1
  cases (show Jah b.CV a.CA g' q p (ls,ps,i) from P) with | mk es kd ts kl H l el ac =>
  have hz:ts.length=ls.length:=(List.length_map ..).symm.trans (congrArg List.length el)
  refine wpAny_truthy_list ⟨_,(h₁.1.gk hg).keep _ _ l,rfl,kl,rfl⟩ (by rw [List.size_toArray,strValues,List.length_map,hz]; exact Int.lt_of_le_of_lt (Int.ofNat_le.mpr hl) (by decide)) ⟨?_,h₁.1.trans (.tok _)⟩
  have el:ts.map (·.1)=ls:=el
  rw [<- el]
  cases ts <;> rfl) rfl
theorem Jtj (hs:σ.lookup (Str.ofString "self")=some (.val (.adr q.m))) (hf:(froz σ).lookup (Str.ofString "self")=some (.val (.adr q.m))) (hz:Jba ps) (hi:0<=i/\i<=1000) (hl:ls.length<=900) (hm:∀ x∈ls,x.length<=4000000) :
  SxU prog w g T (n+6) JGl (pgW b.CV a.CA q p) (ls,ps,i) σ (nth nlB 2) (.next σ) (if decide (Jaf ps i>0)=true then Ji7 ls (Jb3 ps) (Je9 ps i) else ls,ps,i):=by
 have ok:=Jaw (CV:=b.CV) (CA:=a.CA) (p:=p) hU
 refine SxU.ite ok (fun g' up P=>EvT.cmp ((Jfu (n:=n+2) B hf rfl hz hi) g' up P) Ev.int rfl Jwy) ?_
 by_cases h0:decide (Jaf ps i>0)=true
 ·rw [h0]
  have only:Jer g (pgW b.CV a.CA q p) (ls,ps,i) fun g'=>EvT prog w g' T (n+6) JGl (froz σ) (stP (nth (stP (nth nlB 2)).body 0)).test (Je9 ps i&&(!ls.isEmpty&&true)):=fun g' up P=>
   EvT.bool (EvA.and_cons (EvT.val ((JD2 B hf B.A.ows (by decide) (JDa (n:=n) B.A hz hi) Jqo (fun V=>⟨_,rfl⟩) (fun V=>rfl) hU) g' up P) (fun V V=>rfl) Jh5) fun V=>EvA.and_cons (Jqx B hU hf (Nat.le_trans hl (by decide:900<=1000)) g' up P) fun V=>EvA.and_nil)
  rw [Bool.and_true] at only
  refine Jam.cons ok (SxU.ite ok only ?_) Jam.nil
  unfold Ji7
  by_cases c:(Je9 ps i && !ls.isEmpty)=true
  ·rw [c]
   rcases List.eq_nil_or_concat ls with rfl | ⟨ls,y,rfl⟩
   ·exact nomatch (Bool.and_eq_true_iff.mp c).2
   rw [List.concat_eq_append] at hl hm ⊢
   have e:(ls++[y]).dropLast++[(ls++[y]).getLast?.getD es0++Jb3 ps]=ls++[y++Jb3 ps]:=by rw [List.dropLast_concat,List.getLast?_concat]; rfl
   exact e▸Jam.cons ok (Jop B hU hs ((Jj8 (n:=n+1) B hs rfl hz hi)) (Nat.le_trans (Nat.le_add_right ..) (Nat.le_trans (List.length_append▸hl) (by decide))) (Nat.le_trans (Nat.add_le_add (hm y (List.mem_append_right _ (.head _))) hz.textLen) (by decide))) Jam.nil
  ·rw [Bool.not_eq_true] at c
   rw [c]
   exact Jam.cons ok (SxU.expr ok (Jja B hU hs rfl (fun V=>rfl) (Jj8 (n:=n+1) B hs rfl hz hi) (Nat.le_trans hl (by decide))) (fun V V V=>rfl)) Jam.nil
 ·rw [Bool.not_eq_true] at h0; rw [h0]; exact Jam.nil
theorem Jnp (hz:Jcg (ls,ps,i)):ClU prog w g T (n+7) b.nwl (pgW b.CV a.CA q p) (ls,ps,i) [.adr q.m] .none (nlF ls ps i,[],0):=by
 have ok:=Jaw (CV:=b.CV) (CA:=a.CA) (p:=p) hU
 have hn:ps.length<=900:=Nat.le_trans hz.n (by decide)
 have hp:=hz.pop
 refine ClU.of (R:=.next _) B.nwl ok rfl (Jam.cons ok (SxU.assign (d:=chD (Jcm ps)) ok (Jm7 B rfl hU B.A.pop (by decide) (fun av=>JD9 (n:=n+4) B.A.S B.A.popP B.A.L B.A.X (Jgx B hU) (Jgw B hU) B.A.pop B.A.popA B.A.pcn (fun ps=>Jrg (n:=n+4) B.A.S B.A.pcnP B.A.L B.A.X B.A.pcn B.A.lenA) hn) (fun V=>⟨_,rfl⟩) (fun V=>rfl)) (fun V V V=>rfl) rfl)
  (Jam.cons (σA:=(Str.ofString "end_of_line",.val (chD (Jcm ps)))::params ["self"] [.adr q.m]) (j:=(ls,Jc9 ps,i)) ok ?_ (Jam.cons ok (Jtj B hU rfl rfl hp hz.i hz.l hz.m) (Jam.cons ok (SxU.expr ok (Jm7 B rfl hU B.A.rst (by decide) (fun av=>Jrf (n:=n+4) B.A.L.toLCls B.A.X (Jgx B hU) (Jgw B hU) hp.n B.A.Y B.A.rs0 B.A.rst) (fun V=>⟨_,rfl⟩) (fun V=>rfl)) (fun V V V=>rfl)) Jam.nil))))
 refine SxU.ite (b:=Jcm ps != (sp1,es0)) ok (fun g' up P=>?_) ?_
 ·rw [show (Jcm ps != (sp1,es0)) = !(Jcm ps==(sp1,es0)) from rfl, <- Jv5]
  exact EvT.cmp (Ev.name rfl) (Ev.tup (EvL.more (fun V=>rfl) Ev.str (EvL.more (fun V=>rfl) Ev.str EvL.nil)) (show (2:Nat)<=lim by decide)) rfl (JA4 (Jr3 (Jj1.elim (fun e=>e▸⟨by decide +kernel,by decide +kernel⟩) (hz.o _))) (Jr3 (x:=(sp1,es0)) ⟨by decide +kernel,by decide +kernel⟩))
 ·unfold Jc9
  by_cases c:(Jcm ps != (sp1,es0))=true
  ·rw [c]
   exact Jam.cons ok (SxU.expr ok (Jkw (n:=n+5) B hU rfl rfl (Nat.le_trans (List.dropLast_sublist ps).length_le hn)) (fun V V V=>rfl)) Jam.nil
  ·rw [Bool.not_eq_true] at c; rw [c]; exact Jam.nil
end
end
section
section
variable {prog:Program}{w:World}{g g':Heap}{T:Ja3}{K:Frag}{n:Nat}{q:Pg}{p:PgP}{ls:List Str}{ps:List (Str×Str)}{i:Int}{σ:Sto}{sc:Scope}{a:Jbn}{b:Jc7}{p0 p1 p2 pos apos:Pos}{x sep:Str}
variable (B:Jan prog w K g T a b)
include B
theorem Jjb (hs:σ.lookup (Str.ofString "self")=some (.val (.adr q.m))) (hx:σ.lookup x=some (.val (.str sep))) (hln:(apos.endLine==pos.line)=true) (h1:Jgi sep ls<=lim) (h2:(Str.join sep ls).length<=lim) :
  Jer g (pgW b.CV a.CA q p) (ls,ps,i) fun g'=>Ev prog w g' T n sc σ (.Call (.Attribute (.Name x p0) "join" apos) [.Attribute (.Name "self" p1) "_lines" p2] [] pos) (.str (Str.join sep ls)):=fun g' up P A s av env he rm hg hc=>
 wpAny_Call_method_late rfl rfl hln rfl (Ja0 (Ev.name hx A s av env he rm hg hc) fun ov sA h₁=>by
  obtain ⟨t,rfl⟩:=h₁.2.i5
  have gA:=h₁.1.gk hg
  refine ⟨"str", "str.join",PySem.F.plainAttrs_str,PySem.F.slot_str_join,PySem.F.type_str_join,typeIs_str _ _ _,nofun,callWith_method1 (Ja0 ((EvL.more (fun V=>rfl) (Ev.pg B up P (fun V=>rfl) (Ev.name hs) .ln) EvL.nil).run A sA av env pos he rm gA (hc.ext h₁.1 hg)) fun us s2 h₂=>?_) rfl rfl⟩
  cases h₂.2.one1 with | mk r =>
  cases r.i1
  cases (show Jah b.CV a.CA g' q p (ls,ps,i) from P) with | mk es kd ts kl H l el ac =>
  have el:ts.map (·.1)=ls:=el
  subst el
  exact Ja0 (call_meets F.slot_str_join (typeIs_str _ _ _) F.entry_str_join (F.args_str_join_2 _ _) (meets_str_join_list sep t _ ts (decide_eq_false (by
   rw [List.foldl_toArray]
   exact Nat.not_lt.mpr (Nat.le_trans (Nat.le_trans h1 (Nat.le_add_left ..)) Je8)))) ⟨⟨_,(h₂.1.gk gA).keep _ _ l,rfl,_,rfl⟩,Jj3 h2⟩) fun v s3 h₃=>⟨(h₁.1.trans h₂.1).trans h₃.1,h₃.2⟩)
variable (hU:∀ x,q.U x->g.get? x=none)
include hU
theorem Jj9 (hm:Jby (.Name "self" p0) "newline" apos [] pos) (hs:σ.lookup (Str.ofString "self")=some (.val (.adr q.m))) (hz:Jcg (ls,ps,i)):EvU prog w g T (n+7) sc (pgW b.CV a.CA q p) (ls,ps,i) σ (.Call (.Attribute (.Name "self" p0) "newline" apos) [] [] pos) .none (nlF ls ps i,[],0) :=
 .own0 (Jaw hU) B.A.X B.nwl.kee hm (fun V=>rfl) (fun V V V=>Ev.name hs) (Jeb B B.nwl (by decide)) (.of (Jnp B hU hz) Jdb)
theorem Jno (hz:Jcg (ls,ps,i)) (h1:Jgi sep (nlF ls ps i)<=lim) (h2:(Str.join sep (nlF ls ps i)).length<=lim):ClU prog w g T (n+8) b.sfn (pgW b.CV a.CA q p) (ls,ps,i) [.adr q.m,.str sep] (.str (Str.join sep (nlF ls ps i))) (nlF ls ps i,[],0):=by
 have ok:=Jaw (CV:=b.CV) (CA:=a.CA) (p:=p) hU
 exact ClU.of (R:=.ret _) B.sfn ok rfl (Jam.cons ok (SxU.expr ok (Jj9 B hU (fun V=>⟨_,rfl⟩) rfl hz) (fun V V V=>rfl)) (Jam.last (SxU.ret (EvU.gnd ok (Jjb B rfl rfl rfl h1 h2)))))
end
end
section
theorem Jt4 {m:Nat}(h:m≠0):seqIndex? 0 m=some 0:=by
 unfold seqIndex?
 exact if_pos (by simpa using Nat.pos_of_ne_zero h)
noncomputable abbrev acB:List Stmt:=Ja5 (Jak "_ValueFormatter" "_append_chunk")
noncomputable abbrev JHy:Scope:=Ja2 (Jak "_ValueFormatter" "_append_chunk")
section
variable {prog:Program}{w:World}{g:Heap}{T:Ja3}{K:Frag}{q:Pg}{a:Jbn}{b:Jc7}{x:Str}
section
variable (B:Jan prog w K g T a b) (hU:∀ x,q.U x->g.get? x=none)
include B hU
end
end
end
section
section
variable {prog:Program}{w:World}{g:Heap}{T:Ja3}{K:Frag}{q:Pg}{p:PgP}{ps:List (Str×Str)}{pr:Str×Str}{a:Jbn}{b:Jc7}
noncomputable abbrev σac (m:Addr) (pr:Str×Str):Sto:=params ["self", "fws", "string"] [.adr m,.str pr.1,.str pr.2]
theorem Jba.snoc (h:Jba ps) (hn:ps.length<=800) (hx:pr.1.length<=1000/\pr.2.length<=1000):Jba (ps++[pr]) :=
 ⟨by rw [List.length_append]; exact Nat.le_trans (Nat.add_le_add_right hn 1) (by decide),fun x hm=>(List.mem_append.mp hm).elim (h.p x) fun e=>List.mem_singleton.mp e▸hx⟩
section
variable (B:Jan prog w K g T a b) (hU:∀ x,q.U x->g.get? x=none) (hsp:p.sp=sp1)
include B hU hsp
end
end
end
section
section
variable {prog:Program}{w:World}{g:Heap}{T:Ja3}{K:Frag}{n:Nat}{q:Pg}{p:PgP}{ls:List Str}{ps:List (Str×Str)}{pr:Str×Str}{i:Int}{σ:Sto}{sc:Scope}{a:Jbn}{b:Jc7}{p1 p2 p3 pos:Pos}{x y:Expr}
section
variable (B:Jan prog w K g T a b) (hU:∀ x,q.U x->g.get? x=none)
include B hU
theorem Jqw (hm:Jby (.Attribute (.Name "self" p1) "_current_line" p2) "push" p3 [x,y] pos) (hst:Jlc x) (hst':Jlc y) (hs:σ.lookup (Str.ofString "self")=some (.val (.adr q.m))) (hz:ps.length<=900) (hx:∀ g',Ev prog w g' T (n+1) sc σ x (.str pr.1)) (hy:∀ g',Ev prog w g' T (n+1) sc σ y (.str pr.2)) :
  EvU prog w g T (n+1) sc (pgW b.CV a.CA q p) (ls,ps,i) σ (.Call (.Attribute (.Attribute (.Name "self" p1) "_current_line" p2) "push" p3) [x,y] [] pos) .none (ls,ps++[pr],i) :=
 Jqy B hs hU B.A.psh (by decide) (fun av=>.of (R:=.next _) B.A.psh (Jbc (Jgx B hU) (Jgw B hU)) rfl (Jfz B.A.L.toLCls B.A.X (Jgx B hU) (Jgw B hU) hz)) hm (fun V=>rfl) fun g' V V=>.more (hst _) (hx g') (.more (hst' _) (hy g') .nil)
variable (hsp:p.sp=sp1)
include hsp
end
end
end
section
noncomputable abbrev FD (v:Value) (d:D):Prop:=∀ av h,VD av h v d
inductive Jjq:List (Str×D)->List DictEntry->Prop
 | nil:Jjq [] []
 | cons {x:Str}{d:D}{v:Value}{xs:List (Str×D)}{es:List DictEntry}(hs:Int) (tk:Tok) (f:FD v d) (r:Jjq xs es):Jjq ((x,d)::xs) (⟨hs,.str x tk,v⟩::es)
section
variable {xs:List (Str×D)}{es:List DictEntry}{x:Str}{d:D}{v:Value}
theorem Jjq.snoc (r:Jjq xs es) (hs:Int) (tk:Tok) (f:FD v d):Jjq (xs++[(x,d)]) (es++[⟨hs,.str x tk,v⟩]):=by
 induction r with
 | nil=>exact .cons hs tk f .nil
 | cons hs tk f _ ih=>exact .cons hs tk f ih
theorem Jjq.length (r:Jjq xs es):es.length=xs.length:=by
 induction r with
 | nil=>rfl
 | cons _ _ _ _ ih=>exact congrArg (· + 1) ih
theorem Jjq.plain (r:Jjq xs es):es.any (·.refKey)=false:=by
 induction r with
 | nil=>rfl
 | cons _ _ _ _ ih=>rw [List.any_cons,ih]; rfl
theorem Jjq.away (r:Jjq xs es) (h:(xs.all fun p=> !(p.1==x))=true):∀ e∈es,e.key.isStr x=false:=by
 induction r with
 | nil=>exact fun V h=>(List.not_mem_nil h).elim
 | cons _ _ _ _ ih =>
  rw [List.all_cons,Bool.and_eq_true] at h
  exact fun e he=>(List.mem_cons.mp he).elim (fun z=>z▸(Bool.not_eq_true' _).mp h.1) (ih h.2 e)
theorem Jjq.no (r:Jjq xs es) (h:(xs.all fun p=> !(p.1==x))=true):getL x es=some none:=by
 unfold getL
 rw [List.find?_eq_none.mpr fun e he=>by rw [r.away h e he]; exact Bool.false_ne_true,r.plain]
 rfl
inductive JI7 (x:Str) (es:List DictEntry) (d:D):Prop
 | mk (v:Value) (e:getL x es=some (some v)) (f:FD v d)
theorem Jjq.get (r:Jjq xs es) (h:xs.lookup x=some d):JI7 x es d:=by
 induction r with
 | nil=>exact nomatch h
 | @cons y d' v xs es hs tk f r ih =>
  by_cases c:(x==y)=true
  ·rw [List.lookup_cons,c] at h
   cases h
   exact ⟨v,by unfold getL; rw [List.find?_cons,show (Value.str y tk).isStr x=true from beq_iff_eq.mpr (beq_iff_eq.mp c).symm],f⟩
  ·rw [Bool.not_eq_true] at c
   rw [List.lookup_cons,c] at h
   cases ih h with | mk v e f =>
   refine ⟨v,?_,f⟩
   rw [<- e]
   unfold getL
   rw [List.find?_cons,show (Value.str y tk).isStr x=false from beq_eq_false_iff_ne.mpr (beq_eq_false_iff_ne.mp c).symm,List.any_cons]
   rfl
end
inductive JEh (CV:Addr) (h:Heap) (m md:Addr) (xs:List (Str×D)):Prop
 | mk (es:List DictEntry) (kd:Nat) (o:h.get? m=some (instObj CV md)) (d:h.get? md=some (dictOf es kd)) (r:Jjq xs es)
noncomputable abbrev Jqb (CV m md:Addr):Wo (List (Str×D)):={ av:=[],P:=fun b=>b=m\/b=md,U:=fun b=>b=md,Ω:=fun xs h=>JEh CV h m md xs }
section
variable {prog:Program}{w:World}{g:Heap}{T:Ja3}{K:Frag}{n:Nat}{s:Shared}{sc:Scope}{A:Around}{CV m md:Addr}{xs:List (Str×D)}{σ:Sto}{ow:Ow}{env:Env}{x y:Str}{e:Expr}{p0 apos pos:Pos}{cv:ClassData}{d:D}
theorem Jfq (h:g.get? md=none):(Jqb CV m md).Ok g where
 up:=fun b hb=>.inr hb
 off:=fun b hb=>hb▸h
 obj:=fun i h hw b hb=>by
  cases hw with | mk es kd o d r =>
  rcases hb with rfl | rfl
  ·exact ⟨_,o,Jkg _ _⟩
  ·exact ⟨_,d,Jaz _ _⟩
 seq:=fun i h hw b o hb e so=>by
  cases hw with | mk es kd o d r =>
  cases hb
  exact (Jed (Jav e d▸so)).elim
 st:=fun i h h' hw hk tk=>by
  cases hw with | mk es kd o d r=>exact ⟨es,kd,hk _ _ (.inl rfl) o,hk _ _ (.inr rfl) d,r⟩
inductive Gv (g:Heap) (T:Ja3) (R:D->Shared->Prop) (s:Shared) (v:Value) (s':Shared):Prop
 | mk (d:D) (x:Ext g T s s') (f:FD v d) (r:R d s')
theorem Jkb {R:D->Shared->Prop}{Q:Flow->Shared->Prop}(S:JG2 K CV cv) (X:K.In g) (hmd:g.get? md=none) (hself:σ.lookup x=some (.val (.adr m))) (hc:NoC e) (hn:y∈Jdr) (hy:(xs.all fun p=> !(p.1==y))=true) (hz:xs.length<=900) (Z:FmW (Jqb CV m md) g T ow env σ s xs) (he:wpAny (model prog w) A (eval e env) (Gv g T R s) NoE s)
  (k:∀ d sA s',R d sA->Ext g T s sA->Mv g T (Jqb CV m md).U sA s'->Heap.SameBut md sA.heap s'.heap->FmW (Jqb CV m md) g T ow env σ s' (xs++[(y,d)])->Q .next s') :
  wpAny (model prog w) A (exec (.Assign [.Attribute (.Name x p0) y apos] e pos) env) Q NoE s :=
 plainObj_wpAny_Assign_Attribute (Ja0 he fun v sA h₁=>by
  cases h₁ with | mk d x f r =>
  have Z1:=Z.ext (Jfq hmd) x
  refine Jab Z1.F.ec.kind (Z1.F.ec.adr hself) ?_
  cases Z1.w with | mk es kd o dd q =>
  refine Jlo (l:=[.type "object"]) (Jbo X Z1.F.gk.keep) (InstAt.mk (ox:=instObj CV md) o rfl rfl dd) rfl S.sa S.cls S.mro (Jhb _) (by rw [S.mro]; rfl) (S.tak _ hn) S.dict (by rw [q.no hy]; rfl) (q.length▸hz) fun h' tk hs hg=>?_
  rw [putL_new (q.away hy)] at hg
  have m:=Mv.one (T:=T) (W:=(Jqb CV m md).U) (tk:=sA.toks+2) hs dd Jhk hmd rfl
  exact k d _ _ r x m hs (Z1.out (Jfq hmd) m ⟨_,_,(hs.2 _ (apart o dd rfl)).trans o,hg,q.snoc _ tk f⟩)) (hc _ _ _)
theorem SxU.put (S:JG2 K CV cv) (X:K.In g) (hmd:g.get? md=none) (hself:σ.lookup x=some (.val (.adr m))) (hc:NoC e) (hn:y∈Jdr) (hy:(xs.all fun p=> !(p.1==y))=true) (hz:xs.length<=900) (he:Ev prog w g T n sc σ e d) (hd:∀ {av h v},VD av h v d->FD v d) :
  SxU prog w g T n sc (Jqb CV m md) xs σ (.Assign [.Attribute (.Name x p0) y apos] e pos) (.next σ) (xs++[(y,d)]):=fun A s ow env hev hoc rm Z=>
 Jkb (R:=fun d' V=>d=d') S X hmd hself hc hn hy hz Z (Ja0 (he A s _ env hev rm Z.F.gk Z.F.ec) fun v sA h=>⟨d,h.1,hd h.2,rfl⟩) fun d' sA s' e x m V Z'=>by
  subst e
  have m':Mv g T (Jqb CV _ md).U s s':=Mv.trans x.mv m fun V h=>.inl h
  exact .next ⟨ow,rfl,Z'.F,m'.sub fun V h=>.inl (.inr h),fun V h=>.inl h⟩ Z'.w
theorem Jam.wp {ι:Type}{W:Wo ι}{i j:ι}{Q:Flow->Shared->Prop}{σA:Sto}{pre post:List Stmt}(ok:W.Ok g) (h:Jam prog w g T n sc W i σ pre (.next σA) j) (he:env.scope=sc) (hc:ow.c=Ja1 sc.names) (rm:Rm n A) (Z:FmW W g T ow env σ s i)
  (k:∀ ow' s',ow'.c=ow.c->FmW W g T ow' env σA s' j->Mv g T (fun b=>Wr env ow b\/W.U b) s s'->(∀ b,Wr env ow' b->Wr env ow b\/s.heap.get? b=none)->wpAny (model prog w) A (execs post env) Q NoE s'):wpAny (model prog w) A (execs (pre++post) env) Q NoE s:=by
 rw [Jc4]
 refine wpAny_bind (Ja0 (h A s ow env he hc rm Z) fun fl sA h₁=>?_)
 cases h₁ with | next n wj =>
 cases n with | mk ow' c F m hw=>exact k ow' sA c (Z.nx ok F hw wj) m hw
end
end
section
section
variable {prog:Program}{w:World}{g:Heap}{T:Ja3}{K:Frag}{n:Nat}{s:Shared}{sc:Scope}{A:Around}{m md:Addr}{σ:Sto}{ow:Ow}{env:Env}{av:List Addr}{f:Str}{e:Expr}{es:List Expr}{ds:List D}{pos p0:Pos}{a:Jbn}{b:Jc7}{p:PgP}{hl:Int}
theorem Jll {c:Addr}{Q:Value->Shared->Prop}(hx:sc.names.lookup f=some .globalImplicit) (hgl:Glb g f (.ref c)) (hk:keepIn K (.ref c)=true) (X:K.In g) (ha:EvL prog w g T n sc σ (e::es) ds) (he:env.scope=sc) (rm:Rm n A) (hg:GK g T s) (hc:EC av env σ s.heap)
  (h:∀ vs sA,Ext g T s sA->VDs av sA.heap vs ds->wpAny (model prog w) A (call (.ref c) vs) Q NoE sA):wpAny (model prog w) A (eval (.Call (.Name f p0) (e::es) [] pos) env) Q NoE s :=
 wpAny_Call_NameR (Jbk hc.kind hc.glob hc.blt (by rw [Env.kindOf,he]; exact hx) hg.keep hgl (callWith_K (h₀:=s.heap) (Jbo X hg.keep) hk (Ja0 (ha.run A s av env pos he rm hg hc) fun vs sA h₁=>⟨Jbo X (h₁.1.gk hg).keep,h vs sA h₁.1 h₁.2⟩) (ha.plain.1 _) ha.plain.2.any))
noncomputable abbrev Jwe (p:PgP) (l c:Addr):List (Str×D):=[("_maxlen",.int p.mx),("_continuation_ws",.str p.cw),("_continuation_ws_len",.int p.cw.length),("_splitchars",.str p.sp),("_lines",.adr l),("_current_line",.adr c)]
theorem JEh.page {CV CA l c dx:Addr}{h:Heap}{k:Nat}(M:JEh CV h m md (Jwe p l c)) (hl':h.get? l=some (Jb0 [] k)) (a:Jd2 CA h c dx [] hl) (hne:dx≠md):Jah CV CA h ⟨m,md,l,c,dx⟩ p ([],[],hl):=by
 cases M with | mk es kd o d r =>
 refine ⟨es,kd,[],k,?_,hl',rfl,a⟩
 have int:∀ {x:Str}{i:Int},(Jwe p l c).lookup x=some (.int i)->∃ t,getL x es=some (some (.int i t)):=fun z=>(r.get z).rec fun v e f=>by
  obtain ⟨t,rfl⟩:=(f [] h).i4; exact ⟨t,e⟩
 have str:∀ {x:Str}{i:Str},(Jwe p l c).lookup x=some (.str i)->∃ t,getL x es=some (some (.str i t)):=fun z=>(r.get z).rec fun v e f=>by
  obtain ⟨t,rfl⟩:=(f [] h).i5; exact ⟨t,e⟩
 have adr:∀ {x:Str}{i:Addr},(Jwe p l c).lookup x=some (.adr i)->getL x es=some (some (.ref i)):=fun z=>(r.get z).rec fun v e f=>by
  cases (f [] h).i1; exact e
 exact ⟨o,d,int rfl,str rfl,int rfl,str rfl,adr rfl,adr rfl,hne,fun x hx=>r.no ((by decide:∀ x∈Jhf,(Jdr.all fun y=> !(y==x))=true) x hx)⟩
inductive JDu (g:Heap) (T:Ja3) (CV CA m md:Addr) (p:PgP) (hl:Int) (s s':Shared):Prop
 | mk (l c dx:Addr) (h1:s.heap.get? l=none) (h2:s.heap.get? c=none) (h3:s.heap.get? dx=none) (m':Mv g T (fun x=>x=md) s s') (P:Jah CV CA s'.heap ⟨m,md,l,c,dx⟩ p ([],[],hl))
theorem Mv.no {W:Addr->Prop}{s':Shared}(x:Mv g T W s s') (hg:GK g T s') {c:Addr}(h:s'.heap.get? c=none) (hw:¬ W c):s.heap.get? c=none:=(x.new hg h).elim (fun q=>(hw q).elim) id
inductive Jx5 (s:Shared):D->Shared->Prop
 | mk {s':Shared}{l k:Nat}(h:s.heap.get? l=none) (o:s'.heap.get? l=some (Jb0 [] k)):Jx5 s (.adr l) s'
inductive Jse (CA:Addr) (i:Int) (s:Shared):D->Shared->Prop
 | mk {s':Shared}{c dx:Addr}(h:s.heap.get? c=none) (h':s.heap.get? dx=none) (o:Jd2 CA s'.heap c dx [] i):Jse CA i s (.adr c) s'
noncomputable abbrev JEa:List Stmt:=Ja5 (Jak "_ValueFormatter" "__init__")
noncomputable abbrev JGp:Scope:=Ja2 (Jak "_ValueFormatter" "__init__")
noncomputable abbrev Jzg (m:Addr) (hl:Int) (p:PgP):Sto:=params ["self", "headerlen", "maxlen", "continuation_ws", "splitchars"] [.adr m,.int hl,.int p.mx,.str p.cw,.str p.sp]
section
variable (B:Jan prog w K g T a b) (hmd:g.get? md=none)
include B hmd
theorem Jui (hcw:p.cw.length<=1000):Jam prog w g T n JGp (Jqb b.CV m md) [] (Jzg m hl p) (JEa.take 4) (.next (Jzg m hl p)) ((Jwe p 0 0).take 4) :=
 have ok:=Jfq (CV:=b.CV) (m:=m) hmd
 have hs:(Jzg m hl p).lookup (Str.ofString "self")=some (.val (.adr m)):=rfl
 Jam.cons ok (SxU.put B.S B.A.X hmd hs (fun V V V=>rfl) (by decide) rfl (Nat.zero_le _) (Ev.name rfl) fun r=>by obtain ⟨t,rfl⟩:=r.i4; exact fun V V=>.int _ t)
  (Jam.cons ok (SxU.put B.S B.A.X hmd hs (fun V V V=>rfl) (by decide) rfl (by decide:1<=900) (Ev.name rfl) fun r=>by obtain ⟨t,rfl⟩:=r.i5; exact fun V V=>.str _ t)
  (Jam.cons ok (SxU.put B.S B.A.X hmd hs (fun V V V=>rfl) (by decide) rfl (by decide:2<=900) (Ev.call rfl (EvL.more (fun V=>rfl) (Ev.name rfl) EvL.nil) (Jce B.A.glen (Nat.le_trans hcw (by decide)))) fun r=>by obtain ⟨t,rfl⟩:=r.i4; exact fun V V=>.int _ t)
  (Jam.cons ok (SxU.put B.S B.A.X hmd hs (fun V V V=>rfl) (by decide) rfl (by decide:3<=900) (Ev.name rfl) fun r=>by obtain ⟨t,rfl⟩:=r.i5; exact fun V V=>.str _ t) Jam.nil)))
theorem Jzh (hs:σ.lookup (Str.ofString "self")=some (.val (.adr m))) (hh:σ.lookup (Str.ofString "headerlen")=some (.val (.int hl))) (he:env.scope=JGp) (rm:Rm (n+5) A) (Z:FmW (Jqb b.CV m md) g T ow env σ s ((Jwe p 0 0).take 4)) :
  wpAny (model prog w) A (execs (JEa.drop 4) env) (fun fl s'=>fl=.next/\JDu g T b.CV a.CA m md p hl s s') NoE s:=by
 have ok:=Jfq (CV:=b.CV) (m:=m) hmd
 refine wpAny_execs_cons (Jkb (R:=Jx5 s) (xs:=(Jwe p 0 0).take 4) B.S B.A.X hmd hs (fun V V V=>rfl) (by decide) rfl (by decide:4<=900) Z (Ja0 (EvO.list EvL.nil (Nat.zero_le _) A s _ env he rm Z.F.gk Z.F.ec) fun v s' h=>?_) fun d s2 s3 rC x3 kC u3 Z3=>?_)
 ·cases h with | mk x hn ho hd =>
  cases hd.i0
  exact ⟨_,x,fun V V=>.adr _,hn,ho⟩
 cases rC with | @mk _ l k hln ol =>
 refine wpAny_execs_cons (Jkb (R:=Jse a.CA hl s3) (xs:=(Jwe p l 0).take 5) B.S B.A.X hmd hs (fun V V V=>rfl) (by decide) rfl (by decide:5<=900) Z3 (Jll rfl B.gacc B.kacc B.A.X (EvL.more (fun V=>rfl) (Ev.name hh) EvL.nil) he rm Z3.F.gk Z3.F.ec fun us s' x' r'=>?_) fun d s4 s5 r4 xD kD u4 Z5=>?_)
 ·cases r'.one1 with | mk r =>
  obtain ⟨t,rfl⟩:=r.i4
  refine Ja0 (JAu (n:=n+3) B.A rm (x'.gk Z3.F.gk)) fun v s'' h=>?_
  cases h with | mk hc hd x'' ac=>exact ⟨_,x'.trans x'',fun V V=>.adr _,x'.none Z3.F.gk hc,x'.none Z3.F.gk hd,ac⟩
 cases r4 with | @mk _ c dx hcn hdn ac =>
 have far:∀ {xs:List (Str×D)}{s:Shared}{x:Addr},FmW (Jqb b.CV m md) g T ow env σ s xs->s.heap.get? x=none->x≠md:=fun Z h e=>by
  cases Z.w with | mk es kd o dd r=>exact nos (e▸h) dd
 have n3:Mv g T (fun x=>x=md) s s3:=x3.mv.trans kC fun V h=>.inl h
 refine wpAny_execs_nil ⟨rfl,l,c,dx,hln,n3.no Z3.F.gk hcn (far Z3 hcn),n3.no Z3.F.gk hdn (far Z3 hdn),(n3.trans xD.mv fun _ (f:False)=>f.elim).trans kD fun V h=>.inl h,Z5.w.page ((u4.2 _ (far Z hln)).trans (xD.get' Z3.F.gk ((u3.2 _ (far Z hln)).trans ol) (Jai _ _))) (ac.st (fun b o hb e=>(u4.2 _ (hb.elim (fun z=>z▸far Z3 hcn) fun z=>z▸far Z3 hdn)).trans e) fun b us k e=>(u4.2 _ fun z=>?_).trans e) (far Z3 hdn)⟩
 cases (Z3.ext ok xD).w with | mk es kd o dd r=>exact apart e dd rfl z
theorem Jnm {vs:List Value}(rm:Rm (n+6) A) (hg:GK g T s) (M:JEh b.CV s.heap m md []) (hcw:p.cw.length<=1000) (hv:VDs [] s.heap vs [.adr m,.int hl,.int p.mx,.str p.cw,.str p.sp]) :
  codeAny (model prog w) A (.call (.ref b.ini) ⟨vs,[]⟩) (Jle fun v s'=>v=.none/\JDu g T b.CV a.CA m md p hl s s') s :=
 Jen B.ini.fo B.ini.fs (B.ini.fo.looks hv.length) (σc:=[]) ⟨fun x c e=>(B.ini.ce x c e).imp fun V i=>i.keeps hg.keep,B.ini.fr,nofun⟩ rm hg (av:=[]) (fun V h=>nomatch h) hv rfl fun env ow sA N=>by
  have ok:=Jfq (CV:=b.CV) (m:=m) hmd
  have Z:FmW (Jqb b.CV m md) g T ow env _ sA _:=.to ok B.ini M hg N
  refine wpAt_of_wpAny (Jam.wp (pre:=JEa.take 4) (post:=JEa.drop 4) ok (Jui B hmd hcw) N.sc_ N.c N.rm Z fun ow' s2 c Z2 mQ qB=>Ja0 (Jzh B hmd rfl rfl N.sc_ N.rm Z2) fun fl s' h=>?_)
  cases h.1
  have nB:Mv g T (fun x=>x=md) s s2:=Mv.trans N.x.mv mQ fun b hb=>hb.elim (fun z=>.inr (N.w b z)) .inl
  have far:∀ {x},s2.heap.get? x=none->x≠md:=fun h e=>by
   cases Z2.w with | mk es kd o dd r=>exact nos (e▸h) dd
  cases h.2 with | mk l c dx h1 h2 h3 m' P=>exact ⟨rfl,l,c,dx,nB.no Z2.F.gk h1 (far h1),nB.no Z2.F.gk h2 (far h2),nB.no Z2.F.gk h3 (far h3),nB.trans m' fun V h=>.inl h,P⟩
end
end
end
section
section
variable {prog:Program}{w:World}{g:Heap}{T:Ja3}{K:Frag}{n:Nat}{s:Shared}{A:Around}{vs:List Value}{a:Jbn}{b:Jc7}{p:PgP}{hl:Int}
inductive Js7 (g:Heap) (T:Ja3) (CV CA:Addr) (p:PgP) (hl:Int) (s:Shared):Value->Shared->Prop
 | mk {s':Shared}(q:Pg) (hn:∀ x,q.all x->s.heap.get? x=none) (x:Ext g T s s') (P:Jah CV CA s'.heap q p ([],[],hl)):Js7 g T CV CA p hl s (.ref q.m) s'
theorem Jtd (B:Jan prog w K g T a b) (rm:Rm (n+7) A) (hg:GK g T s) (hcw:p.cw.length<=1000) (hv:VDs [] s.heap vs [.int hl,.int p.mx,.str p.cw,.str p.sp]):wpAny (model prog w) A (call (.ref b.CV) vs) (Js7 g T b.CV a.CA p hl s) NoE s:=by
 obtain ⟨hp,gs,d,t,os⟩:=s
 have X:=Jbo B.A.X hg.keep
 have xA:Ext g T ⟨hp,gs,d,t,os⟩ ⟨(hp.push emptyDict).push (instObj b.CV hp.objs.size),gs,d,t,os⟩:=Ext.trans (s':=⟨hp.push emptyDict,gs,d,t,os⟩) (.push _) (.push _)
 have n1:hp.get? hp.objs.size=none:=Heap.get?_none_of_le (Nat.le_refl _)
 have n2:hp.get? (hp.objs.size+1)=none:=Heap.get?_none_of_le (Nat.le_succ _)
 refine wpAny_call (make_core (makes_of X B.mkV) (looks_findIn X B.ini.find) (fun self=>bind_fn X self (beq_iff_eq.mp B.ini.isf)) (.inl rfl) (codeAny_mono (Jnm (p:=p) (hl:=hl) (m:=hp.objs.size+1) (md:=hp.objs.size) B (hg.new n1) rm.tc (xA.gk hg) ⟨[],0,by heap_get,by heap_get,.nil⟩ hcw (.cons (.adr _) (xA.vds hg hv))) fun r s' z=>?_))
 rcases r with e | (v | _ | _ | _) <;> first | exact z.elim | skip
 cases z.2 with | mk l c dx h1 h2 h3 m P =>
 refine ⟨z.1,⟨_,_,l,c,dx⟩,?_,(Mv.trans (W:=fun x=>x=hp.objs.size) xA.mv m fun b hb=>.inl hb).ext fun b hb=>hb▸n1,P⟩
 rintro x (rfl | rfl | rfl | rfl | rfl)
 ·exact n2
 ·exact n1
 ·exact xA.none hg h1
 ·exact xA.none hg h2
 ·exact xA.none hg h3
end
end
section
noncomputable abbrev Wo.on {ι:Type}(W:Wo ι) (fp:List Addr):Wo ι:={ W with av:=fp++W.av }
theorem Jc6.uniq {es:List Expr}{ds:List D}{b:Bd}(h:Jc6 es ds b):∀ {b':Bd},Jc6 es ds b'->b=b':=by
 induction h with
 | nil=>exact fun h=>by cases h; rfl
 | cons _ ih=>exact fun h=>by cases h with | cons h=>rw [ih h]
theorem Tg.uniq {tg:Expr}{d:D}{b b':Bd}(h:Tg tg d b) (h':Tg tg d b'):b=b':=by
 cases h with
 | name=>cases h'; rfl
 | tup h=>cases h' with | tup h'=>exact h.uniq h'
section
variable {ι:Type}(prog:Program) (w:World) (g:Heap) (T:Ja3) (n:Nat) (sc:Scope) (W:Wo ι) (tg:Expr) (body:List Stmt)
inductive JGa (K:Sto->ι->Prop) (d:D) (σ:Sto) (i:ι):Prop
 | mk (b:Bd) (σA:Sto) (j:ι) (t:Tg tg d b) (st:Je4 sc (Ja1 sc.names) b) (run:∀ fp,Jam prog w g T n sc (W.on fp) i (Ja4 b σ) body (.next σA) j) (go:K σA j)
noncomputable def JEk (N:Sto->ι->Prop) (ds:List D):Sto->ι->Prop:=ds.rec N fun d V ih=>JGa prog w g T n sc W tg body ih d
end
section
variable {ι:Type}{prog:Program}{w:World}{g:Heap}{T:Ja3}{n:Nat}{sc:Scope}{W:Wo ι}{i j:ι}{σ σA σB:Sto}{tg iter:Expr}{body sts:List Stmt}{pos:Pos}{ds:List D}{N:Sto->ι->Prop}
theorem Wo.Ok.on (ok:W.Ok g) (fp:List Addr):(W.on fp).Ok g:={ ok with seq:=fun i h w b o u e s=>List.mem_append_right _ (ok.seq i h w b o u e s) }
theorem Jam.post (h:Jam prog w g T n sc W i σ sts (.next σA) j) (hs:Sub σB σA):Jam prog w g T n sc W i σ sts (.next σB) j:=fun A s ow env he hoc rm Z=>
 Ja0 (h A s ow env he hoc rm Z) fun fl s' q=>by
  cases q with | next n wj =>
  cases n with | mk ow' c F m hw=>exact .next ⟨ow',c,F.weak hs,m,hw⟩ wj
inductive JH7 (prog:Program) (w:World) (g:Heap) (T:Ja3) (n:Nat) (sc:Scope) (W:Wo ι) (tg:Expr) (body:List Stmt) (N:Sto->ι->Prop) (ds:List D) (σ:Sto) (s:Shared):Prop
 | mk (i:ι) (wi:W.Ω i s.heap) (h:JEk prog w g T n sc W tg body N ds σ i)
theorem Jzn (ok:W.Ok g):Jo0 True g T W.av W.P W.U (JH7 prog w g T n sc W tg body N) where
 obj:=fun ds σ s h b p=>h.rec fun i wi V=>ok.obj i _ wi b p
 seq:=fun ds σ s h b o u e q=>h.rec fun i wi V=>ok.seq i _ wi b o u e q
 up:=ok.up
 st:=fun ds σ sA s2 Z h q m hz tk=>h.rec fun i wi k=>⟨i,ok.mv m q wi hz (tk trivial),k⟩
theorem SxU.for (ok:W.Ok g) (hi:EvF prog w g T n sc σ tg iter ds) (hsd:Jez iter) (h:JEk prog w g T n sc W tg body (fun σ' j'=>σ'=σA/\j'=j) ds σ i):SxU prog w g T n sc W i σ (.For tg iter body [] pos) (.next σA) j:=fun A s ow env he hoc rm Z=>
 Joc (Inv:=JH7 prog w g T n sc W tg body fun σ' j'=>σ'=σA/\j'=j) (B:=fun V V=>False) (D':=fun V=>False) (Jzn ok) hi hsd he hoc rm Z.F Z.nw ⟨i,Z.w,h⟩
  (fun d ds' σ' sA q=>by
   cases q with | mk iA wA h₁ =>
   cases h₁ with | mk b _ _ t st _ _ =>
   refine ⟨b,t,st,fun fp s2 ow' c F q nw=>?_⟩
   cases q with | mk iB wB h₂ =>
   cases h₂ with | mk b' σC k t' st' run go =>
   cases t.uniq t'
   refine Ja0 (run fp A s2 ow' env he c rm ⟨F,wB,nw,Z.cl⟩) fun fl s3 h₃=>?_
   cases h₃ with | next nx w3=>exact .next nx ⟨k,w3,go⟩)
  (fun σ' s' q nx=>by
   cases q with | mk k wk e =>
   obtain ⟨rfl,rfl⟩:=e
   exact wpAny_execs_nil (.next nx wk))
  (fun V V f=>f.elim) fun V V V f=>f.elim
end
end
section
section
end
end
section
noncomputable abbrev fgB:List Stmt:=Ja5 (fn1 "_law_figures")
noncomputable abbrev Jzs:Scope:=Ja2 (fn1 "_law_figures")
noncomputable abbrev c0L:List Int:=[5,424,0,4,12]
noncomputable def cel (sc:List Int) (k:Nat):Int:=c0L.getD k 0+((Jls sc (some (k:Int)) (some 60) (some 5)).map fun x=>x.fmod 1000003).sum
noncomputable abbrev c5 (c:Nat->Int):List Int:=[c 0,c 1,c 2,c 3,c 4]
noncomputable def szN (c:Nat->Int):Nat:=(2+(c 0).fmod 6).toNat
noncomputable def bkN (c:Nat->Int):Nat:=(1+(c 1).fmod 5).toNat
noncomputable def odI (c:Nat->Int):Int:=(c 4).fmod (2*szN c)
noncomputable def Jj2 (c:Nat->Int) (p:Nat):Int:=((c 1).fdiv 5).fdiv ((3 ^ (p % bkN c):Nat):Int)+(if ((p:Int)==odI c)=true then 1 else 0)
noncomputable def Jzr (c:Nat->Int) (p:Nat):Int:=(c 2+(Jj2 c p).fmod 3*(1+(c 3).fmod 7)).fmod 16
noncomputable def Jht (c:Nat->Int):List Int:=(List.range (szN c)).map (Jzr c)
theorem JEp (c:Nat->Int):2+(c 0).fmod 6=(szN c:Int):=(Int.toNat_of_nonneg (Int.add_nonneg (by decide) (Int.fmod_nonneg_of_pos _ (by decide)))).symm
theorem JFz (c:Nat->Int):1+(c 1).fmod 5=(bkN c:Int):=(Int.toNat_of_nonneg (Int.add_nonneg (by decide) (Int.fmod_nonneg_of_pos _ (by decide)))).symm
theorem Jmv (c:Nat->Int):2<=szN c/\szN c<=7:=by
 have h1:=Int.fmod_nonneg_of_pos (c 0) (show (0:Int)<6 by decide)
 have h2:=Int.fmod_lt_of_pos (c 0) (show (0:Int)<6 by decide)
 unfold szN; omega
theorem JG0 (c:Nat->Int):1<=bkN c/\bkN c<=5:=by
 have h1:=Int.fmod_nonneg_of_pos (c 1) (show (0:Int)<5 by decide)
 have h2:=Int.fmod_lt_of_pos (c 1) (show (0:Int)<5 by decide)
 unfold bkN; omega
noncomputable abbrev σf0 (script:List Int):Sto:=(Str.ofString "base",.val (.lst (c0L.map .int)))::params ["script"] [.lst (script.map .int)]
noncomputable abbrev σf1 (c:Nat->Int):Sto:=[(Str.ofString "cells",.val (.lst ((c5 c).map .int)))]
noncomputable abbrev σf2 (c:Nat->Int):Sto:=(Str.ofString "block",.val (.int (bkN c)))::(Str.ofString "size",.val (.int (szN c)))::σf1 c
noncomputable abbrev σf3 (c:Nat->Int):Sto:=(Str.ofString "odd",.val (.int (odI c)))::σf2 c
noncomputable abbrev σf4 (c:Nat->Int):Sto:=(Str.ofString "kinds",.val (.lst ((List.range (szN c)).map fun p=>.int (Jj2 c p))))::σf3 c
theorem Jfg (k:Nat):Jio 0 (k:Int) 1=(List.range k).map fun (i:Nat)=>D.int (i:Int):=by
 have:(Builtin.Range.rangeSize 0 (k:Int) 1).toNat=k:=by simp [Builtin.Range.rangeSize]; try lia
 unfold Jio
 rw [this]
 exact List.map_congr_left fun i hi=>congrArg D.int (by rw [Int.mul_one,Int.zero_add])
theorem Jc8 {k:Nat}(h:k<=900):Jgk (k:Int)=true:=by
 rw [Jgk,Bool.and_eq_true,decide_eq_true_eq,decide_eq_true_eq]
 lia
section
variable {prog:Program}{w:World}{g:Heap}{T:Ja3}{n:Nat}{sc scope:Scope}{σ:Sto}{x:Str}{tg iter elt ce:Expr}{p pos cpos:Pos}{α:Type}{enc f:α->D}{xs:List α}{q:α->Bool}
theorem Sx.assignEach (hok:Jcy sc scope=true) (hcap:((cap scope σ).all fun p=>Jhp p.2)=true) (hsd:Jez iter) (hi:EvI prog w g T n sc σ tg iter (xs.map enc)) (hz:xs.length<=lim) (hx:Jh9 sc (Ja1 sc.names) x=true)
  (h:∀ y∈xs,JB6 (Jad scope sc) (Ja1 scope.names) (cap scope σ) tg (enc y) fun σ'=>Ev prog w g T n (Jad scope sc) σ' elt (f y)):Sx prog w g T n sc σ (.Assign [.Name x p] (.ListComp elt [⟨tg,iter,[],0⟩] scope cpos) pos) (.next ((x,.val (.lst (xs.map f)))::σ)) :=
 Sx.assignComp (c:=⟨tg,iter,[],0⟩) (fun c hc=>List.mem_singleton.mp hc▸rfl) hsd hok hcap hi (Jix h) (List.length_map (as:=xs) f▸hz) hx
theorem Sx.assignSome (hok:Jcy sc scope=true) (hcap:((cap scope σ).all fun p=>Jhp p.2)=true) (hsd:Jez iter) (hi:EvI prog w g T n sc σ tg iter (xs.map enc)) (hz:xs.length<=lim) (hx:Jh9 sc (Ja1 sc.names) x=true)
  (h:∀ y∈xs,JB6 (Jad scope sc) (Ja1 scope.names) (cap scope σ) tg (enc y) fun σ'=>JGh (EvT prog w g T n (Jad scope sc) σ' ce (q y)) (q y=true->Ev prog w g T n (Jad scope sc) σ' elt (f y))):Sx prog w g T n sc σ (.Assign [.Name x p] (.ListComp elt [⟨tg,iter,[ce],0⟩] scope cpos) pos) (.next ((x,.val (.lst ((xs.filter q).map f)))::σ)) :=
 Sx.assignComp (c:=⟨tg,iter,[ce],0⟩) (fun c hc=>List.mem_singleton.mp hc▸rfl) hsd hok hcap hi (Jiw h) (List.length_map (as:=xs.filter q) f▸Nat.le_trans (List.length_filter_le _ _) hz) hx
end
section
variable {prog:Program}{w:World}{g:Heap}{T:Ja3}{n:Nat}{σ:Sto}{c:Nat->Int}{script:List Int}{f:Str}{sc:Scope}
theorem JAc {c:Bool}(hg:Glb g f (.type "int")):ClV prog w g T n f [.bool c] (.int (if c then 1 else 0)):=⟨_,hg,.ty _,fun A s av vs rm hg hav hv=>by
 cases hv.one1 with | mk r=>cases r.i3; exact call_int_bool ⟨.tok _,.int _ _⟩⟩
theorem Jem {i:Nat}{x:Int}{p1 p2 p3:Pos}{kk:Nat}(h:σ.lookup (Str.ofString "cells")=some (.val (.lst ((c5 c).map .int)))) (hx:(c5 c)[i]?=some x) (hi:i<=900):Ev prog w g T n sc σ (.Subscript (.Name "cells" p1) (.Constant (.int (i:Int)) kk p2) p3) (.int x) :=
 Ev.item (Ev.name h) Ev.int (fun V V=>rfl) (Jdx (k:=i) rfl (Jc8 hi) (by rw [List.getElem?_map,hx]; rfl))
theorem fg1 (gen:Glb g "enumerate" (.type "enumerate")) (gsum:Glb g "sum" (.builtin "sum")) (hl:script.length<=1000):Sx prog w g T n Jzs (σf0 script) (nth fgB 1) (.next ((Str.ofString "cells",.val (.lst ((c5 (cel script)).map .int)))::σf0 script)):=by
 have hl':script.length<=lim:=Nat.le_trans hl (by decide)
 have e:(c5 (cel script)).map D.int=c0L.zipIdx.map fun p=>D.int (p.1+((Jls script (some (p.2:Int)) (some 60) (some 5)).map fun x=>x.fmod 1000003).sum):=rfl
 rw [e]
 exact Sx.assignEach rfl rfl (fun V V=>rfl) (EvI.enumM (xs:=c0L) (enc:=D.int) rfl gen (fun V V=>rfl) (Ev.name rfl)) (show (5:Nat)<=lim by decide) rfl fun p hp=>⟨[(Str.ofString "place",.int (p.2:Int)),(Str.ofString "cell",.int p.1)],.tup (.cons (.cons .nil)),Jaa rfl,rfl,
  Ev.bin (Ev.name rfl) (Ev.call rfl (EvL.more (fun V=>rfl) (EvO.ev (EvO.each rfl rfl (fun V V=>rfl) (EvI.list (Ev.slice (Ev.name rfl) (EvP.some' (Ev.name rfl)) (EvP.some' Ev.int) (EvP.some' Ev.int) (Jbt rfl hl'))) (Nat.le_trans (Jkd _ (by decide)) hl') fun x V=>⟨_,.name,Jaa rfl,rfl,Ev.bin (Ev.name rfl) Ev.int (Jct (by decide))⟩)) EvL.nil) (JAa gsum)) Jag⟩
theorem fg2:Sx prog w g T n Jzs (σf1 c) (nth fgB 2) (.next (σf2 c)) :=
 Sx.assignTupX (xs:=["size", "block"]) (ds:=[.int (szN c),.int (bkN c)]) (EvL.more (fun V=>rfl) (JEp c▸Ev.bin Ev.int (Ev.bin (Jem (i:=0) rfl rfl (by decide)) Ev.int (Jct (by decide))) Jag) (EvL.more (fun V=>rfl) (JFz c▸Ev.bin Ev.int (Ev.bin (Jem (i:=1) rfl rfl (by decide)) Ev.int (Jct (by decide))) Jag) EvL.nil)) (show (2:Nat)<=lim by decide) (.cons (.cons .nil)) rfl rfl (by decide) rfl
theorem JEo (c:Nat->Int):(2*szN c:Int)≠0:=Int.ne_of_gt (Int.mul_pos (by decide) (Int.ofNat_lt.mpr (Nat.lt_of_lt_of_le (by decide) (Jmv c).1)))
theorem fg3:Sx prog w g T n Jzs (σf2 c) (nth fgB 3) (.next (σf3 c)) :=
 Sx.assign (Ev.bin (Jem (i:=4) rfl rfl (by decide)) (Ev.bin Ev.int (Ev.name rfl) (Jbw rfl (Jn1 (Nat.le_trans (Jmv c).2 (by decide))))) (Jct (JEo c))) (fun V V V=>rfl) rfl
theorem Jvk {k:Nat}(h:k<=400):Jib prog w g T .Pow (.int 3) (.int (k:Int)) (.int ((3 ^ k:Nat):Int)):=by
 have:=Jrs (prog:=prog) (w:=w) (g:=g) (T:=T) (a:=3) (b:=(k:Int)) (Int.natCast_nonneg k) (Int.ofNat_le.mpr (Nat.le_trans h (by decide:400<=500))) (by decide)
 rwa [Int.toNat_natCast,show (3:Int) ^ k=((3 ^ k:Nat):Int) by rw [Int.natCast_pow]; rfl] at this
theorem Jvl {a b:Nat}(h:b≠0):Jib prog w g T .Mod (.int (a:Int)) (.int (b:Int)) (.int ((a % b:Nat):Int)):=Jf5 a b▸Jct (Int.ofNat_ne_zero.mpr h)
theorem fg4 (gran:Glb g "range" (.type "range")) (gint:Glb g "int" (.type "int")):Sx prog w g T (n+1) Jzs (σf3 c) (nth fgB 4) (.next (σf4 c)):=by
 have hb:=JG0 c
 refine Sx.assignEach rfl rfl (fun V V=>rfl) (Jfg (szN c)▸EvI.range1 rfl gran (fun V V=>rfl) (Ev.name rfl) (Jar.mpr (by have:=(Jmv c).2; lia))) (by rw [List.length_range]; exact Nat.le_trans (Jmv c).2 (by decide)) rfl fun p hp=>⟨[(Str.ofString "place",.int (p:Int))],.name,Jaa rfl,rfl,?_⟩
 have hk:p % bkN c<5:=Nat.lt_of_lt_of_le (Nat.mod_lt _ hb.1) hb.2
 exact Ev.bin (Ev.bin (Ev.bin (Jem (c:=c) (i:=1) rfl rfl (by decide)) Ev.int (Jep (by decide) rfl)) (Ev.bin Ev.int (Ev.bin (Ev.name rfl) (Ev.name rfl) (Jvl (Nat.ne_of_gt hb.1))) (Jvk (by lia))) (Jep (Int.ofNat_ne_zero.mpr (Nat.ne_of_gt (Nat.pow_pos (by decide)))) (Jn1 (Nat.le_trans (Nat.pow_le_pow_right (by decide) (Nat.le_of_lt hk)) (by decide))))) (Ev.call rfl (EvL.more (fun V=>rfl) (Ev.cmp (Ev.name rfl) (Ev.name rfl) rfl Jcd) EvL.nil) (JAc gint)) Jag
theorem Jng (a:Int):(a.fmod 3).natAbs<=2:=by
 have h1:=Int.fmod_nonneg_of_pos a (show (0:Int)<3 by decide)
 have h2:=Int.fmod_lt_of_pos a (show (0:Int)<3 by decide)
 lia
theorem Jmx (a:Int):(1+a.fmod 7).natAbs<=7:=by
 have h1:=Int.fmod_nonneg_of_pos a (show (0:Int)<7 by decide)
 have h2:=Int.fmod_lt_of_pos a (show (0:Int)<7 by decide)
 omega
theorem fg5:Sx prog w g T n Jzs (σf4 c) (nth fgB 5) (.ret (.lst ((Jht c).map .int))):=by
 have e:(Jht c).map D.int=(List.range (szN c)).map fun p=>D.int (Jzr c p):=List.map_map ..
 rw [e]
 exact Sx.ret (EvO.ev (EvO.each (enc:=fun p=>D.int (Jj2 c p)) rfl rfl (fun V V=>rfl) (EvI.list (Ev.name rfl)) (by rw [List.length_range]; exact Nat.le_trans (Jmv c).2 (by decide)) fun p hp=>⟨[(Str.ofString "kind",.int (Jj2 c p))],.name,Jaa rfl,rfl,
  Ev.bin (Ev.bin (Jem (c:=c) (i:=2) rfl rfl (by decide)) (Ev.bin (Ev.bin (Ev.name rfl) Ev.int (Jct (by decide))) (Ev.bin Ev.int (Ev.bin (Jem (c:=c) (i:=3) rfl rfl (by decide)) Ev.int (Jct (by decide))) Jag) (Jbw (Jn1 (Nat.le_trans (Jng _) (by decide))) (Jn1 (Nat.le_trans (Jmx _) (by decide))))) Jag) Ev.int (Jct (by decide))⟩))
theorem Jur:FnS Jzs ["script"]:=⟨⟨rfl,rfl,rfl,by decide +kernel⟩,by decide +kernel⟩
theorem Jnq {a:Addr}(gen:Glb g "enumerate" (.type "enumerate")) (gsum:Glb g "sum" (.builtin "sum")) (gran:Glb g "range" (.type "range")) (gint:Glb g "int" (.type "int")) (hf:Jg4 g a Jzs ["script"] fgB) (hg:Glb g "_law_figures" (.ref a)) (hl:script.length<=1000) :
  ClV prog w g T (n+2) "_law_figures" [.lst (script.map .int)] (.lst ((Jht (cel script)).map .int)):=by
 refine .fn hg hf Jur rfl (.cons (Sx.assign (Ev.list (ds:=c0L.map .int) (.more (fun V=>rfl) Ev.int (.more (fun V=>rfl) Ev.int (.more (fun V=>rfl) Ev.int (.more (fun V=>rfl) Ev.int (.more (fun V=>rfl) Ev.int .nil))))) (show (5:Nat)<=lim by decide)) (fun V V V=>rfl) rfl) (.cons (fg1 gen gsum hl) (.pre (σA:=σf1 (cel script)) (.cons rfl .nil) (.cons fg2 (.cons fg3 (.cons (fg4 gran gint) (.last fg5)))))))
end
end
section
structure FnG (sc:Scope) (xs:List Str):Prop where
 kind:sc.kind=.function
 coro:sc.isCoroutine=false
 gen:sc.isGenerator=true
 st:xs.all (Jh9 sc (Ja1 sc.names))=true
structure JI9 (g:Heap) (T:Ja3) (sc:Scope) (av:List Addr) (s:Shared) (σ:Sto) (env:Env) (ow:Ow) (sA:Shared):Prop where
 sc_:env.scope=sc
 cells:∀ x,(x,NameKind.cell)∉sc.names->env.cells.lookup x=none
 c:ow.c=Ja1 sc.names
 l:ow.l=[]
 F:Fm g T av ow env σ sA
 x:Ext g T s sA
 w:∀ b,Wr env ow b->s.heap.get? b=none
noncomputable abbrev JHt (i:Nat) (nm qn:Value):Obj:={ cls:=.type "generator",data:=.fields #[.int i 0,nm,qn] }
noncomputable abbrev genS (s:Shared) (body:List Stmt) (env:Env) (nm qn:Value) (tk:Nat):Shared:={ s with gens:=s.gens.push (.fresh (.func body env)),toks:=tk,heap:=s.heap.push (JHt s.gens.size nm qn) }
inductive Jsa (g:Heap) (T:Ja3) (sc:Scope) (av:List Addr) (s:Shared) (σ:Sto) (body:List Stmt):Value->Shared->Prop
 | mk (env:Env) (ow:Ow) (sA:Shared) (nm qn:Value) (tk:Nat) (N:JI9 g T sc av s σ env ow sA):Jsa g T sc av s σ body (.ref sA.heap.objs.size) (genS sA body env nm qn tk)
section
variable {prog:Program}{w:World}{g:Heap}{T:Ja3}{n:Nat}{sc:Scope}{A:Around}{s:Shared}{av:List Addr}{xs:List Str}{body:List Stmt}{a:Addr}{P:Value->Str->Prop}{vs:List Value}{ds:List D}
theorem Jnn (hf:FnO P g a sc [] xs body) (hs:FnG sc xs) (hc:Jbi sc [] [] av s.heap) (rm:Rm (n+1) A) (hg:GK g T s) (hav:Jdk av s.heap) (hv:VDs av s.heap vs ds) (hl:ds.length=xs.length) :
  codeAny (model prog w) A (.call (.ref a) ⟨vs,[]⟩) (Jle (Jsa g T sc av s (params xs ds) body)) s:=by
 have hb:∀ {o fd},g.get? a=some o->o.data=.func fd->Looks (model prog w) g (bindArgs fd ⟨vs,[]⟩) (xs.zip vs):=hf.looks (hv.length.trans hl)
 cases hf with | mk o fd ho hdat hsc hbody hclo hglob hblt hcr hbind hp hlim =>
 subst hsc
 have hb:=hb ho hdat
 have hvl:vs.length=xs.length:=hv.length.trans hl
 refine codeAny_call_generator (Nat.lt_of_le_of_lt (Nat.le_add_right _ _) rm.depth) (hg.keep _ _ ho) hdat hs.coro hs.gen hbody (hcr.keeps hg.keep) (hb _ _ _ _ hg.keep ?_)
 rw [hclo,hglob,hblt]
 refine Je3 fun env henv=>?_
 have N:Jeg fd.scope.names [] s.heap env:=henv▸⟨hs.kind,rfl,rfl,rfl,rfl⟩
 have hes:env.scope=fd.scope:=henv▸rfl
 have hk:∀ x,env.kindOf x=fd.scope.names.lookup x:=fun x=>congrArg (fun z:Scope=>z.names.lookup x) hes
 have f:=Fm.fresh (b:=false) (tk:=s.toks) (σ:=[]) N hg hav hc.ce (fun x h=>h.imp (fun h=>Jas (hk x▸h)) fun h=>hc.free x (hk x▸h)) fun x sl e=>nomatch e
 refine wpAny_mono (Jh3 (prog:=prog) (w:=w) (A:=A.in1) hes xs (vs:=vs) (ds:=ds) f.F hvl.symm (f.x.vds hg hv) hs.st) (fun V s2 h₂=>?_) fun V V f=>f.elim
 cases h₂ with | mk ow2 cB Fb mQ wB lB =>
 exact ⟨hlim.keeps Fb.gk.keep,.mk env ow2 s2 _ _ _ ⟨hes,fun x=>N.out,cB,List.eq_nil_iff_forall_not_mem.mpr (fun p hp=>nomatch lB p hp),Fb,(Mv.trans f.x.mv mQ fun b hb=>.inl hb).ext f.w,fun b hb=>f.w b (wB b hb)⟩⟩
end
end
section
noncomputable abbrev mxS:Stmt:=Jak "_ValueFormatter" "_maxlengths"
noncomputable abbrev mxB:List Stmt:=Ja5 mxS
noncomputable abbrev Jyn:Scope:=Ja2 mxS
noncomputable abbrev Jki:GenEnd:=fun V V V V=>False
noncomputable abbrev Jp7 (Gd:Shared->Prop) (g:Heap) (T:Ja3) (r:Nat->Int):Protocol:=fun n s0 v sA kap=>(∃ t,v=.int (r n) t)/\Ext g T s0 sA/\(n=0\/∀ s'',Gd s''->kap (.send .none) s'')
section
variable {prog:Program}{w:World}{g:Heap}{T:Ja3}{m:Nat}{A:Around}{s s0:Shared}{env:Env}{c:Code}{fs:List Frame}{Gd:Shared->Prop}{r:Nat->Int}{K:Flow->Sem Fin}{H:Value->Sem Fin}{gd:Bool->Bool}{lv:List Value->List Value}{e:Expr}{ypos pos:Pos}
theorem Jha (hfs:splitAtGen fs=none) (hgd:gd false=false) (hfg:fs.any Frame.guarded=false) (hco:env.scope.isCoroutine=false) (hi:interactive env=false)
  (h:wpAny (model prog w) (A.over c fs) (eval e env) (fun v s'=>(∃ t,v=.int (r m) t)/\Ext g T s0 s') NoE s) (hk:m=0\/∀ s'',Gd s''->Seg (model prog w) A Jki (Jp7 Gd g T r) m s'' c (K .next) fs s'') :
  Seg (model prog w) A Jki (Jp7 Gd g T r) (m+1) s0 c ((exec (.Expr (.Yield (some e) ypos) pos) env).wrap K H gd lv) fs s :=
 seg_Expr_Yield hfs hgd hfg (wpAny_mono h (fun v s' q kap hkap=>⟨q.1,q.2,hk.imp id fun go s'' G=>hkap .none s'' (go s'' G)⟩) fun V V f=>f.elim) hco hi
theorem Jk5 {test:Expr}{M:Nat}{k:Result->Sem Fin}{hd:Option Value}{gd:Bool}{lv:List Value}{cA:Code}{pA:Pos}(hco:env.scope.isCoroutine=false) (hi:interactive env=false) (hg:gd=false)
  (ht:∀ s,Gd s->wpAny (model prog w) (A.over (.whileLoop test [.Expr (.Yield (some e) ypos) pos] [] env) [.ret k hd gd lv cA pA []]) (isTrue test env (eval test env)) (fun b s'=>b=true/\Ext g T s s'/\Gd s') NoE s)
  (h:∀ m s,m<=M->Gd s->wpAny (model prog w) (A.over (.whileLoop test [.Expr (.Yield (some e) ypos) pos] [] env) [.ret k hd gd lv cA pA []]) (eval e env) (fun v s'=>(∃ t,v=.int (r m) t)/\Ext g T s s') NoE s) :
  ∀ m s,m<=M->Gd s->Seg (model prog w) A Jki (Jp7 Gd g T r) (m+1) s (.whileLoop test [.Expr (.Yield (some e) ypos) pos] [] env) ((model prog w).den (.whileLoop test [.Expr (.Yield (some e) ypos) pos] [] env)) [.ret k hd gd lv cA pA []] s:=by
 intro m
 induction m with
 | zero =>
  intro s hm G
  refine seg_whileLoop (wpAny_mono (ht s G) (fun b s' q=>?_) fun V V f=>f.elim)
  obtain ⟨rfl,x,G'⟩:=q
  rw [if_pos rfl]
  exact seg_execs_cons (Jha rfl rfl (by simp [Frame.guarded,hg]) hco hi (Ja0 (h 0 s' hm G') fun v sA q=>⟨q.1,x.trans q.2⟩) (.inl rfl))
 | succ m ih =>
  intro s hm G
  refine seg_whileLoop (wpAny_mono (ht s G) (fun b s' q=>?_) fun V V f=>f.elim)
  obtain ⟨rfl,x,G'⟩:=q
  rw [if_pos rfl]
  exact seg_execs_cons (Jha rfl rfl (by simp [Frame.guarded,hg]) hco hi (Ja0 (h (m+1) s' hm G') fun v sA q=>⟨q.1,x.trans q.2⟩) (.inr fun s'' G''=>seg_execs_nil (seg_again rfl (ih s'' (Nat.le_of_succ_le hm) G''))))
end
end
section
section
variable {n:Nat}{A:Around}{env:Env}{b:List Stmt}
theorem Jy0 (rm:Rm (n+1) A):Rm n (A.over (.func b env) []):=⟨by have:=rm.depth; show A.depth+0+1+n<_; lia,by have:=rm.units; show A.units+0+3+100*n<_; lia,rm.hand⟩
theorem Jp8 {t:Expr}{bd oe:List Stmt}{k:Result->Sem Fin}{gd:Bool}{lv:List Value}{p:Pos}(rm:Rm (n+1) A):Rm n (A.over (.whileLoop t bd oe env) [.ret k none gd lv (.func b env) p []]):=⟨by have:=rm.depth; show A.depth+(1+0)+0+n<_; lia,by have:=rm.units; show A.units+(3+0)+0+100*n<_; lia,rm.hand⟩
end
end
section
section
variable {prog:Program}{w:World}{g:Heap}{T:Ja3}{K:Frag}{n m N:Nat}{A:Around}{s s':Shared}{env:Env}{ow:Ow}{q:Pg}{p:PgP}{ls:List Str}{ps:List (Str×Str)}{i:Int}{a:Jbn}{b:Jc7}{st:Pst}{e:Expr}{d:Int}
theorem Jgn {CV CA:Addr}:(pgW CV CA q p).ro.Ok g where
 up:=fun b hb=>hb.elim
 off:=fun b hb=>hb.elim
 obj:=fun st h hw b hb=>Jcj hw hb
 seq:=fun st h hw b o hb=>hb.elim
 st:=fun st h h' hw hk tk=>Jhg hw hk tk
noncomputable abbrev MxG (g:Heap) (T:Ja3) (a:Jbn) (b:Jc7) (q:Pg) (p:PgP) (st:Pst) (env:Env) (ow:Ow) (s:Shared):Prop:=FmW (pgW b.CV a.CA q p).ro g T ow env (params ["self"] [.adr q.m]) s st
theorem Jo8 (he:env.scope=Jyn) (rm:Rm n A) (G:MxG g T a b q p st env ow s) (h:Jer g (pgW b.CV a.CA q p).ro st fun g'=>Ev prog w g' T n Jyn (params ["self"] [.adr q.m]) e (.int d)):wpAny (model prog w) A (eval e env) (fun v s'=>(∃ t,v=.int d t)/\Ext g T s s') NoE s :=
 Ja0 (EvU.gnd Jgn h A s ow env he rm G) fun v s' h=>by cases h with | mk m r w=>exact ⟨r.i4,m.ext fun b f=>f.elim⟩
variable (B:Jan prog w K g T a b) (he:env.scope=Jyn) (hi:interactive env=false) (hz:Jcg (ls,ps,i)) (rm:Rm (n+6) A)
include B he hi hz rm
theorem JBv (r:Nat->Int) (h1:r N=p.mx - Jaf ps i) (h2:∀ m,m<N->r m=p.mx - p.cw.length) (G:MxG g T a b q p (ls,ps,i) env ow s) :
  Seg (model prog w) A Jki (Jp7 (MxG g T a b q p (ls,ps,i) env ow) g T r) (N+1) s (.func mxB env) ((model prog w).den (.func mxB env)) [] s:=by
 have hco:env.scope.isCoroutine=false:=he▸rfl
 refine seg_func ?_
 show Seg _ _ _ _ _ _ _ ((execs (nth mxB 0::[nth mxB 1]) env).wrap _ _ _ _) _ _
 refine seg_execs_cons (Jha rfl rfl rfl hco hi ?_ ?_)
 ·rw [h1]
  exact Jo8 he (Jy0 rm) G fun g' up P=>Ev.bin (.pg B up P (fun V=>rfl) (Ev.name rfl) .mx) (Jfu (n:=n+1) B rfl rfl hz.sp hz.i g' up P) Jap
 ·cases N with
  | zero=>exact .inl rfl
  | succ N =>
   refine .inr fun s'' G''=>seg_execs_cons (seg_While fun pp=>?_)
   refine Jk5 (M:=N) hco hi rfl (fun sA G1=>?_) (fun m sA hm G1=>?_) N s'' (Nat.le_refl _) G''
   ·exact Ja0 ((EvT.val Ev.bool (fun V V=>rfl) Jh5:EvT prog w (Jbp T sA.heap) T n Jyn (params ["self"] [.adr q.m]) _ true) _ sA _ env he ((Jp8 rm).le (Nat.le_add_right n 5)) (G1.F.gk.core .refl) G1.F.ec) fun c s2 h=>⟨h.1,h.2.base (G1.F.gk.core .refl),G1.ext Jgn (h.2.base (G1.F.gk.core .refl))⟩
   ·rw [h2 m (Nat.lt_succ_of_le hm)]
    exact Jo8 he (Jp8 rm) G1 fun g' up P=>Ev.bin (.pg B up P (fun V=>rfl) (Ev.name rfl) .mx) (.pg B up P (fun V=>rfl) (Ev.name rfl) .cl) Jap
end
end
section
noncomputable abbrev Ja3.res (T:Ja3) (i:Nat) (st:GenState):Ja3:=⟨T.tabs,(i,st)::T.gens⟩
noncomputable abbrev Jgy (T:Ja3) (i:Nat):Prop:=∀ t,(i,t)∉T.gens
section
variable {prog:Program}{w:World}{g:Heap}{T:Ja3}{K:Frag}{s s':Shared}{i:Nat}{st:GenState}{W:Addr->Prop}{av:List Addr}{ow:Ow}{env:Env}{σ:Sto}{a:Jbn}{b:Jc7}{gens:Array GenState}{x:GenState}
theorem GK.res (q:GK g T s) (h:s.gens[i]?=some st):GK g (T.res i st) s:=⟨q.keep,q.tabs,q.off,⟨q.bare.bare,fun j t hm=>(List.mem_cons.mp hm).elim (fun e=>by cases e; exact h) (q.bare.keep j t)⟩⟩
theorem GK.unres (q:GK g (T.res i st) s):GK g T s:=⟨q.keep,q.tabs,q.off,⟨q.bare.bare,fun j t hm=>q.bare.keep j t (.tail _ hm)⟩⟩
theorem GK.got (q:GK g (T.res i st) s):s.gens[i]?=some st:=q.bare.keep _ _ (.head _)
theorem Ext.unres (q:GK g (T.res i st) s) (x:Ext g (T.res i st) s s'):Ext g T s s':=⟨x.dr,x.os,x.keep,fun V=>(x.gk q).unres⟩
theorem Mv.unres (q:GK g (T.res i st) s) (x:Mv g (T.res i st) W s s'):Mv g T W s s':=⟨x.dr,x.os,x.keep,fun V=>(x.gk q).unres⟩
theorem Fm.res (F:Fm g T av ow env σ s) (h:s.gens[i]?=some st):Fm g (T.res i st) av ow env σ s:={ F with gk:=F.gk.res h }
theorem Fm.unres (F:Fm g (T.res i st) av ow env σ s):Fm g T av ow env σ s:={ F with gk:=F.gk.unres }
theorem FmW.res {ι:Type}{W:Wo ι}{j:ι}(Z:FmW W g T ow env σ s j) (h:s.gens[i]?=some st):FmW W g (T.res i st) ow env σ s j:={ Z with F:=Z.F.res h }
theorem FmW.unres {ι:Type}{W:Wo ι}{j:ι}(Z:FmW W g (T.res i st) ow env σ s j):FmW W g T ow env σ s j:={ Z with F:=Z.F.unres }
theorem Jvo (h:AllBare gens) (hx:x.bare=true):AllBare (gens.setIfInBounds i x):=fun y hy=>by
 obtain ⟨j,hj⟩:=Array.mem_iff_getElem?.mp hy
 rw [Array.getElem?_setIfInBounds] at hj
 by_cases e:i=j
 ·rw [if_pos e] at hj
  by_cases l:i<gens.size
  ·rw [if_pos l] at hj; exact Option.some.inj hj▸hx
  ·rw [if_neg l] at hj; exact nomatch hj
 ·rw [if_neg e] at hj
  exact h y (Array.mem_iff_getElem?.mpr ⟨j,hj⟩)
theorem Ext.setGen (hi:Jgy T i) (hx:x.bare=true):Ext g T s (s.setGen i x):=⟨rfl,rfl,fun V V e V=>e,fun q=>⟨q.keep,q.tabs,q.off,⟨Jvo q.bare.bare hx,fun j t hm=>by
 show (s.gens.setIfInBounds i x)[j]?=some t
 rw [Array.getElem?_setIfInBounds,if_neg fun e:i=j=>hi t (e▸hm)]
 exact q.bare.keep j t hm⟩⟩⟩
theorem JBy {c:Value}{q:Str}:Jb5 g T c q↔Jb5 g (T.res i st) c q:=⟨fun m=>m.rec fun mg c P a b d e f h=>.mk mg c P a b d e f h,fun m=>m.rec fun mg c P a b d e f h=>.mk mg c P a b d e f h⟩
theorem Jm1:JB5 g T=JB5 g (T.res i st):=funext fun c=>funext fun q=>propext JBy
theorem Jan.res (B:Jan prog w K g T a b):Jan prog w K g (T.res i st) a b:={ B with A:={ B.A with len:=Jm1▸B.A.len,str:=Jm1▸B.A.str } }
end
section
variable {prog:Program}{w:World}{A:Around}{s:Shared}{a:Addr}{gi N:Nat}{gs:GenState}{Y:Protocol}{Q:Option Value->Shared->Prop}
theorem Jmq (hh:A.handled=none) (hl:s.heap.NoLimit) (hroom:A.depth<recursionLimit) (hg:s.heap.IsGen a gi) (hgs:s.gens[gi]?=some gs)
  (hgo:gs.Goes (model prog w) A.in1 Jki Y (N+1) (.send .none) (s.setGen gi .running))
  (hY:∀ v sA gs',gs'.bare=true->Y N (s.setGen gi .running) v sA (fun r' s''=>gs'.Goes (model prog w) A.in1 Jki Y N r' s'')->Q (some v) (sA.setGen gi gs')):wpAny (model prog w) A (pyNext (.ref a)) Q NoE s:=by
 unfold pyNext
 refine wpAny_bind (wpAny_attempt (wpAny_callSpecial?_slot (name:=Str.ofString "__next__") hg.typeIs slot_gen_next (wpAny_call_entry slot_gen_next hg.typeIs entry_gen_next ?_ (args_gen_next _))))
 show wpAny _ A.in1 (Builtin.Generator.genWake (.ref a) (.send .none)) _ _ s
 unfold Builtin.Generator.genWake
 refine wpAny_bind (wpAny_holding (wpAny_genNumber hg (wpAny_bind (wpAny_genState hgs ?_))))
 cases gs with
 | running=>exact hgo.elim
 | finished=>exact hgo.elim
 | _ =>
  refine wpAny_bind (wpAny_roomToWake hl hroom ?_)
  show wpAny _ A.in1 (.resume gi (.send .none) [] _) _ _ s
  exact wpAny_resumeQ hgs hgo (fun x sA hx=>hx.elim) fun v sA gs' hb hv=>wpAny_pure ⟨v,rfl,wpAny_pure (hY v sA gs' hb hv)⟩
end
end
section
structure JEj (prog:Program) (w:World) (g:Heap) (T:Ja3) (A:Around) (a:Jbn) (b:Jc7) (q:Pg) (p:PgP) (st:Pst) (env:Env) (ow:Ow) (r:Nat->Int) (ga:Addr) (gi N:Nat) (gs:GenState) (s:Shared):Prop where
 isg:s.heap.IsGen ga gi
 at_:s.gens[gi]?=some gs
 bare:gs.bare=true
 go:∀ s'',MxG g (T.res gi .running) a b q p st env ow s''->gs.Goes (model prog w) A.in1 Jki (Jp7 (MxG g (T.res gi .running) a b q p st env ow) g (T.res gi .running) r) N (.send .none) s''
section
variable {prog:Program}{w:World}{g:Heap}{T:Ja3}{N:Nat}{A:Around}{s s':Shared}{env:Env}{ow:Ow}{q:Pg}{p:PgP}{ps:List (Str×Str)}{a:Jbn}{b:Jc7}{st:Pst}{r:Nat->Int}{ga:Addr}{gi:Nat}{gs:GenState}{W:Addr->Prop}
theorem JCo (h:s.heap.IsGen ga gi) (q:GK g T s) (m:Mv g T W s s') (hw:¬ W ga):s'.heap.IsGen ga gi:=h.elim fun o z=>z.elim fun nm z=>z.elim fun qn z=>⟨o,nm,qn,m.get' q z.1 hw (fun ps e=>by have:=z.2.1; rw [e] at this; exact Jbe tgV this rfl),z.2⟩
inductive Jx6 (prog:Program) (w:World) (g:Heap) (T:Ja3) (A:Around) (a:Jbn) (b:Jc7) (q:Pg) (p:PgP) (st:Pst) (env:Env) (ow:Ow) (r:Nat->Int) (ga:Addr) (gi N:Nat) (s:Shared):Option Value->Shared->Prop
 | mk {s':Shared}(t:Tok) (gs:GenState) (x:Ext g T s s') (R:JEj prog w g T A a b q p st env ow r ga gi N gs s') (Z:MxG g T a b q p st env ow s'):Jx6 prog w g T A a b q p st env ow r ga gi N s (some (.int (r N) t)) s'
theorem Jum (R:JEj prog w g T A a b q p st env ow r ga gi (N+2) gs s) (Z:MxG g T a b q p st env ow s) (hi:Jgy T gi) (hh:A.handled=none) (hroom:A.depth<recursionLimit) (hl:s.heap.NoLimit) :
  wpAny (model prog w) A (pyNext (.ref ga)) (Jx6 prog w g T A a b q p st env ow r ga gi (N+1) s) NoE s:=by
 have xZ:Ext g T s (s.setGen gi .running):=.setGen hi rfl
 have Z0:=FmW.res (Z.ext Jgn xZ) (setGen_self R.at_)
 refine Jmq hh hl hroom R.isg R.at_ (R.go _ Z0) fun v sA gs' hb y=>?_
 obtain ⟨⟨t,rfl⟩,x,k⟩:=y
 have qA:=x.gk Z0.F.gk
 have xB:=(xZ.trans (x.unres Z0.F.gk)).trans (.setGen hi hb)
 exact .mk t gs' xB ⟨JCo R.isg Z.F.gk (W:=fun V=>False) xB.mv id,setGen_self qA.got,hb,k.resolve_left (Nat.succ_ne_zero _)⟩ (Z.ext Jgn xB)
end
end
section
structure MxH (env:Env) (q:Pg) (h:Heap):Prop where
 ns:∃ m,h.Ns env.locals m
 ld:Jat env h (Str.ofString "self") (.ref q.m)
structure MxE (env:Env) (ow:Ow):Prop where
 sc_:env.scope=Jyn
 hc:∀ x,env.cells.lookup x=none
 hl:ow.l=[]
structure MxO (CV CA:Addr) (q:Pg) (p:PgP) (env:Env) (ga:Addr) (gi:Nat) (st:Pst) (h:Heap):Prop where
 pg:Jah CV CA h q p st
 fr:MxH env q h
 isg:h.IsGen ga gi
noncomputable abbrev mxW (CV CA:Addr) (q:Pg) (p:PgP) (env:Env) (ga:Addr) (gi:Nat):Wo Pst:={ av:=[q.l],P:=fun b=>q.all b\/b=env.locals\/b=ga,U:=fun V=>False,Ω:=fun st h=>MxO CV CA q p env ga gi st h }
section
variable {w:World}{g:Heap}{T:Ja3}{s s0:Shared}{env:Env}{ow:Ow}{q:Pg}{p:PgP}{a:Jbn}{b:Jc7}{st st0:Pst}{ga:Addr}{gi:Nat}
theorem JBt {h:Heap}(x:h.IsGen ga gi):∃ o,h.get? ga=some o/\NT o:=x.elim fun o z=>z.elim fun nm z=>z.elim fun qn z=>⟨o,z.1,fun ps e=>by have:=z.2.1; rw [e] at this; exact Jbe tgV this rfl⟩
theorem JEu {h:Heap}{L:Addr}(x:∃ m,h.Ns L m):∃ o,h.get? L=some o/\NT o:=x.elim fun m z=>z.elim fun o z=>z.elim fun es z=>z.elim fun ep z=>⟨o,z.1,fun ps e=>by have:=z.2.1; rw [e] at this; exact nomatch this⟩
theorem Jwh {CV CA:Addr}(E:MxE env ow):(mxW CV CA q p env ga gi).Ok g where
 up:=fun b hb=>hb.elim
 off:=fun b hb=>hb.elim
 obj:=fun st h hw b hb=>by
  rcases hb with hb | rfl | rfl
  ·exact Jcj hw.pg hb
  ·exact JEu hw.fr.ns
  ·exact JBt hw.isg
 seq:=fun st h hw b o hb=>hb.elim
 st:=fun st h h' hw hk tk=>⟨Jhg hw.pg (fun b o hb=>hk b o (.inl hb)) tk,⟨hw.fr.ns.imp fun m z=>Jfl z fun o e V=>hk _ o (.inr (.inl rfl)) e,hw.fr.ld.to (fun z=>Jfl z fun o e V=>hk _ o (.inr (.inl rfl)) e) fun e=>nomatch (E.hc _).symm.trans e⟩,hw.isg.elim fun o z=>z.elim fun nm z=>z.elim fun qn z=>⟨o,nm,qn,hk _ o (.inr (.inr rfl)) z.1,z.2⟩⟩
theorem JEv (E:MxE env ow) (Z0:MxG g T a b q p st0 env ow s0) (hg:GK g T s) (h:MxO b.CV a.CA q p env ga gi st s.heap):MxG g T a b q p st env ow s :=
 have ha:ow.adr=[]:=by unfold Ow.adr; rw [E.hl]; rfl
 { F:=⟨hg,⟨Z0.F.ec.kind,Z0.F.ec.glob,Z0.F.ec.blt,fun b hb=>by
    rw [ha] at hb
    cases List.mem_singleton.mp hb
    exact Jcj h.pg (.inr (.inr (.inl rfl))),fun x sl e=>by
    rcases Jaj e with ⟨rfl,rfl⟩ | ⟨_,e⟩
    ·exact ⟨_,h.fr.ld,.adr _⟩
    ·exact (nomatch e),fun x k=>(Z0.F.ec.cells x k).elim fun c z=>(nomatch (E.hc x).symm.trans z.1)⟩,h.fr.ns,fun x c V V e=>(nomatch (E.hc x).symm.trans e),fun x y c V e=>(nomatch (E.hc x).symm.trans e),Z0.F.off,fun x ds e=>by
    rcases Jaj e with ⟨_,e⟩ | ⟨_,e⟩
    ·exact (nomatch e)
    ·exact (nomatch e),Z0.F.nd,Z0.F.apt,fun b hb=>by rw [ha] at hb; exact (nomatch hb)⟩,w:=h.pg,nw:=Z0.nw,cl:=Z0.cl }
end
end
section
section
variable (prog:Program) (w:World) (g:Heap) (n:Nat) (sc:Scope) (x:Str) (body:List Stmt) (r:Nat->Int) (σB:Sto)
noncomputable abbrev Jx9 (σ:Sto) (R:Rz):Prop:=∀ {T:Ja3}{g':Heap},(∀ b o,g.get? b=some o->g'.get? b=some o)->SxL prog w g' T n sc σ body R
inductive LpS (K:Sto->Prop) (N:Nat) (σ:Sto):Prop
 | next (σA:Sto) (run:Jx9 prog w g n sc body ((x,.val (.int (r N)))::σ) (.next σA)) (k:K σA)
 | brk (run:Jx9 prog w g n sc body ((x,.val (.int (r N)))::σ) (.brk σB))
noncomputable def LpR (N:Nat):Sto->Prop:=N.rec (fun V=>False) fun N ih σ=>LpS prog w g n sc x body r σB ih (N+1) σ
end
section
variable {prog:Program}{w:World}{g:Heap}{T:Ja3}{n N:Nat}{sc:Scope}{A:Around}{s s' s0:Shared}{env genv:Env}{ow gow:Ow}{q:Pg}{p:PgP}{a:Jbn}{b:Jc7}{st st0:Pst}{r:Nat->Int}{ga:Addr}{gi:Nat}{gs:GenState}{x y:Str}{body:List Stmt}{σ σB:Sto}{p1 p2 pos:Pos}
inductive RmI (prog:Program) (w:World) (g:Heap) (T:Ja3) (n:Nat) (sc:Scope) (A:Around) (a:Jbn) (b:Jc7) (q:Pg) (p:PgP) (st:Pst) (genv:Env) (gow:Ow) (r:Nat->Int) (ga:Addr) (gi:Nat) (x:Str) (body:List Stmt) (σB:Sto) (ow:Ow) (env:Env) (s:Shared) (N:Nat) (s':Shared):Prop
 | mk (σ:Sto) (gs:GenState) (h:MtU (mxW b.CV a.CA q p genv ga gi) g T ow env s (.next σ) st .next s') (R:JEj prog w g T A a b q p st genv gow r ga gi (N+1) gs s') (L:LpR prog w g n sc x body r σB N σ)
theorem Jpq {h:Heap}(z:h.IsGen ga gi):∃ o,h.get? ga=some o/\Jvz o:=by
 obtain ⟨o,nm,qn,e,c,d,_⟩:=z
 exact ⟨o,e, "generator",_,c,d,by decide⟩
theorem Jjy (E:MxE genv gow) (Z0:MxG g T a b q p st0 genv gow s0) (hi:Jgy T gi) (hlim:g.NoLimit) (he:env.scope=sc) (hoc:ow.c=Ja1 sc.names) (hst:Jh9 sc (Ja1 sc.names) x=true) (rm:Rm n A) (Z:FmW (mxW b.CV a.CA q p genv ga gi) g T ow env σ s st)
  (hy:σ.lookup y=some (.val (.adr ga))) (R:JEj prog w g T A a b q p st genv gow r ga gi (N+1) gs s) (L:LpR prog w g n sc x body r σB N σ) :
  wpAny (model prog w) A (exec (.For (.Name x p1) (.Name y p2) body [] pos) env) (MtU (mxW b.CV a.CA q p genv ga gi) g T ow env s (.next σB) st) NoE s:=by
 have ok:=Jwh (g:=g) (CV:=b.CV) (CA:=a.CA) (q:=q) (p:=p) (ga:=ga) (gi:=gi) E
 refine wpAny_For (Jab Z.F.ec.kind (Z.F.ec.adr hy) (wpAny_pyIter_gen R.isg ?_)) fun V=>rfl
 refine codeAny_mono (codeAny_forLoop_any (R:=fun r s'=>Except.rec (fun V=>False) (fun f=>MtU (mxW b.CV a.CA q p genv ga gi) g T ow env s (.next σB) st f s') r) (RmI prog w g T n sc A a b q p st genv gow r ga gi x body σB ow env s) ?_ N ⟨σ,gs,.next ⟨ow,rfl,Z.F,.refl,fun V h=>.inl h⟩ Z.w,R,L⟩) fun r s' hr=>?_
 ·intro k sA h₁
  cases h₁ with | mk σA gs1 h R1 LA =>
  cases k with
  | zero=>exact LA.elim
  | succ k =>
   cases h with | next nx wj =>
   cases nx with | mk ow1 cA FA mP wA =>
   have Z1:=Z.nx ok FA wA wj
   refine wpAny_mono (E:=NoE) (Jum R1 (JEv E Z0 FA.gk wj) hi rm.hand (Nat.lt_of_le_of_lt (Nat.le_add_right _ _) rm.depth) (hlim.keeps FA.gk.keep)) (fun o s2 h₂=>?_) fun V V f=>f.elim
   cases h₂ with | mk t gs2 xB R2 G2 =>
   obtain ⟨og,eg,ng⟩:=Jpq R2.isg
   refine Jlj .name eg ng ?_
   have Z2:=(Z1.ext ok xB).res R2.at_
   refine wpAny_mono (E:=NoE) (Jd4 rm.hand he Z2.F .name ((cA.trans hoc).symm▸fun y d h=>by cases List.mem_singleton.mp h; exact hst) (.int _ t)) (fun V s3 h₃=>?_) fun V V f=>f.elim
   cases h₃ with | mk ow3 cC F3 m3 w3 _ =>
   have Ω3:=ok.mv m3 Z2.F.gk Z2.w (fun b hb hp=>Z2.nw b hp hb) (Jd8 Z2.F m3)
   have Z3:=Z2.nx ok F3 (fun b hb=>.inl (w3 b hb)) Ω3
   have G:=Z3.F.gnd
   have back:∀ {σD s4},Nx (Jbp (JEb (T.res gi gs2) env ow3) s3.heap) (T.res gi gs2) [q.l] ow3 env s3 σD s4->MtU (mxW b.CV a.CA q p genv ga gi) g T ow env s (.next σD) st .next s4/\s4.gens[gi]?=some gs2/\s4.heap.IsGen ga gi:=fun k=>by
    cases Nx.down ok Z3 G k with | next nx w4 =>
    cases nx with | mk ow4 cD F4 m4 hw4 =>
    exact ⟨.then (Z1.has ok) cA FA.gk mP wA (.then (fun V f=>f.elim) cC F3.gk.unres ((Mv.trans (xB.mv (W:=Wr env ow1)) (m3.unres Z2.F.gk) fun b hb=>.inl hb).sub fun V h=>.inl (.inl h)) (fun b hb=>.inl (w3 b hb)) (.next ⟨ow4,cD,F4.unres,m4.unres F3.gk,hw4⟩ w4)),F4.gk.got,w4.isg⟩
   cases (LA:LpS prog w g n sc x body r σB (LpR prog w g n sc x body r σB k) (k+1) σA) with
   | next σD run kk =>
    refine wpAny_mono (E:=NoE) (run G.up A s3 [q.l] ow3 env he (cC.trans (cA.trans hoc)) rm G.F) (fun fl s4 h₄=>?_) fun V V f=>f.elim
    cases h₄ with | next nx =>
    have B:=back nx
    exact ⟨k,Nat.lt_succ_self k,σD,gs2,B.1,⟨B.2.2,B.2.1,R2.bare,R2.go⟩,kk⟩
   | brk run =>
    refine wpAny_mono (E:=NoE) (run G.up A s3 [q.l] ow3 env he (cC.trans (cA.trans hoc)) rm G.F) (fun fl s4 h₄=>?_) fun V V f=>f.elim
    cases h₄ with | brk nx=>exact (back nx).1
 ·cases r with
  | ok f=>exact hr
  | error e=>exact hr.elim
end
end
section
noncomputable abbrev llB:List Stmt:=Ja5 (fn1 "_law_lines")
noncomputable abbrev Ju2:Scope:=Ja2 (fn1 "_law_lines")
noncomputable abbrev Ju3:Stmt:=nth llB 1
noncomputable abbrev sOf (l:List Nat):Str:=⟨l.toArray⟩
theorem Ja7 (l:List Nat):(sOf l).length=l.length:=List.size_toArray
theorem Jek {α:Type}(l r:List α):(List.range l.length).filterMap ((l++r)[·]?)=l:=by
 induction l with
 | nil=>rfl
 | cons a l ih =>
  rw [List.length_cons,List.range_succ_eq_map,List.filterMap_cons]
  simp only [List.cons_append,List.getElem?_cons_zero,List.filterMap_map]
  congr 1
theorem Jn8 (l:List Nat) {a m:Nat}(h:a+m<=l.length):((List.range m).map (a + ·)).filterMap (l[·]?)=(l.drop a).take m:=by
 have e:((l.drop a).take m).length=m:=by rw [List.length_take,List.length_drop]; lia
 rw [List.filterMap_map,show ((l[·]?) ∘ (a + ·))=((l.drop a)[·]?) from funext fun i=>(List.getElem?_drop ..).symm]
 have:=Jek ((l.drop a).take m) ((l.drop a).drop m)
 rwa [e,List.take_append_drop] at this
theorem Jhe {l:List Nat}{lo hi:Option Int}{a m:Nat}(h:a+m<=l.length) (e:Builtin.Str.strSliceIndices lo hi 1 l.length=sliceRange (a:Int) ((a+m:Nat):Int) 1):Jfh (sOf l) lo hi none=sOf ((l.drop a).take m):=by
 have e':Builtin.Str.strSliceIndices lo hi ((none:Option Int).getD 1) (sOf l).length=(List.range m).map (a + ·):=by
  rw [Ja7]
  exact e.trans ((sliceRange_one ..).trans (by rw [Nat.add_sub_cancel_left]))
 have eg:(fun x:Nat=>(sOf l).cps[x]?)=(l[·]?):=funext fun x=>List.getElem?_toArray ..
 unfold Jfh
 rw [e',eg]
 show (if ((1:Int)==1&&(((List.range m).map (a + ·)).length==(sOf l).length))=true then sOf l else sOf (((List.range m).map (a + ·)).filterMap (l[·]?)))=_
 rw [Jn8 l h,List.length_map,List.length_range,Ja7]
 by_cases c:m=l.length
 ·have:a=0:=by lia
  subst this
  rw [c,List.drop_zero,List.take_length,ite_self]
 ·rw [if_neg (by simpa using c)]
theorem Jdf (l:List Nat) (k:Nat):Jfh (sOf l) none (some (k:Int)) none=sOf (l.take k):=by
 have:=Jhe (l:=l) (lo:=none) (hi:=some (k:Int)) (a:=0) (m:=min k l.length) (by rw [Nat.zero_add]; exact Nat.min_le_right _ _) (by
  unfold Builtin.Str.strSliceIndices
  dsimp only
  rw [if_pos (by decide),if_pos (by decide),if_neg (Int.not_lt.mpr (Int.natCast_nonneg k))]
  congr 1
  lia)
 rw [this,List.drop_zero,List.take_eq_take_min.symm]
theorem Jax (l:List Nat) (k:Nat):Jfh (sOf l) (some (k:Int)) none none=sOf (l.drop k):=by
 have:=Jhe (l:=l) (lo:=some (k:Int)) (hi:=none) (a:=min k l.length) (m:=l.length - min k l.length) (by lia) (by
  unfold Builtin.Str.strSliceIndices
  dsimp only
  rw [if_neg (Int.not_lt.mpr (Int.natCast_nonneg k)),if_pos (by decide),if_pos (by decide)]
  congr 1 <;> lia)
 rw [this]
 congr 1
 rw [List.take_of_length_le (by rw [List.length_drop]; exact Nat.le_refl _)]
 by_cases c:k<=l.length
 ·rw [Nat.min_eq_left c]
 ·rw [List.drop_of_length_le (by lia),List.drop_of_length_le (by lia)]
noncomputable def lnL (k:Nat->Nat) (N:Nat):List Nat->List (List Nat):=N.rec (fun V=>[]) fun N ih l=>l.take (k (N+1))::if l.drop (k (N+1))=[] then [] else ih (l.drop (k (N+1)))
noncomputable def lnE (k:Nat->Nat) (N:Nat):List Nat->Prop:=N.rec (fun V=>False) fun N ih l=>l.drop (k (N+1))=[]\/ih (l.drop (k (N+1)))
noncomputable abbrev σll (ls:List (List Nat)) (less:Int) (l:List Nat) (ga:Addr):Sto:=[(Str.ofString "lines",.own (ls.map fun l=>D.str (sOf l))),(Str.ofString "less",.val (.int less)),(Str.ofString "string",.val (.str (sOf l))),(Str.ofString "rooms",.val (.adr ga))]
noncomputable abbrev σle (ls:List (List Nat)):Sto:=[(Str.ofString "lines",.own (ls.map fun l=>D.str (sOf l)))]
section
variable {prog:Program}{w:World}{g:Heap}{T:Ja3}{n:Nat}{ls:List (List Nat)}{less room:Int}{l:List Nat}{ga:Addr}{k:Nat}
theorem Jxy (l:List Nat):(sOf l==es0)=decide (l=[]):=by
 cases l with
 | nil=>rfl
 | cons a l=>exact beq_eq_false_iff_ne.mpr fun e=>absurd (congrArg Str.length e) (by rw [Ja7]; exact Nat.succ_ne_zero _)
theorem Jzz {p1 p2 p3 p4 p5 p6:Pos}{sc:Scope}{σ:Sto}(hk:room - less=(k:Int)) (hl:l.length<=1000) (h1:σ.lookup (Str.ofString "string")=some (.val (.str (sOf l)))) (h2:σ.lookup (Str.ofString "room")=some (.val (.int room))) (h3:σ.lookup (Str.ofString "less")=some (.val (.int less))) :
  Ev prog w g T n sc σ (.Subscript (.Name "string" p1) (.Slice none (some (.BinOp (.Name "room" p2) .Sub (.Name "less" p3) p4)) none p5) p6) (.str (sOf (l.take k))) :=
 Jdf l k▸Ev.slice (Ev.name h1) .none' (.some' (hk▸Ev.bin (Ev.name h2) (Ev.name h3) Jap)) .none' (Jbg rfl (by rw [Jdf,Ja7]; exact Nat.le_trans (List.length_take_le' ..) (Nat.le_trans hl (by decide))))
theorem Jzy {p1 p2 p3 p4 p5 p6:Pos}{sc:Scope}{σ:Sto}(hk:room - less=(k:Int)) (hl:l.length<=1000) (h1:σ.lookup (Str.ofString "string")=some (.val (.str (sOf l)))) (h2:σ.lookup (Str.ofString "room")=some (.val (.int room))) (h3:σ.lookup (Str.ofString "less")=some (.val (.int less))) :
  Ev prog w g T n sc σ (.Subscript (.Name "string" p1) (.Slice (some (.BinOp (.Name "room" p2) .Sub (.Name "less" p3) p4)) none none p5) p6) (.str (sOf (l.drop k))) :=
 Jax l k▸Ev.slice (Ev.name h1) (.some' (hk▸Ev.bin (Ev.name h2) (Ev.name h3) Jap)) .none' .none' (Jbg rfl (by rw [Jax,Ja7,List.length_drop]; exact Nat.le_trans (Nat.sub_le ..) (Nat.le_trans hl (by decide))))
theorem JC5 (hk:room - less=(k:Int)) (hl:l.length<=1000) (hn:ls.length<=900):SxL prog w g T (n+1) Ju2 ((Str.ofString "room",.val (.int room))::σll ls less l ga) (stP Ju3).body (if l.drop k=[] then .brk (σle (ls++[l.take k])) else .next (σll (ls++[l.take k]) 0 (l.drop k) ga)):=by
 have ht:EvT prog w g T (n+1) Ju2 (froz (Ja4 [(Str.ofString "string",.str (sOf (l.drop k))),(Str.ofString "less",.int 0)] ((Str.ofString "lines",.own ((ls.map fun l=>D.str (sOf l))++[.str (sOf (l.take k))]))::(Str.ofString "room",.val (.int room))::σll ls less l ga))) (stP (nth (stP Ju3).body 2)).test (decide (l.drop k=[])):=Jxy (l.drop k)▸EvT.cmp (Ev.name rfl) Ev.str rfl JA7
 refine SxL.cons (Sx.append (ds:=ls.map fun l=>D.str (sOf l)) rfl (fun V=>rfl) rfl (Jzz hk hl rfl rfl rfl) (by rw [List.length_map]; exact Nat.le_trans hn (by decide))) (SxL.cons (Sx.assignTupX (xs:=["string", "less"]) (ds:=[.str (sOf (l.drop k)),.int 0]) (EvL.more (fun V=>rfl) (Jzy hk hl rfl rfl rfl) (EvL.more (fun V=>rfl) Ev.int EvL.nil)) (show (2:Nat)<=lim by decide) (.cons (.cons .nil)) rfl rfl (by decide) rfl) ?_)
 by_cases c:l.drop k=[]
 ·rw [if_pos c]
  rw [decide_eq_true c] at ht
  refine SxL.post (SxL.one (Sx.ite ht (SxL.one Sx.brk nofun)) nofun) (.brk ?_)
  rw [σle,List.map_append]
  exact .cons rfl .nil
 ·rw [if_neg c]
  rw [decide_eq_false c] at ht
  refine SxL.post (SxL.cons (Sx.ite ht SxL.nil) SxL.nil) (.next ?_)
  rw [σll,List.map_append]
  exact .cons rfl (.cons rfl (.cons rfl (.cons rfl .nil)))
end
end
section
inductive Jgz (g:Heap) (T:Ja3) (CV CA:Addr) (q:Pg) (p:PgP) (st:Pst) (ds:List D) (s:Shared):Value->Shared->Prop
 | mk {s':Shared}(c:Addr) (vs:List Value) (k:Nat) (n:s.heap.get? c=none) (e:s'.heap.get? c=some (Jb0 vs k)) (r:VDs [] s'.heap vs ds) (x:Ext g T s s') (P:Jah CV CA s'.heap q p st):Jgz g T CV CA q p st ds s (.ref c) s'
section
variable {prog:Program}{w:World}{g:Heap}{T:Ja3}{n N:Nat}{ls:List Str}{r:Nat->Int}{ga:Addr}{k:Nat->Nat}{l:List Nat}
theorem Jts:∀ {N:Nat}{rows:List (List Nat)}{l:List Nat}{less:Int},lnE k N l->r N - less=(k N:Int)->(∀ m,m<N->r m=(k m:Int))->l.length<=1000->rows.length+N<=900->LpR prog w g (n+1) Ju2 (Str.ofString "room") (stP Ju3).body r (σle (rows++lnL k N l)) N (σll rows less l ga):=by
 intro N
 induction N with
 | zero=>exact fun h=>h.elim
 | succ N ih =>
  intro rows l less h hk hr hl hn
  have two:=fun (T:Ja3) (g':Heap)=>JC5 (prog:=prog) (w:=w) (g:=g') (T:=T) (n:=n) (ls:=rows) (ga:=ga) hk hl (Nat.le_trans (Nat.le_add_right _ _) hn)
  by_cases c:l.drop (k (N+1))=[]
  ·rw [show lnL k (N+1) l=[l.take (k (N+1))] from congrArg (_ :: ·) (if_pos c)]
   exact LpS.brk @fun T g' V=>by have:=two T g'; rwa [if_pos c] at this
  ·rw [show lnL k (N+1) l=l.take (k (N+1))::lnL k N (l.drop (k (N+1))) from congrArg (_ :: ·) (if_neg c)]
   have go:=ih (rows:=rows++[l.take (k (N+1))]) (l:=l.drop (k (N+1))) (less:=0) (h.resolve_left c) ((Int.sub_zero _).trans (hr N (Nat.lt_succ_self N))) (fun m hm=>hr m (Nat.lt_succ_of_lt hm)) (by rw [List.length_drop]; exact Nat.le_trans (Nat.sub_le ..) hl) (by rw [List.length_append,List.length_singleton]; lia)
   rw [List.append_assoc] at go
   exact LpS.next _ (@fun T g' V=>by have:=two T g'; rwa [if_neg c] at this) go
theorem Jwu:FnS Ju2 ["string", "rooms"]:=⟨⟨rfl,rfl,rfl,by decide +kernel⟩,by decide +kernel⟩
end
end
section
section
variable {prog:Program}{w:World}{g:Heap}{T:Ja3}{K:Frag}{n N:Nat}{A:Around}{s:Shared}{genv:Env}{gow:Ow}{q:Pg}{p:PgP}{ls:List Str}{ps:List (Str×Str)}{i:Int}{a:Jbn}{b:Jc7}{r:Nat->Int}{ga fl:Addr}{gi:Nat}{k:Nat->Nat}{t:Tok}{l:List Nat}
theorem Ju1 {g':Heap}:Sx prog w g' T n Ju2 (params ["string", "rooms"] [.str (sOf l),.adr ga]) (nth llB 0) (.next (σll [] 1 l ga)) :=
 Sx.assignTupO (x := "lines") (xs:=["lines", "less"]) (f:=fun b=>[.adr b,.int 1]) (Jw3.own (fun V=>rfl) (EvO.list EvL.nil (Nat.zero_le _)) (EvL.more (fun V=>rfl) Ev.int EvL.nil)) (fun V=>(by decide:(2:Nat)<=lim)) (.cons (.cons .nil)) (fun V=>rfl) rfl (by decide) rfl (fun b=>.head _) fun b=>.cons rfl (.cons rfl (.cons rfl (.cons rfl .nil)))
theorem Jsq (hf:Jg4 g fl Ju2 ["string", "rooms"] llB) (B:Jan prog w K g T a b) (E:MxE genv gow) (hin:interactive genv=false) (Z0:MxG g T a b q p (ls,ps,i) genv gow s) (hi:Jgy T gi) (rm:Rm (n+9) A) (isg:s.heap.IsGen ga gi) (hgen:s.gens[gi]?=some (.fresh (.func mxB genv))) (hz:Jcg (ls,ps,i))
  (h1:r N=p.mx - Jaf ps i) (h2:∀ m,m<N->r m=p.mx - p.cw.length) (hk:r N - 1=(k N:Int)) (hr:∀ m,m<N->r m=(k m:Int)) (hE:lnE k N l) (hl:l.length<=1000) (hN:N<=900) :
  wpAny (model prog w) A (call (.ref fl) [.str (sOf l) t,.ref ga]) (Jgz g T b.CV a.CA q p (ls,ps,i) ((lnL k N l).map fun l=>.str (sOf l)) s) NoE s:=by
 have ok:=Jwh (g:=g) (CV:=b.CV) (CA:=a.CA) (q:=q) (p:=p) (ga:=ga) (gi:=gi) E
 have hg:=Z0.F.gk
 have hlim:g.NoLimit:=B.A.psh.fo.lim
 have Ω0:MxO b.CV a.CA q p genv ga gi (ls,ps,i) s.heap:=⟨Z0.w,⟨Z0.F.ns,Z0.F.ec.adr rfl⟩,isg⟩
 refine Jf0 (n:=n+8) hf Jwu.toFnS0 (.nil Jwu) rm (hg.res hgen) Z0.w.avl.ok (.cons (.str _ t) (.cons (.adr ga) .nil)) rfl fun env ow sA EF hoc hol rmA F x hw=>?_
 have Z1:FmW (mxW b.CV a.CA q p genv ga gi) g (T.res gi (.fresh (.func mxB genv))) ow env (params ["string", "rooms"] [.str (sOf l),.adr ga]) sA (ls,ps,i):=⟨F,ok.ext (x.unres (hg.res hgen)) hg Ω0,fun b hP hW=>(ok.obj _ _ Ω0 b hP).elim fun o z=>nos (hw b hW) z.1,fun V V V f=>f⟩
 show wpAny _ _ (execs [nth llB 0,Ju3,nth llB 2] env) _ NoE sA
 refine wpAny_execs_cons (Ja0 (SxU.next (n:=n+8) ok (fun g' up P=>Ju1) _ sA ow env EF.sc_ hoc rmA Z1) fun fA s2 h₂=>?_)
 cases h₂ with | next nx wB =>
 cases nx with | mk ow2 cB Fb mQ hw2 =>
 have Z2:=Z1.nx ok Fb hw2 wB
 refine wpAny_execs_cons (Ja0 (Jjy (n:=n+8) E Z0 hi hlim EF.sc_ (cB.trans hoc) rfl rmA Z2.unres rfl ⟨wB.isg,Fb.gk.got,rfl,fun s'' G=>⟨rfl,JBv (n:=n) B.res E.sc_ hin hz (rmA.in1.le (by lia)) r h1 h2 G⟩⟩ (Jts (n:=n+7) (rows:=[]) hE hk hr hl (by rw [List.length_nil]; lia))) fun fB s3 h₃=>?_)
 have h13:=MtU.then (W:=mxW b.CV a.CA q p genv ga gi) (fun V f=>f.elim) cB Fb.gk.unres (mQ.unres F.gk) hw2 h₃
 cases h13 with | next nx w3 =>
 cases nx with | mk ow3 cC F3 m3 hw3 =>
 refine wpAny_execs_cons (wpAny_Return_some ?_)
 cases F3.ownAt (x:=Str.ofString "lines") rfl with | @mk la vs kk hax ll e3 e4 =>
 refine Jab F3.ec.kind ll (.mk la vs kk ?_ e3 (e4.sub (av':=[]) nofun) ((Mv.trans ((x.unres (hg.res hgen)).mv (W:=fun V=>False)) m3 fun b hb=>.inr (hw b (hb.elim id False.elim))).ext fun b f=>f.elim) w3.pg)
 exact (hw3 la (.inr (.inr (Jb7 hax)))).elim (hw la) ((x.unres (hg.res hgen)).none hg)
end
end
section
open Builtin Builtin.ObjectAttr
noncomputable abbrev Jda (cd:Option Addr) (fd:FuncData):Obj:={ cls:=.type "function",dict:=cd,data:=.func fd }
section
variable {prog:Program}{w:World}{A:Around}{E:Value->Shared->Prop}{s:Shared}{co cd:Addr}{fd:FuncData}{es:List DictEntry}{kd:Nat}{name:Str}{expr:Bool}{v:Value}{Q:Value->Shared->Prop}
theorem Jut (ho:s.heap.get? co=some (Jda (some cd) fd)):Looks (model prog w) s.heap (isInstance (.ref co) (.type "object")) true :=
 (Looks.ld ho).andThen (Looks.of_pure (by kernel_rfl))
theorem fn_get (ho:s.heap.get? co=some (Jda (some cd) fd)) (hd:s.heap.get? cd=some (dictOf es kd)) (ht:typeLookup (.type "function") name=pure none) (hl:getL name es=some (some v)) (hh:handedIn v=true) (h:Q v { s with toks:=s.toks+1 }) :
  wpAny (model prog w) A (getAttr (.ref co) name expr) Q E s:=by
 obtain ⟨hp,g,d,t,os⟩:=s
 have L0:Looks (model prog w) hp (typeOf (.ref co)) (.type "function"):=(Looks.ld ho).andThen .now
 have L1:Looks (model prog w) hp (typeLookup (.type "function") "__getattribute__") (some (.builtin "object.__getattribute__")):=Looks.of_pure (by kernel_rfl)
 have L2:Looks (model prog w) hp (typeLookup (.type "function") name) none:=Looks.of_pure ht
 unfold getAttr getAttrBy
 refine wpAny_bind (wpAny_mkText (wpAny_holding (wpAny_bind (L0.at (wpAny_bind (L1.at ?_))))))
 dsimp only
 rw [if_neg (by decide)]
 unfold getAttrByItsOwn hookBefore
 refine wpAny_bind ?_
 rw [if_neg (by decide)]
 refine wpAny_pure ?_
 refine wpAny_bind (wpAny_attempt (wpAny_holding ?_))
 unfold callGetattribute
 rw [if_neg (by cases expr <;> decide)]
 unfold boundAndCalled
 rw [show bindSpecial (.builtin "object.__getattribute__") (.ref co)=pure (.builtin "object.__getattribute__",[.ref co]) by kernel_rfl]
 refine wpAny_bind (wpAny_pure ?_)
 show wpAny _ _ (call (.builtin "object.__getattribute__") [.ref co,.str name t]) _ _ _
 refine Jef (owner := "object") (n := "__getattribute__") (b:=Builtin.«object.__getattribute__») (by first | exact .inl (by decide +kernel) | exact .inr (by decide +kernel)) (by decide +kernel) (by decide +kernel) PySem.F.entry_object_getattribute (Jut ho) (PySem.F.args_object_getattribute_2 _ _) ?_
 unfold Builtin.«object.__getattribute__» slotArgs
 refine wpAny_bind (wpAny_bind (wpAny_pure (wpAny_bind (wpAny_pure (wpAny_pure ?_)))))
 refine wpAny_bind (wpAny_pure ?_)
 refine wpAny_bind (L0.here (s:=⟨hp,g,d,t+1,os⟩) ?_)
 unfold find
 refine wpAny_bind (wpAny_bind (L2.here (s:=⟨hp,g,d,t+1,os⟩) ?_))
 refine wpAny_bind (wpAny_pure ?_)
 refine wpAny_bind (wpAny_pure ?_)
 unfold ownThenClass inOwnDict ObjectAttr.ownDict instanceDict loadHead
 refine wpAny_bind (wpAny_bind (wpAny_bind (wpAny_loadPart ho ?_)))
 refine wpAny_bind (wpAny_loadPart ho ?_)
 refine wpAny_pure ?_
 refine wpAny_bind (wpAny_loadPart hd ?_)
 rw [nsLook_of (show lookIn name (dictOf es kd)=some (some v) from hl)]
 refine wpAny_pure ?_
 refine wpAny_bind (wpAny_rule (wpAny_pure ?_))
 refine wpAny_pure ⟨_,rfl,?_⟩
 dsimp only
 rw [handedOut_of hh]
 exact wpAny_pure h
theorem Jqn {pl:Sem Bool}{Q:Value×List Value->Shared->Prop}(ho:s.heap.get? co=some (Jda (some cd) fd)) (hd:s.heap.get? cd=some (dictOf es kd)) (ht:typeLookup (.type "function") name=pure none) (hl:getL name es=some (some v)) (hh:handedIn v=true) (h:Q (v,[]) { s with toks:=s.toks+1 }) :
  wpAny (model prog w) A (getMethod (.ref co) name pl) Q E s:=by
 have L0:Looks (model prog w) s.heap (typeOf (.ref co)) (.type "function"):=(Looks.ld ho).andThen .now
 have L1:Looks (model prog w) s.heap (typeLookup (.type "function") "__getattribute__") (some (.builtin "object.__getattribute__")):=Looks.of_pure (by kernel_rfl)
 have L2:Looks (model prog w) s.heap (typeLookup (.type "function") "__getattr__") none:=Looks.of_pure (by kernel_rfl)
 have L3:Looks (model prog w) s.heap (typeLookup (.type "function") name) none:=Looks.of_pure ht
 unfold getMethod specialOf
 refine wpAny_bind (wpAny_bind (L0.here (L1.here ?_)))
 dsimp only
 rw [PySem.F.canon_object_ga,if_neg Bool.false_ne_true]
 refine wpAny_bind (wpAny_bind (L0.here (L2.here ?_)))
 refine wpAny_bind (wpAny_bind (L0.here (L3.here ?_)))
 exact wpAny_bind (fn_get ho hd ht hl hh (wpAny_pure h))
end
end
section
section
variable {prog:Program}{w:World}{g:Heap}{T:Ja3}{n:Nat}{sc:Scope}{A:Around}{s:Shared}{env:Env}{ow:Ow}{av:List Addr}{σ:Sto}{x y:Str}{ds:List D}{d:D}{p p2 p3 apos cpos pos:Pos}{kk:Nat}
theorem call_meets {id Ty:String}{name:Str}{B:Builtin}{self:Value}{rest:List Value}{S:PySem.Spec}{Q:Value->Shared->Prop}{E:Value->Shared->Prop}(slot:Slot Ty name id) (entry:entryFor table id=some B) (hT:s.TypeIs self Ty) (ha:argsOk id ⟨self::rest,[]⟩) (m:Meets (B ⟨self::rest,[]⟩) S) (hS:S A (wants Q E) s):wpAny (model prog w) A (call (.builtin id) (self::rest)) Q E s :=
 wpAny_call (codeAny_call_builtin slot.plain entry (slot.check _ _ _ _ _ _ _ _ hT ha (m prog w A (wants Q E) s hS)))
theorem Jiv {h:Heap}{a:Addr}{vs:List Value}{k:Nat}(e:h.get? a=some (Jb0 vs k)) (i:Nat):∃ k',(h.update a (Obj.mapSeq fun xs=>xs.eraseIdxIfInBounds i)).get? a=some (Jb0 (vs.eraseIdx i) k') :=
 ⟨_,(PySem.IsL.update (h:=h) (l:=a) (items:=vs.toArray) (n:=k) e fun x=>x.eraseIdxIfInBounds i).trans (by rw [List.eraseIdxIfInBounds_toArray])⟩
theorem Jo7 {a:Addr}{vs':List Value}{v:Value}{h':Heap}{k':Nat}(F:Fm g T av ow env σ s) (hax:(y,a)∈ow.l) (lx:Jat env s.heap y (.ref a)) (hs:Heap.SameBut a s.heap h') (ho:h'.get? a=some (Jb0 vs' k')) (hd:VDs (ow.adr++av) s.heap vs' ds) (hv:VD (ow.adr++av) s.heap v d)
  (hx:Jlf env ow.c x):wpAny (model prog w) A (storeName env x v) (fun V s'=>Nx g T av ow env s ((x,.val d)::(y,.own ds)::σ) s') NoE { s with heap:=h' }:=by
 have f:=F.setOwn (tk:=s.toks) hax lx hs ho hd
 exact Ja0 (Jb1 f.F hx (hv.keep fun b o e ho' nb=>(hs.2 b fun q=>nb (q▸List.mem_append_left _ (Jb7 hax))).trans e)) fun V s2 h₂=>⟨ow.drop x,rfl,h₂.F,Mv.trans f.m h₂.m fun b h=>.inl h,fun b h=>.inl h.drop⟩
theorem Sx.popFirst (hy:σ.lookup y=some (.own (d::ds))) (hln:(apos.endLine==cpos.line)=true) (hz:(d::ds).length<=lim) (hx:Jh9 sc (Ja1 sc.names) x=true) :
  Sx prog w g T n sc σ (.Assign [.Name x p] (.Call (.Attribute (.Name y p2) "pop" apos) [.Constant (.int 0) kk p3] [] cpos) pos) (.next ((x,.val d)::(y,.own ds)::σ)):=fun A s av ow env he hoc rm F=>by
 cases F.ownAt hy with | @mk a vs k hax la e3 e4 =>
 refine wpAny_Assign_Name (wpAny_Call_method_late rfl rfl hln rfl (Jab F.ec.kind la ⟨"list", "list.pop",PySem.F.plainAttrs_list,PySem.F.slot_list_pop,PySem.F.type_list_pop,⟨_,e3,rfl⟩,fun b hb=>by cases hb; exact ⟨_,e3,rfl⟩,?_⟩)) rfl
 refine callWith_method1 (Ja0 ((EvL.more (fun V=>rfl) Ev.int EvL.nil).run A s _ env cpos he rm F.gk F.ec) fun us sA h₁=>?_) rfl rfl
 cases h₁.2.i1 with | mk r0 r2 =>
 cases r2.i0
 obtain ⟨t,rfl⟩:=r0.i4
 have xA:=h₁.1
 have e4:=xA.vds F.gk e4
 have e3:=xA.get' F.gk e3 (Jai _ _)
 cases vs with
 | nil=>exact nomatch e4.length
 | cons v vs =>
 cases e4.i1 with | mk r rs =>
 refine call_meets PySem.F.slot_list_pop PySem.F.entry_list_pop ⟨_,e3,rfl⟩ (PySem.F.args_list_pop_2 _ _) (PySem.MeetsSeq.list_pop_at a (v::vs).toArray k 0 t 0 v (by decide) (Jt4 (by rw [List.size_toArray]; exact Nat.succ_ne_zero _)) rfl (Jf2 (.cons r rs) hz)) ?_
 obtain ⟨k',e5⟩:=Jiv e3 0
 exact ⟨(e3:sA.heap.get? a=_),Ja0 (Jo7 (F.ext xA) hax (la.ext xA F.gk) (Heap.SameBut.update ..) e5 rs r (Jd1 F.ec he (hoc.symm▸hx))) fun V s2 h₂=>.next (Nx.then rfl (xA.gk F.gk) xA.mv (fun V h=>.inl h) h₂)⟩
end
end
section
noncomputable abbrev IsD (o:Obj):Prop:=∃ es ep,o.data=.dict es ep
inductive FrK (g h:Heap) (e:Env):Prop
 | mk (L:Addr) (o:Obj) (k:e.scope.kind≠.module) (f:e.frame=some L) (n:g.get? L=none) (a:h.get? L=some o) (d:IsD o):FrK g h e
noncomputable abbrev FrO (g h:Heap) (l:List Env):Prop:=∀ e∈l,FrK g h e
noncomputable abbrev frA (l:List Env):List Addr:=l.filterMap (·.frame)
noncomputable def SlK (S:List Addr) (h h':Heap):Prop:=∀ b∈S,∀ o,h.get? b=some o->∃ sl,h'.get? b=some { o with slots:=sl }
noncomputable abbrev frT (l:List Env):Ja3:=⟨(frA l).map fun b=>(b,Str.empty),[]⟩
noncomputable abbrev frH (l:List Env) (h:Heap):Heap:=Jbp (frT l) h
section
variable {g:Heap}{T:Ja3}{n:Nat}{s s':Shared}{env:Env}{ow:Ow}{av:List Addr}{σ:Sto}{l:List Env}{h h' h₁ h₂:Heap}{b e:Addr}{o:Obj}{S:List Addr}
theorem SlK.refl:SlK S h h:=fun b V o e=>⟨o.slots,e⟩
theorem SlK.trans (x:SlK S h h₁) (y:SlK S h₁ h₂):SlK S h h₂:=fun b hb o e=>(x b hb o e).elim fun V eA=>(y b hb _ eA :)
theorem SlK.of (k:∀ b∈S,∀ o,h.get? b=some o->h'.get? b=some o):SlK S h h':=fun b hb o e=>⟨o.slots,k b hb o e⟩
theorem SlK.sub {S':List Addr}(x:SlK S h h') (hs:∀ b∈S',b∈S):SlK S' h h':=fun b hb=>x b (hs b hb)
theorem JCq (hb:b∉frA l):Off (frT l) b:=fun p hp z=>let ⟨c,hc,e⟩:=List.mem_map.mp hp; hb (z▸e▸hc)
theorem Jwp (hb:b∉frA l):(frH l h).get? b=h.get? b:=Jcr (JCq hb)
theorem Jku (hb:b∈frA l):(frH l h).get? b=none:=Jdg (p:=(b,Str.empty)) (T:=frT l) (List.mem_map.mpr ⟨b,hb,rfl⟩)
theorem Jzm (e:(frH l h).get? b=some o):b∉frA l/\h.get? b=some o:=⟨fun hb=>nos (Jku hb) e,(Jbh e).2⟩
theorem FrO.obj (F:FrO g h l) (hb:b∈frA l):g.get? b=none/\∃ o,h.get? b=some o/\IsD o:=by
 obtain ⟨e,he,hf⟩:=List.mem_filterMap.mp hb
 cases F e he with | mk L o k f n a d =>
 cases f.symm.trans hf
 exact ⟨n,o,a,d⟩
theorem Jb8 (d:IsD o):Jdd o:=by
 obtain ⟨es,ep,d⟩:=d
 exact ⟨fun vs q t h=>(Jbe tgB (d.symm.trans h) rfl).elim,fun ps e=>by rw [e] at d; exact nomatch d⟩
theorem Jks (d:IsD o) (ho:Jaq o):False:=by
 obtain ⟨es,ep,d⟩:=d
 obtain ⟨vs,n,rfl | rfl⟩:=ho <;> cases d
theorem FrO.keep (F:FrO g h l) (k:∀ b∈frA l,∀ o,h.get? b=some o->(IsD o)->∃ sl,h'.get? b=some { o with slots:=sl }):FrO g h' l:=fun e he=>by
 cases F e he with | mk L o kk f n a d=>exact (k L (List.mem_filterMap.mpr ⟨e,he,f⟩) o a d).elim fun sl z=>⟨L,_,kk,f,n,z,d⟩
theorem FrO.slk (F:FrO g h l) (x:SlK (frA l) h h'):FrO g h' l:=F.keep fun b hb o e V=>x b hb o e
theorem FrO.mv {W:Addr->Prop}(F:FrO g s.heap l) (q:GK g T s) (m:Mv g T W s s') (hw:∀ b∈frA l,¬ W b):SlK (frA l) s.heap s'.heap:=fun b hb o e=>(F.obj hb).2.elim fun o' z=>⟨o.slots,m.get' q e (hw b hb) (Jav z.1 e▸(Jb8 z.2).2)⟩
theorem FrO.nsq (F:FrO g h l) (hb:b∈frA l) (e:h.get? b=some o) (ho:Jaq o):False:=(F.obj hb).2.elim fun o' z=>Jks (Jav z.1 e▸z.2) ho
theorem Fm.frk (F:Fm g T av ow env σ s) (hf:env.frame=some env.locals):FrK g s.heap env:=by
 obtain ⟨m,o,es,ep,e,d,_⟩:=F.ns
 exact ⟨env.locals,o,F.ec.kind▸nofun,hf,F.off _ (.inl rfl),e,_,_,d⟩
theorem FrO.cons (k:FrK g h env) (F:FrO g h l):FrO g h (env::l):=fun e he=>(List.mem_cons.mp he).elim (fun z=>z▸k) (F e)
theorem FrO.fun (F:FrO g h l) (k:∀ b∈frA l,h₁.get? b=none):h.FunFrames h₁ l:=by
 induction l with
 | nil=>trivial
 | cons env rest ih =>
  cases F env (.head _) with | mk L o kk f n a d =>
  refine ⟨kk,⟨L,o,f,k L (List.mem_filterMap.mpr ⟨env,.head _,f⟩),a,fun vs q=>d.elim fun es d=>d.elim fun ep d=>(Jbe tgB (d.symm.trans q) rfl).elim⟩,ih (fun e he=>F e (.tail _ he)) fun b hb=>k b ?_⟩
  obtain ⟨e,he,hf⟩:=List.mem_filterMap.mp hb
  exact List.mem_filterMap.mpr ⟨e,.tail _ he,hf⟩
structure Cau (l:List Env) (h h':Heap):Prop where
 keep:∀ b o,h.get? b=some o->b∉frA l->h'.get? b=some o
 sl:SlK (frA l) h h'
theorem Cau.mv {tk:Nat}(F:FrO g s.heap l) (x:Cau l s.heap h'):Mv g T (fun b=>b∈frA l) s { s with heap:=h',toks:=tk } :=
 Mv.of (fun b o e n=>x.keep b o e n) fun b hb=>⟨(F.obj hb).1,fun o e=>(F.obj hb).2.elim fun o' z=>Jav z.1 e▸Jb8 z.2⟩
theorem Jm3 (k:∀ b o,h.get? b=some o->h₁.get? b=some o):(frH l h).StaysIn h₁:=fun b o e=>k b o (Jzm e).2
end
end
section
structure Fly (B:Heap) (l:List Env) (e:Addr) (cls:Value) (h h':Heap):Prop where
 stays:B.StaysIn h'
 new:B.get? e=none
 ff:h'.FunFrames B l
 tr:h'.Traced B e cls
 sl:∀ b o,h.get? b=some o->IsD o->∃ sl,h'.get? b=some { o with slots:=sl }
section
variable {prog:Program}{w:World}{M:Model}{g B:Heap}{A:Around}{s:Shared}{env:Env}{l outer:List Env}{h h' h₁ h₂:Heap}{b e L:Addr}{o:Obj}{cls:Value}{X:String}{Q:Unit->Shared->Prop}{E:Value->Shared->Prop}
theorem Jq6 (d:IsD o):∀ vs,o.data≠.fields vs:=fun vs q=>d.elim fun es d=>d.elim fun ep d=>(Jbe tgB (d.symm.trans q) rfl).elim
theorem Fly.of (k:∀ b o,h.get? b=some o->IsD o->∃ sl,h₁.get? b=some { o with slots:=sl }) (hn:B.get? e=none) (x:Heap.Left B l e cls h₁ h₂):Fly B l e cls h h₂ :=
 ⟨x.1,hn,x.2.1,x.2.2.1,fun b o q d=>(k b o q d).elim fun sl q'=>(x.2.2.2 b _ q' (Jq6 d) :)⟩
theorem Fly.out (x:Fly B (env::l) e cls h h'):Fly B l e cls h h':={ x with ff:=x.ff.2.2 }
theorem Jli (hfr:A.frames=some (env::outer)) (hl:h.FunFrames B (env::outer)) (hf:env.frame=some L) (hB:B.StaysIn h) (x:Heap.NewExc h s.heap e X)
  (k:∀ h',Fly B (env::outer) e (.type X) h h'->Q () { s with heap:=h' }):wpAny M A (noteFrame (.ref e) env) (fun V s2=>wpAny M A (setFlight (.ref e) none) Q E s2) E s:=by
 obtain ⟨ob,t,he,hc,hd⟩:=x.there
 have hn:B.get? e=none:=Jcl fun o q=>nos x.new (hB e o q)
 unfold noteFrame
 simp only [hf]
 refine wpAny_bind (wpAny_field he hd (x:=.none) rfl ?_)
 rw [if_neg (by decide)]
 exact wpAny_newEntry hfr (hl.of_keeps fun b o q V=>⟨o,x.keeps b o q,rfl⟩) hf he (fun b o q=>x.keeps b o (hB b o q)) hn hd (Array.getElem?_eq_some_iff.mp rfl).1 fun h' hL=>k h' (.of (fun b o q V=>⟨o.slots,x.keeps b o q⟩) hn (hc▸hL))
theorem Jsn (hfr:A.frames=some (env::outer)) (hf:env.frame=some L) (x:Fly B (env::outer) e cls h s.heap)
  (k:∀ h',Fly B (env::outer) e cls h h'->Q () { s with heap:=h' }):wpAny M A (noteFrame (.ref e) env) (fun V s2=>wpAny M A (setFlight (.ref e) none) Q E s2) E s:=by
 obtain ⟨oe,vs,t,oT,ts,he,hc,hd,h1,hnT,hTe,hT,hdT,h3⟩:=x.tr
 subst hc
 unfold noteFrame
 simp only [hf]
 refine wpAny_bind (wpAny_field he hd h1 ?_)
 rw [if_pos (show (Value.ref t != Value.none)=true from by simp)]
 refine wpAny_bind (wpAny_field hT hdT h3 ?_)
 rw [if_neg (show ¬ ((Value.none==rawInt L)=true) from by simp [rawInt])]
 refine wpAny_bind (wpAny_setField hT hdT (Array.getElem?_eq_some_iff.mp h3).1 ?_)
 have other:∀ b,b≠t->(s.heap.update t (Obj.mapFields (·.setIfInBounds 3 Value.none))).get? b=s.heap.get? b:=fun b hb=>Heap.get?_update_other _ _ (Ne.symm hb)
 have noRecord:∀ b o,s.heap.get? b=some o->(∀ vs,o.data≠.fields vs)->b≠t:=fun b o hb hnf q=>by
  rw [q,hT] at hb; injection hb with hb; subst hb; exact hnf ts hdT
 refine wpAny_newEntry hfr (x.ff.of_keeps fun b o hb hnf=>⟨o,(other b (noRecord b o hb hnf)).trans hb,rfl⟩) hf ((other e (Ne.symm hTe)).trans he)
  (fun b o hbo=>(other b fun q=>by rw [q,hnT] at hbo; cases hbo).trans (x.stays b o hbo)) x.new hd (Array.getElem?_eq_some_iff.mp h1).1
  fun h' hL=>k h' (.of (fun b o q d=>(x.sl b o q d).elim fun sl q'=>⟨sl,(other b (noRecord b _ q' (Jq6 d))).trans q'⟩) x.new hL)
structure Cgt (B h h':Heap):Prop where
 stays:B.StaysIn h'
 sl:∀ b o,h.get? b=some o->IsD o->∃ sl,h'.get? b=some { o with slots:=sl }
theorem Jih {Q:Flow->Shared->Prop}{Ty:Str}{TyS:String}{p pos:Pos}{bZ:Stmt}{suite:List Stmt}(hk:env.scope.kind=.function) (hg:env.globals=mainGlobals) (hb:env.builtins=builtinsNs) (hx:env.kindOf Ty=some .globalImplicit) (gl:Glb g Ty (.type TyS)) (gB:∀ b o,g.get? b=some o->B.get? b=some o)
  (hexc:isSubtype (.type TyS) (.type "BaseException")=pure true) (hnt:isSubtype (.type ((Manifest.find? TyS).elim "type" fun x=>x.metatype)) (.type "tuple")=pure false) (hsub:isSubtype (.type X) (.type TyS)=pure true)
  (x:Fly B l e (.type X) h s.heap) (k:∀ h',Cgt B h h'->∀ E',wpAny (model prog w) (A.mark (some (.ref e))) (execs (bZ::suite) env) Q E' { s with heap:=h' }) :
  wpAny (model prog w) A (handleBy (.ref e) env [.ExceptHandler (some (.Name Ty p)) none (bZ::suite) pos]) Q E s:=by
 obtain ⟨oe,vs,t,oT,ts,he,hc,hd,h1,hnT,hTe,hT,hdT,h3⟩:=x.tr
 refine wpAny_handleBy_builtin hexc hnt hsub (Jbk hk hg hb hx (fun b o q=>x.stays b o (gB b o q)) gl ⟨rfl,⟨oe,he,hc⟩,?_⟩)
 refine wpAny_setFlight_none he hd h1 hT hdT (Array.getElem?_eq_some_iff.mp h3).1 (k _ ⟨fun b o q=>?_,fun b o q d=>?_⟩ _)
 ·exact (Heap.get?_update_other _ _ fun z=>nos hnT (z▸q)).trans (x.stays b o q)
 ·exact (x.sl b o q d).elim fun sl q'=>⟨sl,(Heap.get?_update_other _ _ fun z=>Jq6 d ts ((congrArg Obj.data (Jav (z▸hT) q')).symm.trans hdT)).trans q'⟩
end
end
section
section
variable {prog:Program}{w:World}{g:Heap}{T:Ja3}{n:Nat}{A:Around}{s s' sA:Shared}{env:Env}{ow:Ow}{av:List Addr}{σ:Sto}{vs:List Value}{ds:List D}{a:Addr}{sc:Scope}{xs:List Str}{body:List Stmt}{P:Value->Str->Prop}
theorem Jde {cl:List (Str×Addr)}{σc:Sto}{Q:Value->Shared->Prop}{E:Value->Shared->Prop}(hf:FnO P g a sc cl xs body) (hs:FnS0 sc xs) (hc:Jbi sc cl σc av s.heap) (rm:Rm (n+1) A) (hg:GK g T s) (hav:Jdk av s.heap) (hv:VDs av s.heap vs ds) (hl:ds.length=xs.length)
  (h:∀ (env:Env) (ow:Ow) (sA:Shared),JB4 P g T n a sc cl av A s (Ja4 (xs.zip ds) σc) env ow sA->env.frame=some env.locals->wpAny (model prog w) (A.deeper env) (execs body env) (fun fl s'=>Q (Juv fl) s') (fun e s'=>wpAny (model prog w) (A.deeper env) (noteFrame e env) (fun V s2=>wpAny (model prog w) (A.deeper env) (setFlight e none) (fun V s3=>E e s3) NoE s2) NoE s') sA) :
  wpAny (model prog w) A (call (.ref a) vs) Q E s:=by
 have hb:=fun {o fd}(ho:g.get? a=some o) (hd:o.data=.func fd)=>hf.looks (prog:=prog) (w:=w) (vs:=vs) (hv.length.trans hl) ho hd
 cases hf with | mk o fd ho hdat hsc hbody hclo hglob hblt hcr hbind hp hlim =>
 subst hsc
 have hvl:vs.length=xs.length:=hv.length.trans hl
 refine wpAny_call (codeAny_call_function (Nat.lt_of_le_of_lt (Nat.le_add_right _ _) rm.depth) (hg.keep _ _ ho) hdat hs.coro hs.gen hbody (hcr.keeps hg.keep) (hb ho hdat _ _ _ _ hg.keep ?_))
 rw [hclo,hglob,hblt]
 refine Je3 fun env henv=>?_
 have N:Jeg fd.scope.names cl s.heap env:=henv▸⟨hs.kind,rfl,rfl,rfl,rfl⟩
 have hes:env.scope=fd.scope:=henv▸rfl
 have hk:∀ x,env.kindOf x=fd.scope.names.lookup x:=fun x=>congrArg (fun z:Scope=>z.names.lookup x) hes
 have f:=Fm.fresh (b:=false) (tk:=s.toks) (σ:=σc) N hg hav hc.ce (fun x h=>h.imp (fun h=>Jas (hk x▸h)) fun h=>hc.free x (hk x▸h)) fun x sl e=>(hc.cap x sl e).rec fun d c v ok k nc e i r=>⟨d,c,v,ok,.inr ((hk x).trans k),nc,e,i,r⟩
 refine wpAny_mono (Jh3 (prog:=prog) (w:=w) (A:=A.in1) hes xs (vs:=vs) (ds:=ds) f.F hvl.symm (f.x.vds hg hv) hs.st) (fun V s2 h₂=>?_) fun V V f=>f.elim
 cases h₂ with | mk ow2 cB Fb mQ wB lB =>
 refine ⟨hlim.keeps Fb.gk.keep,codeAny_func (wpAny_mono (h env ow2 s2 ⟨⟨hes,fun x=>N.out,henv▸hp⟩,henv▸rfl,cB,List.eq_nil_iff_forall_not_mem.mpr (fun p hp=>nomatch lB p hp),rm.deeper,Fb,(Mv.trans f.x.mv mQ fun b hb=>.inl hb).ext f.w,fun b hb=>f.w b (wB b hb)⟩ (henv▸rfl)) (fun fl s' q=>?_) fun e s' q=>?_)⟩
 ·cases fl <;> exact q
 ·unfold leaving
  exact wpAny_mono (wpAny_bind q) (fun V V q=>q) fun V V f=>f.elim
end
end
section
section
variable {prog:Program}{w:World}{g:Heap}{T:Ja3}{n:Nat}{sc:Scope}{A:Around}{s:Shared}{env:Env}{ow:Ow}{av:List Addr}{σ σA:Sto}{x y:Str}{ds:List D}{d:D}{p p2 apos cpos pos:Pos}{sts:List Stmt}{h₀:ExceptHandler}{hs:List ExceptHandler}
theorem Sx.popLast (hy:σ.lookup y=some (.own (ds++[d]))) (hln:(apos.endLine==cpos.line)=true) (hz:ds.length+1<=lim) (hx:Jh9 sc (Ja1 sc.names) x=true) :
  Sx prog w g T n sc σ (.Assign [.Name x p] (.Call (.Attribute (.Name y p2) "pop" apos) [] [] cpos) pos) (.next ((x,.val d)::(y,.own ds)::σ)):=fun A s av ow env he hoc rm F=>by
 cases F.ownAt hy with | @mk a vs k hax la e3 e4 =>
 refine wpAny_Assign_Name (wpAny_Call_method_late rfl rfl hln rfl (Jab F.ec.kind la ⟨"list", "list.pop",PySem.F.plainAttrs_list,PySem.F.slot_list_pop,PySem.F.type_list_pop,⟨_,e3,rfl⟩,fun b hb=>by cases hb; exact ⟨_,e3,rfl⟩,?_⟩)) rfl
 obtain ⟨vs1,v,rfl⟩:∃ vs1 v,vs=vs1++[v]:=by
  have:=e4.length
  rw [List.length_append] at this
  exact ⟨vs.dropLast,_,(List.dropLast_concat_getLast (List.ne_nil_of_length_pos (by rw [this]; exact Nat.succ_pos _))).symm⟩
 have hl:vs1.length=ds.length:=by have:=e4.length; rw [List.length_append,List.length_append] at this; exact Nat.succ.inj this
 have r:VD (ow.adr++av) s.heap v d:=by
  obtain ⟨u,hu,r⟩:=e4.get' ds.length d (by rw [List.getElem?_append_right (Nat.le_refl _),Nat.sub_self]; rfl)
  rw [<- hl,List.getElem?_append_right (Nat.le_refl _),Nat.sub_self] at hu
  exact Option.some.inj hu▸r
 have rs:VDs (ow.adr++av) s.heap vs1 ds:=by
  have:=e4.take ds.length
  rwa [List.take_left' rfl,List.take_left' hl] at this
 refine callWith_method0 ?_
 refine call_meets PySem.F.slot_list_pop PySem.F.entry_list_pop ⟨_,e3,rfl⟩ (PySem.F.args_list_pop_1 _) (PySem.MeetsSeq.list_pop_last a (vs1++[v]).toArray k v (by simp) (Jf2 e4 (by rw [List.length_append]; exact hz))) ?_
 obtain ⟨k',e5⟩:=Jiv e3 ((vs1++[v]).toArray.size - 1)
 have e6:(vs1++[v]).eraseIdx ((vs1++[v]).toArray.size - 1)=vs1:=by
  rw [List.size_toArray,List.length_append,List.length_singleton,Nat.add_sub_cancel,List.eraseIdx_append_of_length_le (Nat.le_refl _),Nat.sub_self]
  exact List.append_nil _
 rw [e6] at e5
 exact ⟨e3,Ja0 (Jo7 F hax la (Heap.SameBut.update ..) e5 rs r (Jd1 F.ec he (hoc.symm▸hx))) fun V s2 h₂=>.next h₂⟩
theorem Sx.try (h:SxL prog w g T n sc σ sts (.next σA)):Sx prog w g T n sc σ (.Try sts (h₀::hs) [] [] pos) (.next σA):=fun A s av ow env he hoc rm F=>
 wpAny_Try_except (wpAny_mono (h A s av ow env he hoc rm F) (fun fl sA q=>by
  cases q with | next nx=>exact wpAny_execs_nil (.next nx)) fun V V f=>f.elim)
end
end
section
section
variable {prog:Program}{w:World}{g:Heap}{T:Ja3}{n:Nat}{sc:Scope}{A:Around}{s:Shared}{env:Env}{ow:Ow}{av:List Addr}{σ:Sto}{x y:Str}{p p2 p3 p4 apos cpos pos hp ap:Pos}{l outer:List Env}{h h':Heap}{Q:Flow->Shared->Prop}
theorem Cgt.cau (F:FrO g h l) (x:Cgt (frH l h) h h'):Cau l h h':=⟨fun b o e n=>x.stays b o ((Jwp n).trans e),fun b hb o e=>(F.obj hb).2.elim fun o' z=>x.sl b o e (Jav z.1 e▸z.2)⟩
theorem JCp (F:FrO g s.heap l) (q:GK g T s):∀ b o,g.get? b=some o->(frH l s.heap).get? b=some o:=fun b o e=>(Jwp fun hb=>nos (F.obj hb).1 e).trans (q.keep b o e)
theorem Jy7 (F:Fm g T av ow env σ s) (he:env.scope=sc) (rm:Rm n A) (hy:σ.lookup y=some (.own [])) (hln:(apos.endLine==cpos.line)=true) (hfr:A.frames=some (env::outer)) (hf:env.frame=some env.locals) (FO:FrO g s.heap outer) (gl:Glb g "IndexError" (.type "IndexError")) (hx:sc.names.lookup ("IndexError" : Str)=some .globalImplicit)
  (k:∀ h' tk,Cau (env::outer) s.heap h'->Q (.ret .none) { s with heap:=h',toks:=tk }) :
  wpAny (model prog w) A (exec (.Try [.Assign [.Name x p] (.Call (.Attribute (.Name y p2) "pop" apos) [] [] cpos) ap] [.ExceptHandler (some (.Name "IndexError" p3)) none [.Return none p4] hp] [] [] pos) env) Q NoE s:=by
 cases F.ownAt hy with | @mk a vs kl hax la e3 e4 =>
 cases e4.i0
 have FO':FrO g s.heap (env::outer):=.cons (F.frk hf) FO
 refine wpAny_Try_except (wpAny_execs_cons (wpAny_Assign_Name (wpAny_Call_method_late rfl rfl hln rfl (Jab F.ec.kind la ⟨"list", "list.pop",PySem.F.plainAttrs_list,PySem.F.slot_list_pop,PySem.F.type_list_pop,⟨_,e3,rfl⟩,fun b hb=>by cases hb; exact ⟨_,e3,rfl⟩,?_⟩)) rfl))
 refine callWith_method0 (call_meets PySem.F.slot_list_pop PySem.F.entry_list_pop ⟨_,e3,rfl⟩ (PySem.F.args_list_pop_1 _) (PySem.AutoSeq1.list_pop_list_0 a #[] kl rfl) ?_)
 refine ⟨e3,rm.hand,fun h' tk e ne=>?_⟩
 refine Jli (h:=s.heap) (B:=frH (env::outer) s.heap) hfr (FO'.fun fun b hb=>Jku hb) hf (Jm3 fun V V e=>e) ne fun h₁ fly=>?_
 refine Jih F.ec.kind F.ec.glob F.ec.blt (by rw [Env.kindOf,he]; exact hx) gl (JCp FO' F.gk) (by kernel_rfl) (by kernel_rfl) (by kernel_rfl) fly fun h₂ c E'=>?_
 exact wpAny_execs_cons (wpAny_Return_none (k h₂ tk (c.cau FO')))
end
end
section
section
variable {g:Heap}{T:Ja3}{n:Nat}{s s':Shared}{env:Env}{ow:Ow}{av:List Addr}{σ:Sto}{U:Addr->Prop}{L:Addr}{m:Str->Option Value}{l:List Env}
theorem Jtf (hn:s.heap.Ns L m) (k:∀ o,s.heap.get? L=some o->∃ sl,s'.heap.get? L=some { o with slots:=sl }):s'.heap.Ns L m:=by
 obtain ⟨o,es,ep,ho,hd,r⟩:=hn
 obtain ⟨sl,hs⟩:=k o ho
 exact ⟨_,es,ep,hs,hd,r⟩
theorem Fm.besideL (F:Fm g T av ow env σ s) (m:Mv g T U s s') (hl:∀ b∈ow.adr,¬ U b) (hs:∀ b o,s.heap.get? b=some o->Jaq o->U b->b∈av) (hL:∀ o,s.heap.get? env.locals=some o->∃ sl,s'.heap.get? env.locals=some { o with slots:=sl }) (hc:∀ x c,env.cells.lookup x=some c->¬ U c) (ho:∀ b∈av,U b->∃ o,s'.heap.get? b=some o/\NT o):Fm g T av ow env σ s':=by
 have kcell:∀ {x c v},env.cells.lookup x=some c->s.heap.IsCell c v->s'.heap.IsCell c v:=fun e i=>Jbf i fun o eo nt=>m.get' F.gk eo (hc _ _ e) nt
 have kns:∀ {m'},s.heap.Ns env.locals m'->s'.heap.Ns env.locals m':=fun n=>Jtf n hL
 have kl:∀ {x v},Jat env s.heap x v->Jat env s'.heap x v:=fun l=>l.to kns fun e=>kcell e
 have ks:Ja9 (ow.adr++av) s.heap s'.heap:=m.seq F.gk fun b o e q u=>List.mem_append_right _ (hs b o e q u)
 have klst:∀ {a},a∈ow.adr->∀ {vs k},s.heap.get? a=some (Jb0 vs k)->s'.heap.get? a=some (Jb0 vs k):=fun ha V V e=>m.get' F.gk e (hl _ ha) (Jai _ _)
 refine ⟨m.gk F.gk,⟨F.ec.kind,F.ec.glob,F.ec.blt,fun a ha=>?_,fun x sl e=>?_,fun x h=>(F.ec.cells x h).imp fun c p=>⟨p.1,p.2.imp fun V=>kcell p.1⟩⟩,F.ns.imp fun V=>kns,fun x c hm k e=>(F.own x c hm k e).imp fun V=>kcell e,F.inj,F.off,fun x ds e=>(F.reg x ds e).imp fun V p=>⟨p.1,kl p.2⟩,F.nd,F.apt,fun a ha=>(F.isl a ha).imp fun V=>Exists.imp fun V=>klst ha⟩
 ·by_cases u:U a
  ·exact ho a ((List.mem_append.mp ha).resolve_left fun q=>hl a q u) u
  ·exact (F.ec.avok a ha).imp fun o p=>⟨m.get' F.gk p.1 u p.2,p.2⟩
 ·cases F.ec.vars x sl e with | mk v l r =>
  refine ⟨v,kl l,?_⟩
  cases sl with
  | val d=>exact VD.keep ks r
  | own ds =>
   obtain ⟨a,hm,l'⟩:=F.reg x ds e
   cases r with | mk m e r=>cases l.uniq l'; exact ⟨m,klst (Jb7 hm) e,r.keep ks⟩
end
end
section
structure MG (K:Frag) (g:Heap) (C:Addr) (m:Str) (f:Addr) (st:Stmt) (xs:List Str):Prop where
 find:findIn K (.ref C) m=some (some (.ref f))
 isf:isFn K (.ref f)=true
 kee:keepIn K (.ref f)=true
 fo:FnO Jo2 g f (Ja2 st) [] xs (Ja5 st)
 fs:FnG (Ja2 st) xs
inductive Js6 (g:Heap) (T:Ja3) (a:Jbn) (b:Jc7) (q:Pg) (p:PgP) (st:Pst) (s:Shared):Value->Shared->Prop
 | mk {s':Shared}(genv:Env) (gow:Ow) (ga:Addr) (gi:Nat) (E:MxE genv gow) (hin:interactive genv=false) (Z:MxG g T a b q p st genv gow s') (hi:Jgy T gi) (isg:s'.heap.IsGen ga gi) (hgen:s'.gens[gi]?=some (.fresh (.func mxB genv))) (x:Ext g T s s') (nga:s.heap.get? ga=none):Js6 g T a b q p st s (.ref ga) s'
section
variable {prog:Program}{w:World}{g:Heap}{T:Ja3}{K:Frag}{n:Nat}{A:Around}{s s':Shared}{env:Env}{q:Pg}{p:PgP}{st:Pst}{a:Jbn}{b:Jc7}{body:List Stmt}{nm qn:Value}{tk:Nat}{f:Addr}
theorem Jrv {gens:Array GenState}{x:GenState}(h:AllBare gens) (hx:x.bare=true):AllBare (gens.push x):=fun y hy=>(Array.mem_push.mp hy).elim (h y) fun e=>e▸hx
theorem Ext.genS:Ext g T s (genS s body env nm qn tk):=⟨rfl,rfl,fun V V e V=>Heap.get?_push_of_some _ e,fun q=>⟨fun b o e=>Heap.get?_push_of_some _ (q.keep b o e),fun p hp=>(q.tabs p hp).keeps fun V V e=>Heap.get?_push_of_some _ e,q.off,⟨Jrv q.bare.bare rfl,fun j t hm=>by
 have e:=q.bare.keep j t hm
 exact (Array.getElem?_push_lt (Array.getElem?_eq_some_iff.mp e).1).trans ((Array.getElem?_eq_getElem _).symm.trans e)⟩⟩⟩
theorem GK.notRes (q:GK g T s):Jgy T s.gens.size:=fun t hm=>absurd (Array.getElem?_eq_some_iff.mp (q.bare.keep _ t hm)).1 (Nat.lt_irrefl _)
theorem JBw:(Jyn.names.all fun p=>p.2 != .free)=true/\(Jyn.names.all fun p=>p.2 != .cell)=true:=by decide +kernel
theorem Jxi (M:MG K g b.CV "_maxlengths" f mxS ["self"]) (rm:Rm (n+1) A) (hg:GK g T s) (hU:∀ x,q.U x->g.get? x=none) (P:Jah b.CV a.CA s.heap q p st):wpAny (model prog w) A (call (.ref f) [.ref q.m]) (Js6 g T a b q p st s) NoE s:=by
 refine wpAny_call (codeAny_mono (Jnn (av:=[q.l]) M.fo M.fs ⟨nofun,fun x h=>?_,nofun⟩ rm hg P.avl.ok (.cons (.adr q.m) .nil) rfl) fun r s' h=>?_)
 ·exact (nomatch List.all_eq_true.mp (JBw.1) _ (Jas h))
 rcases r with e | (v | _ | _ | _) <;> first | exact h.elim | skip
 cases h with | mk genv gow sA nm qn tk N =>
 have E:MxE genv gow:=⟨N.sc_,fun x=>N.cells x fun z=>(nomatch List.all_eq_true.mp JBw.2 _ z),N.l⟩
 have xB:Ext g T sA (genS sA mxB genv nm qn tk):=.genS
 have Z:MxG g T a b q p st genv gow sA:=⟨N.F,Jgn.ext N.x hg P,fun y hy h=>(Jcj P hy).elim fun o z=>nos (N.w y h) z.1,fun V V V u=>u⟩
 exact .mk genv gow _ _ E (Jac N.F) (Z.ext Jgn xB) N.F.gk.notRes ⟨_,nm,qn,Heap.get?_push_size _ rfl,rfl,rfl,rfl⟩ (Array.getElem?_push_size ..) (N.x.trans xB) (N.x.none hg (Heap.get?_none_of_le (Nat.le_refl _)))
end
end
section
noncomputable abbrev fdS:Stmt:=Jak "_ValueFormatter" "feed"
noncomputable abbrev fdB:List Stmt:=Ja5 fdS
noncomputable abbrev Jsg:Scope:=Ja2 fdS
inductive Jsh (h:Heap) (co fl:Addr):Prop
 | mk (cd:Addr) (fd:FuncData) (es:List DictEntry) (kd:Nat) (t:Tok) (o:h.get? co=some (Jda (some cd) fd)) (d:h.get? cd=some (dictOf es kd)) (e:getL "header_encoding" es=some (some (.int 1 t))) (f:getL "header_encode_lines" es=some (some (.ref fl))):Jsh h co fl
section
variable {prog:Program}{w:World}{g:Heap}{T:Ja3}{K:Frag}{n N:Nat}{A:Around}{s s':Shared}{env:Env}{ow:Ow}{q:Pg}{p:PgP}{st:Pst}{ls:List Str}{ps:List (Str×Str)}{i:Int}{a:Jbn}{b:Jc7}{f fl co:Addr}{σ:Sto}{r:Nat->Int}{k:Nat->Nat}{l:List Nat}{p0 p1 p2 pos apos bpos bp:Pos}
theorem Jna (cd:Option Addr) (fd:FuncData):NT (Jda cd fd):=fun ps e=>Jbe tgO e rfl
theorem Jsh.ext (C:Jsh s.heap co fl) (x:Ext g T s s') (hg:GK g T s):Jsh s'.heap co fl:=by
 cases C with | mk cd fd es kd t o d e f=>exact ⟨cd,fd,es,kd,t,x.get' hg o (Jna _ _),x.get' hg d (Jaz _ _),e,f⟩
theorem Jgz.then {CV CA:Addr}{ds:List D}{v:Value}{s'':Shared}(x:Ext g T s s') (hg:GK g T s) (h:Jgz g T CV CA q p st ds s' v s''):Jgz g T CV CA q p st ds s v s'':=by
 cases h with | mk c vs k n e r y P=>exact .mk c vs k (x.none hg n) e r (x.trans y) P
theorem Juy {m:Str}{sm:Stmt}{xs:List Str}(B:Jan prog w K g T a b) (M:MG K g b.CV m f sm xs) (hm:m∈Jhf):Jld prog w g ((pgW b.CV a.CA q p).Ω st) q.m f m:=fun k P z=>by
 cases P with | mk es kd ts kl H l e ac =>
 refine method_fn (Jbo B.A.X k) H.inst B.V.ga B.V.gx M.find (beq_iff_eq.mp M.isf) ?_ z
 show (getL m es).map (·.isSome)=some false
 rw [H.no m hm]; rfl
theorem JB9 (B:Jan prog w K g T a b) (M:MG K g b.CV "_maxlengths" f mxS ["self"]) (hfl:Jg4 g fl Ju2 ["string", "rooms"] llB) (rm:Rm (n+9) A) (hU:∀ x,q.U x->g.get? x=none) (he:env.scope=Jsg) (Z:FmW (pgW b.CV a.CA q p) g T ow env σ s (ls,ps,i)) (C:Jsh s.heap co fl)
  (hs:σ.lookup (Str.ofString "self")=some (.val (.adr q.m))) (hc:σ.lookup (Str.ofString "charset")=some (.val (.adr co))) (hx:σ.lookup (Str.ofString "string")=some (.val (.str (sOf l)))) (hz:Jcg (ls,ps,i))
  (h1:r N=p.mx - Jaf ps i) (h2:∀ m,m<N->r m=p.mx - p.cw.length) (hk:r N - 1=(k N:Int)) (hr:∀ m,m<N->r m=(k m:Int)) (hE:lnE k N l) (hl:l.length<=1000) (hN:N<=900)
  (hm:Jby (.Name "charset" p0) "header_encode_lines" apos [.Name "string" p1,.Call (.Attribute (.Name "self" p2) "_maxlengths" bpos) [] [] bp] pos) (hm':Jby (.Name "self" p2) "_maxlengths" bpos [] bp) :
  wpAny (model prog w) A (eval (.Call (.Attribute (.Name "charset" p0) "header_encode_lines" apos) [.Name "string" p1,.Call (.Attribute (.Name "self" p2) "_maxlengths" bpos) [] [] bp] [] pos) env) (Jgz g T b.CV a.CA q p (ls,ps,i) ((lnL k N l).map fun l=>.str (sOf l)) s) NoE s:=by
 have ok:=Jaw (CV:=b.CV) (CA:=a.CA) (p:=p) hU
 have hg:=Z.F.gk
 refine Jc2 hm (fun V=>rfl) (Jab Z.F.ec.kind (Z.F.ec.adr hc) fun pl=>?_)
 cases C with | mk cd fd es kd t o d e f =>
 refine Jqn o d (by kernel_rfl) f rfl ?_
 have xA:Ext g T s { s with toks:=s.toks+1 }:=.tok _
 have Z1:=Z.ext ok xA
 obtain ⟨fo,ffd,ho,hd⟩:∃ fo ffd,g.get? fl=some fo/\fo.data=.func ffd:=hfl.rec fun o fd h d V V V V V V V V V=>⟨o,fd,h,d⟩
 obtain ⟨t,lx⟩:=Z1.F.ec.txt hx
 refine callWith_def hd (wpAny_items_cons (Jab Z1.F.ec.kind lx (wpAny_items_cons (Jc2 hm' (fun V=>rfl) (Jab Z1.F.ec.kind (Z1.F.ec.adr hs) fun pl'=>Juy B M (by decide) Z1.F.gk.keep Z1.w (callWith_K0 (fun b o e=>Z1.F.gk.keep b o (B.A.X b o e)) M.kee (Ja0 (Jxi (n:=n+8) M rm Z1.F.gk hU Z1.w) fun v s2 h₂=>?_)))) rfl)) rfl) rfl
 cases h₂ with | mk genv gow ga gi E hin Z2 hi isg hgen xB nga =>
 refine wpAny_items_nil ⟨(xB.gk Z1.F.gk).keep _ _ ho,?_⟩
 exact Ja0 (Jsq (n:=n) hfl B E hin Z2 hi rm isg hgen hz h1 h2 hk hr hE hl hN) fun v s3 h₃=>h₃.then (xA.trans xB) hg
end
end
section
section
variable {prog:Program}{w:World}{g:Heap}{T:Ja3}{n:Nat}{A:Around}{s:Shared}{env:Env}{co fl:Addr}{σ:Sto}{sc:Scope}{o:Expr}{pos:Pos}
theorem JD3 (C:Jsh g co fl) (hi:Js8 o "header_encoding" pos) (ho:Ev prog w g T n sc σ o (.adr co)):Ev prog w g T n sc σ (.Attribute o "header_encoding" pos) (.int 1):=fun A s av env he rm hg hc=>
 Attribute_any_ (Ja0 (ho A s av env he rm hg hc) fun v sA h₁=>by
  cases h₁.2.i1
  have k:=(h₁.1.gk hg).keep
  cases C with | mk cd fd es kd t o d e f=>exact fn_get (k _ _ o) (k _ _ d) (by kernel_rfl) e rfl ⟨h₁.1.trans (.tok _),.int _ _⟩) (hi env)
end
end
section
section
variable {prog:Program}{w:World}{g:Heap}{T:Ja3}{K:Frag}{n:Nat}{A:Around}{s:Shared}{q:Pg}{p:PgP}{ls:List Str}{ps:List (Str×Str)}{pr:Str×Str}{i:Int}{a:Jbn}{b:Jc7}{x:Str}{d:Int}
theorem JA6:Jg5 prog w g T .Is (.int d) .none false:=fun A s av u v V hu hv=>by
 obtain ⟨t,rfl⟩:=hu.i4
 rw [hv.i2]; exact wpAny_is_other rfl (by intro q; exact (Jbe tgV q rfl).elim) Jal
theorem Jve:Jg5 prog w g T .IsNot (.str x) .none true:=fun A s av u v V hu hv=>by
 obtain ⟨t,rfl⟩:=hu.i5
 rw [hv.i2]; exact wpAny_isNot_other rfl (by intro q; exact (Jbe tgV q rfl).elim) Jal
variable (B:Jan prog w K g T a b) (hU:∀ x,q.U x->g.get? x=none)
include B hU
theorem Jrk (hz:Jcg (ls,ps,i)) (hx:pr.1.length<=1000/\pr.2.length<=1000) (c:Jaf (ps++[pr]) i<=p.mx):ClU prog w g T (n+8) b.apc (pgW b.CV a.CA q p) (ls,ps,i) [.adr q.m,.str pr.1,.str pr.2] .none (ls,ps++[pr],i):=by
 have ok:=Jaw (CV:=b.CV) (CA:=a.CA) (p:=p) hU
 have hz':=hz.sp.snoc hz.n hx
 have ht:Jer g (pgW b.CV a.CA q p) (ls,ps++[pr],i) fun g'=>EvT prog w g' T (n+7) JHy (froz (σac q.m pr)) (stP (nth acB 1)).test (decide (Jaf (ps++[pr]) i>p.mx)):=fun g' up P=>EvT.cmp (Jfu (n:=n+3) B rfl rfl hz' hz.i g' up P) (.pg B up P (fun V=>rfl) (Ev.name rfl) .mx) rfl Jwy
 rw [decide_eq_false (Int.not_lt.mpr c)] at ht
 exact .of (R:=.next _) B.apc ok rfl (Jam.cons ok (SxU.expr ok (Jqw (n:=n+6) B hU (fun V=>⟨_,rfl⟩) (fun V V=>rfl) (fun V V=>rfl) rfl hz.sp.n (fun V=>Ev.name rfl) fun V=>Ev.name rfl) (fun V V V=>rfl)) (Jam.cons ok (SxU.ite ok ht Jam.nil) Jam.nil))
end
end
section
noncomputable abbrev fdσ (m co:Addr) (f x:Str):Sto:=params ["self", "fws", "string", "charset"] [.adr m,.str f,.str x,.adr co]
noncomputable abbrev Jjd (l:List (List Nat)):List D:=l.map fun l=>.str (sOf l)
section
variable {ι:Type}{prog:Program}{w:World}{g:Heap}{T:Ja3}{n:Nat}{A:Around}{s s':Shared}{env:Env}{ow:Ow}{i j:ι}{a:Jbn}{b:Jc7}{σ:Sto}{sc:Scope}{W:Wo ι}{av:List Addr}{e:Expr}{d:D}{R:Rz}{sts:List Stmt}{x:Str}{ds:List D}
theorem EvU.wide (hs:∀ a∈W.av,a∈av) (hd:Flat d) (h:EvU prog w g T n sc W i σ e d j):EvU prog w g T n sc { W with av:=av } i σ e d j:=fun A s ow env he rm Z=>
 Ja0 (h A s ow env he rm ⟨Z.F.shrink hs,Z.w,Z.nw,Z.cl⟩) fun v s' o=>by cases o with | mk m r w=>exact ⟨m,hd _ _ _ (r.sub (av':=[]) nofun),w⟩
theorem Jam.frz (h:σ.lookup x=some (.own ds)) (k:Jam prog w g T n sc W i ((x,.val (.lst ds))::σ) sts R j):Jam prog w g T n sc W i σ sts R j:=fun A s ow env he hc rm Z=>
 Ja0 (k A s (ow.drop x) env he hc rm ⟨Z.F.freeze h,Z.w,fun b hb hw=>Z.nw b hb hw.drop,Z.cl⟩) fun fl s' m=>by
  cases m with
  | next nx wj=>exact nx.rec fun ow' c F m hw=>.next ⟨ow',c,F,m.sub fun b hb=>.inl (hb.imp Wr.drop id),fun b hb=>(hw b hb).imp Wr.drop id⟩ wj
  | ret r m wj=>exact .ret r (m.sub fun b hb=>.inl (hb.imp Wr.drop id)) wj
end
end
section
section
variable {prog:Program}{w:World}{g:Heap}{T:Ja3}{K:Frag}{n:Nat}{A:Around}{q:Pg}{p:PgP}{ls:List Str}{ps:List (Str×Str)}{i:Int}{a:Jbn}{b:Jc7}{σ:Sto}{f x:Str}{co:Addr}{x0 xl:List Nat}{rest:List (List Nat)}
noncomputable abbrev Jwv:Str:=Str.ofString "encoded_lines"
noncomputable abbrev JEc (m co:Addr) (f x:Str) (x0:List Nat) (rest:List (List Nat)):Sto:=(Str.ofString "first_line",.val (.str (sOf x0)))::(Jwv,.own (Jjd rest))::fdσ m co f x
noncomputable abbrev JGq (m co:Addr) (f x:Str) (x0 xl:List Nat) (rest:List (List Nat)):Sto:=(Str.ofString "last_line",.val (.str (sOf xl)))::(Str.ofString "first_line",.val (.str (sOf x0)))::(Jwv,.val (.lst (Jjd rest)))::fdσ m co f x
variable (B:Jan prog w K g T a b) (hU:∀ x,q.U x->g.get? x=none)
include B hU
theorem JCy (hz:Jcg (ls,ps,i)) (hf:f.length<=1000) (hx:x0.length<=1000) (hr:(x0::rest).length<=lim) (c:Jaf (ps++[(f,sOf x0)]) i<=p.mx) :
  Jam prog w g T (n+8) Jsg (pgW b.CV a.CA q p) (ls,ps,i) ((Jwv,.own (Jjd (x0::rest)))::fdσ q.m co f x) [nth fdB 2,nth fdB 3] (.next (JEc q.m co f x x0 rest)) (ls,ps++[(f,sOf x0)],i):=by
 have ok:=Jaw (CV:=b.CV) (CA:=a.CA) (p:=p) hU
 have h1:∀ {g':Heap},Sx prog w g' T (n+8) Jsg ((Jwv,.own (Jjd (x0::rest)))::fdσ q.m co f x) (nth fdB 2) (.next ((Str.ofString "first_line",.val (.str (sOf x0)))::(Jwv,.own (Jjd rest))::(Jwv,.own (Jjd (x0::rest)))::fdσ q.m co f x)):=Sx.try (SxL.cons (Sx.popFirst (d:=.str (sOf x0)) (ds:=Jjd rest) rfl rfl (by rw [List.length_cons,Jjd,List.length_map]; exact hr) rfl) SxL.nil)
 have h2:∀ {σ:Sto},σ.lookup (Str.ofString "self")=some (.val (.adr q.m))->σ.lookup (Str.ofString "fws")=some (.val (.str f))->σ.lookup (Str.ofString "first_line")=some (.val (.str (sOf x0)))->Jam prog w g T (n+8) Jsg (pgW b.CV a.CA q p) (ls,ps,i) σ (stP (nth fdB 3)).body (.next σ) (ls,ps++[(f,sOf x0)],i):=fun k1 k2 k3=>
  Jam.cons ok (SxU.expr ok (.own ok B.A.X B.apc.kee (fun V=>⟨_,rfl⟩) (fun V=>rfl) (fun V V V=>Ev.name k1) (Jeb B B.apc (by decide)) (fun V V V=>.more (fun V=>rfl) (Ev.name k2) (.more (fun V=>rfl) (Ev.name k3) .nil)) (.of (Jrk (n:=n) (pr:=(f,sOf x0)) B hU hz ⟨hf,(Ja7 x0).symm▸hx⟩ c) Jdb)) (fun V V V=>rfl)) Jam.nil
 exact Jam.post (Jam.cons ok (SxU.next ok fun g' up P=>h1) (Jam.cons ok (SxU.ite ok (b:=true) (fun g' up P=>EvT.cmp (Ev.name rfl) Ev.none rfl Jve) (h2 rfl rfl rfl)) Jam.nil)) (.cons rfl (.cons rfl (.cons rfl (.cons rfl (.cons rfl (.cons rfl .nil))))))
end
end
section
section
variable {prog:Program}{w:World}{g:Heap}{T:Ja3}{K:Frag}{n:Nat}{A:Around}{q:Pg}{p:PgP}{ls:List Str}{ps:List (Str×Str)}{i:Int}{a:Jbn}{b:Jc7}{σ:Sto}{f x:Str}{co:Addr}{x0 xl:List Nat}{rest:List (List Nat)}
noncomputable abbrev Jtn (cw:Str) (l:List (List Nat)):List Str:=l.map fun l=>cw++sOf l
variable (B:Jan prog w K g T a b) (hU:∀ x,q.U x->g.get? x=none)
include B hU
theorem Jzu (hc:p.cw.length<=1000) (hs:σ.lookup (Str.ofString "self")=some (.val (.adr q.m))) (hno:∀ d,Sub σ ((Str.ofString "line",.val d)::σ)):∀ {rest:List (List Nat)}{ls:List Str},(∀ x∈rest,x.length<=1000)->ls.length+rest.length<=1000 ->
  JEk prog w g T (n+1) Jsg (pgW b.CV a.CA q p) (stP (nth fdB 7)).test (stP (nth fdB 7)).body (fun σ' j'=>σ'=σ/\j'=(ls++Jtn p.cw rest,ps,i)) (Jjd rest) σ (ls,ps,i):=by
 intro rest
 induction rest with
 | nil=>exact fun V V=>⟨rfl,by rw [show Jtn p.cw []=[] from rfl,List.append_nil]⟩
 | cons y rest ih =>
  intro ls hy hl
  have ok:=Jaw (CV:=b.CV) (CA:=a.CA) (p:=p) hU
  rw [List.length_cons] at hl
  have go:=ih (ls:=ls++[p.cw++sOf y]) (fun z hz=>hy z (.tail _ hz)) (by rw [List.length_append,List.length_singleton]; lia)
  rw [List.append_assoc] at go
  have e:∀ {g':Heap},(∀ b o,g.get? b=some o->g'.get? b=some o)->Jah b.CV a.CA g' q p (ls,ps,i)->Ev prog w g' T (n+1) Jsg ((Str.ofString "line",.val (.str (sOf y)))::σ) (.BinOp (.Attribute (.Name "self" ⟨55,31,55,35⟩) "_continuation_ws" ⟨55,31,55,52⟩) .Add (.Name "line" ⟨55,55,55,59⟩) ⟨55,31,55,59⟩) (.str (p.cw++sOf y)):=fun up P=>Ev.bin (Ev.pg B up P (fun V=>rfl) (Ev.name hs) .cw) (Ev.name rfl) (Ji6 (Nat.le_trans hc (by decide)) (by rw [Ja7]; exact Nat.le_trans (hy y (.head _)) (by decide)))
  exact .mk _ _ _ .name (Jaa rfl) (fun fp=>Jam.post (Jam.cons (ok.on fp) (SxU.expr (ok.on fp) (.wide (W:=pgW b.CV a.CA q p) (fun a h=>List.mem_append_right _ h) Jdb (Jja B hU hs rfl (fun V=>rfl) (fun g' up P=>e up P) (Nat.le_trans (Nat.le_add_right _ _) hl))) (fun V V V=>rfl)) Jam.nil) (hno _)) go
theorem Jzt (hz:Jcg (ls,ps,i)) (hr:rest.length+1<=400) (hy:∀ x∈rest,x.length<=1000) (hc:p.cw.length<=1000) (hl:(nlF ls ps i).length<=600) :
  Jam prog w g T (n+8) Jsg (pgW b.CV a.CA q p) (ls,ps,i) (JEc q.m co f x x0 (rest++[xl])) [nth fdB 4,nth fdB 5,nth fdB 6,nth fdB 7] (.next (JGq q.m co f x x0 xl rest)) (nlF ls ps i++Jtn p.cw rest,[(p.cw,sOf xl)],0):=by
 have ok:=Jaw (CV:=b.CV) (CA:=a.CA) (p:=p) hU
 have h4:∀ {g':Heap},Sx prog w g' T (n+8) Jsg (JEc q.m co f x x0 (rest++[xl])) (nth fdB 4) (.next ((Str.ofString "last_line",.val (.str (sOf xl)))::(Jwv,.own (Jjd rest))::JEc q.m co f x x0 (rest++[xl]))):=Sx.try (SxL.cons (Sx.popLast (d:=.str (sOf xl)) (ds:=Jjd rest) (by
   show some (Sl.own (Jjd (rest++[xl])))=_
   rw [Jjd,List.map_append]; rfl) rfl (by rw [Jjd,List.length_map]; exact Nat.le_trans hr (by decide)) rfl) SxL.nil)
 have h6:∀ {σ:Sto},σ.lookup (Str.ofString "self")=some (.val (.adr q.m))->σ.lookup (Str.ofString "last_line")=some (.val (.str (sOf xl)))->SxU prog w g T (n+8) Jsg (pgW b.CV a.CA q p) (nlF ls ps i,[],0) σ (nth fdB 6) (.next σ) (nlF ls ps i,[(p.cw,sOf xl)],0):=fun k1 k2=>
  SxU.expr ok (Jqy (ps:=[]) (ps':=[(p.cw,sOf xl)]) B k1 hU B.A.psh (by decide) (fun av=>.of (R:=.next _) B.A.psh (Jbc (Jgx B hU) (Jgw B hU)) rfl (Jfz (q:=(p.cw,sOf xl)) B.A.L.toLCls B.A.X (Jgx B hU) (Jgw B hU) (Nat.zero_le _))) (fun V=>⟨_,rfl⟩) (fun V=>rfl) fun g' up P=>.more (fun V=>rfl) (Ev.pg B up P (fun V=>rfl) (Ev.name k1) .cw) (.more (fun V=>rfl) (Ev.name k2) .nil)) (fun V V V=>rfl)
 have h7:=Jzu (T:=T) (n:=n+7) (σ:=JGq q.m co f x x0 xl rest) (ps:=[(p.cw,sOf xl)]) (i:=0) B hU hc rfl (fun d=>.cons rfl (.cons rfl (.cons rfl (.cons rfl (.cons rfl (.cons rfl (.cons rfl .nil))))))) hy (ls:=nlF ls ps i) (by lia)
 refine Jam.cons ok (SxU.next ok fun g' up P=>h4) (Jam.cons ok (SxU.expr ok (Jj9 (n:=n+1) B hU (fun V=>⟨_,rfl⟩) rfl hz) (fun V V V=>rfl)) (Jam.cons ok (h6 rfl rfl) (Jam.frz (x:=Jwv) (ds:=Jjd rest) rfl (Jam.pre ?_ (Jam.cons ok (SxU.for ok (EvI.list (Ev.name rfl)) (fun V V=>rfl) h7) Jam.nil)))))
 exact .cons rfl (.cons rfl (.cons rfl (.cons rfl (.cons rfl (.cons rfl (.cons rfl .nil))))))
end
end
section
noncomputable def Jga (cw f:Str) (ls:List Str) (ps:List (Str×Str)) (i:Int) (x0:List Nat) (rest:List (List Nat)):Pst :=
 rest.getLast?.elim (ls,ps++[(f,sOf x0)],i) fun xl=>(nlF ls (ps++[(f,sOf x0)]) i++Jtn cw rest.dropLast,[(cw,sOf xl)],0)
inductive JGe (g:Heap) (T:Ja3) (CV CA:Addr) (q:Pg) (p:PgP) (l:List Env) (st:Pst) (s:Shared):Value->Shared->Prop
 | mk {s':Shared}(m:Mv g T (fun b=>q.U b\/b∈frA l) s s') (sl:SlK (frA l) s.heap s'.heap) (P:Jah CV CA s'.heap q p st):JGe g T CV CA q p l st s .none s'
section
variable {prog:Program}{w:World}{g:Heap}{T:Ja3}{K:Frag}{n N:Nat}{A:Around}{s sA:Shared}{env:Env}{ow:Ow}{q:Pg}{p:PgP}{ls:List Str}{ps:List (Str×Str)}{i:Int}{a:Jbn}{b:Jc7}{f x:Str}{co fl fd ml:Addr}{x0 xl:List Nat}{rest:List (List Nat)}{st:Pst}{outer l:List Env}{h h':Heap}{CV CA:Addr}{r:Nat->Int}{k:Nat->Nat}{t:List Nat}{tf tx:Tok}
theorem Cau.page (F:FrO g h l) (c:Cau l h h') (P:Jah CV CA h q p st) (hq:∀ b∈frA l,¬ q.all b):Jah CV CA h' q p st :=
 Jhg P (fun b o hb e=>c.keep b o e fun z=>hq b z hb) fun a us k e=>c.keep a _ e fun z=>F.nsq z e ⟨_,_,.inl rfl⟩
theorem Jvc (C:Jsh s.heap co fl) (q:GK g T s):Jsh (Jbp T s.heap) co fl:=by
 cases C with | mk cd fd es kd t o d e f=>exact ⟨cd,fd,es,kd,t,q.core_get o (Jna _ _),q.core_get d (Jaz _ _),e,f⟩
theorem Jr0 {av av':List Addr}:∀ {rows:List (List Nat)}{vs:List Value},VDs av h vs (Jjd rows)->VDs av' h' vs (Jjd rows):=by
 intro rows
 induction rows with
 | nil=>exact fun r=>by cases r.i0; exact .nil
 | cons y rows ih =>
  intro vs r
  cases vs with
  | nil=>exact nomatch r.length
  | cons v vs =>
   cases r.i1 with | mk r rs =>
   obtain ⟨t,rfl⟩:=r.i5
   exact .cons (.str _ t) (ih rs)
variable (B:Jan prog w K g T a b) (hU:∀ x,q.U x->g.get? x=none)
include B hU
theorem Jxl (F:MF Jo2 K g b.CV "feed" fd fdS [] ["self", "fws", "string", "charset"]) (M:MG K g b.CV "_maxlengths" ml mxS ["self"]) (hfl:Jg4 g fl Ju2 ["string", "rooms"] llB) (gix:Glb g "IndexError" (.type "IndexError")) (rm:Rm (n+10) A) (hg:GK g T s) (P:Jah b.CV a.CA s.heap q p (ls,ps,i)) (C:Jsh s.heap co fl)
  (hfr:A.frames=some outer) (FO:FrO g s.heap outer) (hq:∀ b∈frA outer,¬ q.all b) (hz:Jcg (ls,ps,i)) (hps:ps.length<=700) (hfo:f.length<=1000) (hso:PyData.strOk f=true)
  (h1:r N=p.mx - Jaf ps i) (h2:∀ m,m<N->r m=p.mx - p.cw.length) (hk:r N - 1=(k N:Int)) (hr:∀ m,m<N->r m=(k m:Int)) (hE:lnE k N t) (hl:t.length<=1000) (hN:N<=900)
  (e:lnL k N t=x0::rest) (hx0:x0.length<=1000/\PyData.strOk (sOf x0)=true) (hy:∀ x∈rest,x.length<=1000) (hrl:rest.length<=390) (c:Jaf (ps++[(f,sOf x0)]) i<=p.mx) (hcw:p.cw.length<=1000) (hnl:(nlF ls (ps++[(f,sOf x0)]) i).length<=600) :
  wpAny (model prog w) A (call (.ref fd) [.ref q.m,.str f tf,.str (sOf t) tx,.ref co]) (JGe g T b.CV a.CA q p outer (Jga p.cw f ls ps i x0 rest) s) NoE s:=by
 have ok:=Jaw (CV:=b.CV) (CA:=a.CA) (p:=p) hU
 refine Jde (n:=n+9) F.fo F.fs (σc:=[]) ⟨fun x c e=>(F.ce x c e).imp fun V i=>i.keeps hg.keep,F.fr,nofun⟩ rm hg (av:=[q.l]) P.avl.ok (.cons (.adr _) (.cons (.str _ _) (.cons (.str _ _) (.cons (.adr _) .nil)))) rfl fun env ow sA N1 hf=>?_
 refine wpAny_mono (E:=NoE) ?_ (fun V V q=>q) fun V V f=>f.elim
 have Z1:FmW (pgW b.CV a.CA q p) g T ow env (fdσ q.m co f (sOf t)) sA (ls,ps,i):=.to ok F P hg N1
 have C1:=C.ext N1.x hg
 refine wpAny_execs_cons (wpAny_If (Ja0 ((EvT.cmp (JD3 (Jvc C1 Z1.F.gk) (fun V=>rfl) (Ev.name rfl)) Ev.none rfl JA6:EvT prog w (Jbp T sA.heap) T (n+9) Jsg (froz (fdσ q.m co f (sOf t))) _ false) _ sA _ env N1.sc_ N1.rm (Z1.F.gk.core .refl) Z1.F.froz) fun c' s2 h₂=>?_))
 obtain ⟨rfl,xB⟩:=h₂
 have xB:=xB.base (g:=g) (Z1.F.gk.core .refl)
 have Z2:=Z1.ext ok xB
 refine wpAny_execs_nil ?_
 refine wpAny_execs_cons (wpAny_Assign_Name (Ja0 (JB9 (n:=n) B M hfl N1.rm hU N1.sc_ Z2 (C1.ext xB Z1.F.gk) rfl rfl rfl hz h1 h2 hk hr hE hl hN (fun V=>⟨_,rfl⟩) fun V=>⟨_,rfl⟩) fun v s3 h₃=>?_) rfl)
 rw [e] at h₃
 cases h₃ with | mk cC vs kC n3 eC rC x3 P3 =>
 refine Ja0 (Jes Z2.F (Jd1 Z2.F.ec N1.sc_ (N1.c.symm▸rfl)) x3 n3 eC (Jr0 (rows:=x0::rest) rC)) fun V s4 h₄=>?_
 have nx:=h₄.nx
 cases nx with | mk ow4 cD F4 m4 w4 =>
 have Z4:=Z2.nx ok F4 w4 (ok.mv m4 Z2.F.gk Z2.w (fun b hb hp=>Z2.nw b hp hb) (Jd8 Z2.F m4))
 have mA:Mv g T q.U s s2:=(N1.x.trans xB).mv
 have mB:Mv g T q.U s s4:=Mv.trans mA m4 fun b hb=>.inr (N1.w b hb)
 have fr:∀ {ow':Ow},(∀ b,Wr env ow' b->Wr env ow b\/s2.heap.get? b=none)->∀ b,Wr env ow' b->s.heap.get? b=none:=fun hw b hb=>(hw b hb).elim (N1.w b) ((N1.x.trans xB).none hg)
 have hz':Jcg (ls,ps++[(f,sOf x0)],i):=⟨by show (ps++[_]).length<=800; rw [List.length_append,List.length_singleton]; lia,fun y hy=>(List.mem_append.mp hy).elim (hz.p y) fun e=>List.mem_singleton.mp e▸⟨hfo,(Ja7 x0).symm▸hx0.1⟩,fun y hy=>(List.mem_append.mp hy).elim (hz.o y) fun e=>List.mem_singleton.mp e▸⟨hso,hx0.2⟩,hz.i,hz.l,hz.m⟩
 show wpAny _ _ (execs ([nth fdB 2,nth fdB 3]++[nth fdB 4,nth fdB 5,nth fdB 6,nth fdB 7]) env) _ NoE s4
 refine Jam.wp ok (JCy (n:=n+1) (co:=co) (x:=sOf t) B hU hz hfo hx0.1 (by rw [List.length_cons]; exact Nat.le_trans (Nat.succ_le_succ hrl) (by decide)) c) N1.sc_ (cD.trans N1.c) N1.rm Z4 fun ow5 s5 cE Z5 m5 w5=>?_
 have w5':∀ b,Wr env ow5 b->s.heap.get? b=none:=fun b hb=>(w5 b hb).elim (fr w4 b) fun z=>(mB.new F4.gk z).elim (fun u=>(nos z (ok.obj _ _ Z4.w b (ok.up b u)).choose_spec.1).elim) id
 have mC:Mv g T q.U s s5:=Mv.trans mB m5 fun b hb=>hb.elim (fun z=>.inr (fr w4 b z)) .inl
 have hqU:∀ b∈frA outer,¬ q.U b:=fun b hb u=>hq b hb (.inr (.inr u))
 have sl5:=FO.mv hg mC hqU
 rcases List.eq_nil_or_concat rest with rfl | ⟨rs,xl,rfl⟩
 ·have FO5:=FO.slk sl5
  refine wpAny_execs_cons (Jy7 Z5.F N1.sc_ N1.rm rfl rfl (Around.frames_deeper hfr) hf FO5 gix rfl fun h' tk cau=>?_)
  have FOc:FrO g s5.heap (env::outer):=.cons (Z5.F.frk hf) FO5
  have fe:frA (env::outer)=env.locals::frA outer:=by rw [frA,List.filterMap_cons,hf]
  refine .mk (Mv.trans (mC.sub fun b u=>.inl (.inl u)) (cau.mv FOc) fun b hb=>?_) (sl5.trans (cau.sl.sub fun b hb=>fe▸.tail _ hb)) (cau.page FOc Z5.w fun b hb hp=>?_)
  ·rw [fe] at hb
   exact (List.mem_cons.mp hb).elim (fun z=>.inr (N1.w b (.inl z))) fun z=>.inl (.inr z)
  ·rw [fe] at hb
   exact (List.mem_cons.mp hb).elim (fun z=>Z5.nw b hp (.inl z)) fun z=>hq b z hp
 ·rw [List.concat_eq_append] at *
  have hrs:rs.length+1<=390:=by rw [List.length_append,List.length_singleton] at hrl; exact hrl
  refine Ja0 (Jzt (n:=n+1) (co:=co) (x:=sOf t) (x0:=x0) (xl:=xl) B hU hz' (Nat.le_trans hrs (by decide)) (fun y h=>hy y (List.mem_append_left _ h)) hcw hnl _ _ _ _ N1.sc_ (cE.trans (cD.trans N1.c)) N1.rm Z5) fun fl s6 h₆=>?_
  cases h₆ with | next nx wj =>
  cases nx with | mk ow6 c6 F6 m6 w6 =>
  have mD:Mv g T q.U s s6:=Mv.trans mC m6 fun b hb=>hb.elim (fun z=>.inr (w5' b z)) .inl
  have e6:Jga p.cw f ls ps i x0 (rs++[xl])=(nlF ls (ps++[(f,sOf x0)]) i++Jtn p.cw rs,[(p.cw,sOf xl)],0):=by
   unfold Jga
   rw [List.getLast?_concat,List.dropLast_concat]; rfl
  rw [e6]
  exact .mk (mD.sub fun b u=>.inl (.inl u)) (FO.mv hg mD hqU) wj
end
end
section
inductive JDy (g:Heap) (T:Ja3) (s:Shared):Value->Shared->Prop
 | mk {f:Addr}{fd:FuncData}{s':Shared}(x:Ext g T s s') (n:s.heap.get? f=none) (o:s'.heap.get? f=some (Jda none fd)):JDy g T s (.ref f) s'
section
variable {prog:Program}{w:World}{g:Heap}{T:Ja3}{n:Nat}{A:Around}{s:Shared}{env:Env}{cl:List (Str×Addr)}{ps:Arguments}{body:Expr}{scope:Scope}{pos:Pos}
theorem Job (hlim:g.NoLimit) (hg:GK g T s) (mk:Jb5 g T env.code (env.qual ++ "<lambda>")) (hge:env.globals=mainGlobals) (hcl:closureFor scope env=pure cl) (hdef:defaultsOf ps env=([],[])) :
  wpAny (model prog w) A (eval (.Lambda ps body scope pos) env) (JDy g T s) NoE s:=by
 refine kla_eval hdef ?_
 cases mk with | mk mg c P hcode hns hcd hbi hm hone =>
 obtain ⟨tab,hP,htr,hcs⟩:=hg.tabs (P,_) hm
 have hbi:s.heap.BuiltinsAt mg P:=by
  obtain ⟨bm,o,b1,b2,b3,b4,b5,r⟩:=hbi
  exact ⟨bm,o,b1,b2,b3,b4,hg.keep _ _ b5,r⟩
 cases hf:codeAmong pos tab.toList with
 | none =>
  refine kla_makeFunction hcl hge (hns.keeps hg.keep) hcode (hcd.keeps hg.keep) hP htr hf (fun z=>hns.elim fun o n=>n.elim fun V n=>n.elim fun V n=>nos (hg.off (P,_) hm) (z▸n.1)) hbi fun c' ctv h' tk hx hge' hlt hrec htb=>?_
  have x:=fun o=>Jj7 (g:=g) (tk:=tk) (o:=o) hone hm hP htr hcs hx hrec htb (by rw [Array.toList_append]; exact TriplesOk_snoc _ _ _ _ htr)
  exact ⟨x _,Jds (Nat.le_of_lt (Nat.lt_of_le_of_lt hge' hlt)),Heap.get?_push_size _ rfl⟩
 | some cv =>
  refine kla_makeFunctionHit hcl hge (hns.keeps hg.keep) hcode (hcd.keeps hg.keep) hP htr hf hbi fun ctv h' tk hk hsz=>?_
  exact ⟨.of _ _ fun b o e=>Heap.get?_push_of_some _ (hk b o e),Jds hsz,Heap.get?_push_size _ rfl⟩
end
end
section
open Builtin Builtin.ObjectAttr
section
variable {prog:Program}{w:World}{A:Around}{E:Value->Shared->Prop}{s:Shared}{co:Addr}{fd:FuncData}{name:Str}{v:Value}{o:Option Addr}
theorem Jm5 {Q:Unit->Shared->Prop}(ho:s.heap.get? co=some (Jda o fd)) (ht:typeLookup (.type "function") name=pure none)
  (h:wpAny (model prog w) A.in1 (storeInOwnDict (.ref co) (.type "function") (.str name s.toks) name v false) (fun fin s'=>match fin with | .done (.ret _)=>Q () s' | _=>False) E { s with toks:=s.toks+1 }) :
  wpAny (model prog w) A (setAttr (.ref co) name v) Q E s:=by
 obtain ⟨hp,gg,dd,t,os⟩:=s
 have L0:Looks (model prog w) hp (typeOf (.ref co)) (.type "function"):=(Looks.ld ho).andThen .now
 have L1:Looks (model prog w) hp (typeLookup (.type "function") "__setattr__") (some (.builtin "object.__setattr__")):=Looks.of_pure (by kernel_rfl)
 have L2:Looks (model prog w) hp (typeLookup (.type "function") name) none:=Looks.of_pure ht
 have SF:=PySem.F.store_object
 have sub:Looks (model prog w) hp (isInstance (.ref co) (.type "object")) true:=(Looks.ld ho).andThen (Looks.of_pure (by kernel_rfl))
 have hmro:Looks (model prog w) hp (mroOf (.type "function")) [.type "function",.type "object"]:=Looks.of_pure (by kernel_rfl)
 refine wpAny_bind (wpAny_mkText (wpAny_bind (wpAny_bind (wpAny_bind (L0 _ _ _ _ (fun V V e=>e) (L1 _ _ _ _ (fun V V e=>e) (wpAny_holding ?_)))))))
 rw [SF.slot.bind]
 refine wpAny_bind (wpAny_pure (wpAny_bind (wpAny_call ?_)))
 refine codeAny_call_builtin SF.slot.plain SF.entry (@check_slot (model prog w) _ _ ⟨hp,gg,dd,t+1,os⟩ "object.__setattr__" "object" "__setattr__" (.ref co) [.str name t,v] [] _ SF.kind SF.split sub (SF.args (.ref co) (.str name t) v) ?_)
 show wpAny _ _ (Builtin.«object.__setattr__» ⟨[.ref co,.str name t,v],[]⟩) _ _ _
 rw [osa_eq,refuse_eq]
 refine wpAny_bind (wpAny_bind (Looks.at L0 (wpAny_bind (Looks.at hmro ?_))))
 rw [show refuseLoop (.ref co) "__setattr__" [.type "function",.type "object"]=pure () from by kernel_rfl]
 have L3:Looks (model prog w) hp (storeTaker? none) none:=.now
 refine wpAny_pure (wpAny_bind (Looks.at L0 (wpAny_bind (Looks.at L2 (wpAny_bind (Looks.at L3 ?_))))))
 refine wpAny_mono h (fun fin s' q=>?_) fun V V e=>e
 rcases fin with (v' | _ | _ | _) | c' <;> first | exact q.elim | exact wpAny_pure (wpAny_pure q)
end
end
section
open Builtin Builtin.ObjectAttr
section
variable {prog:Program}{w:World}{A:Around}{E:Value->Shared->Prop}{s:Shared}{co cd:Addr}{fd:FuncData}{es:List DictEntry}{kd:Nat}{name:Str}{v:Value}{o:Option Addr}{tZ:Tok}{Q:Fin->Shared->Prop}
theorem Jt8 {h:Int}{key:Value}:∀ es:List DictEntry,(putL name h key v es).length<=es.length+1:=by
 intro es
 induction es with
 | nil=>simp [putL]
 | cons e r ih =>
  unfold putL
  split
  ·simp
  ·simp only [List.length_cons]; lia
set_option tactic.hygienic true in
theorem Jm4 (D:s.heap.get? cd=some (dictOf es kd)) (hl:(getL name es).isSome=true) (hz:es.length<=900)
  (h:∀ h',Heap.SameBut cd s.heap h'->h'.get? cd=some (dictOf (putL name (PyData.keyHash w.params name) (.str name s.toks) v es) (PySem.W.putN name es kd))->Q (.done (.ret .none)) { s with heap:=h',toks:=s.toks+1 }) :
  wpAny (model prog w) A (storeInDict cd (.str name tZ) name v) Q E s:=by
 obtain ⟨hp,gg,dd,t,os⟩:=s
 have D':=Heap.get?_update_self (h:=hp) (fun o=>Obj.putName name (PyData.keyHash w.params name) (.str name t) v o) D (by rw [putName_dict]; rfl)
 rw [putName_dict] at D'
 unfold storeInDict
 refine wpAny_bind (wpAny_pure (wpAny_bind ?_))
 unfold nsSet
 refine wpAny_bind (wpAny_bind (wpAny_askSetting (wpAny_pure (wpAny_bind (wpAny_mkText (wpAny_bind (wpAny_loadPart D ?_)))))))
 have c:(!es.toArray.any (·.key.isStr name)&&es.toArray.any (·.refKey))=false:=by
  rw [<- Array.any_toList, <- Array.any_toList]
  show (!es.any _&&es.any _)=false
  unfold getL at hl
  split at hl
  ·rename_i en he
   rw [List.any_eq_true.mpr ⟨en,List.mem_of_find?_eq_some he,List.find?_some he⟩]; rfl
  ·split at hl
   ·exact (Jbe tgS hl rfl).elim
   ·rename_i z; rw [Bool.not_eq_true] at z; rw [z,Bool.and_false]
 dsimp only
 rw [aRefKeyMayBeTheName_at,c]
 refine wpAny_updatePart D ?_
 refine wpAny_bind (wpAny_lookBehind D' (pastItsLine_dict (by rw [List.size_toArray,sizeLine_eq]; have:=Jt8 (name:=name) (v:=v) (h:=PyData.keyHash w.params name) (key:=.str name t) es; lia)) ?_)
 exact wpAny_pure (h _ (Heap.SameBut.update ..) D')
theorem JCv (ho:s.heap.get? co=some (Jda (some cd) fd)) (D:s.heap.get? cd=some (dictOf es kd)) (hl:(getL name es).isSome=true) (hz:es.length<=900)
  (h:∀ h',Heap.SameBut cd s.heap h'->h'.get? cd=some (dictOf (putL name (PyData.keyHash w.params name) (.str name s.toks) v es) (PySem.W.putN name es kd))->Q (.done (.ret .none)) { s with heap:=h',toks:=s.toks+1 }) :
  wpAny (model prog w) A (storeInOwnDict (.ref co) (.type "function") (.str name tZ) name v false) Q E s:=by
 unfold storeInOwnDict ownStreamTells
 refine wpAny_bind (wpAny_pure (wpAny_bind ?_))
 unfold ownDictForStores instanceDict
 refine wpAny_bind (wpAny_loadPart ho (wpAny_bind (wpAny_pure (wpAny_pure ?_))))
 exact Jm4 D hl hz h
theorem Jzq (ho:s.heap.get? co=some (Jda none fd))
  (h:∀ h',(∀ b o,b≠co->s.heap.get? b=some o->h'.get? b=some o)->h'.get? co=some (Jda (some s.heap.objs.size) fd)->h'.get? s.heap.objs.size=some (dictOf (putL name (PyData.keyHash w.params name) (.str name s.toks) v []) (PySem.W.putN name [] 0))->Q (.done (.ret .none)) { s with heap:=h',toks:=s.toks+1 }) :
  wpAny (model prog w) A (storeInOwnDict (.ref co) (.type "function") (.str name tZ) name v false) Q E s:=by
 unfold storeInOwnDict ownStreamTells
 refine wpAny_bind (wpAny_pure (wpAny_bind ?_))
 unfold ownDictForStores instanceDict
 have lt:co≠s.heap.objs.size:=Nat.ne_of_lt (Heap.lt_size ho)
 have e1:(s.heap.push { cls:=.type "dict",data:=.dict #[] }).get? co=some (Jda none fd):=Heap.get?_push_of_some _ ho
 have e2:=Heap.get?_update_self (h:=s.heap.push { cls:=.type "dict",data:=.dict #[] }) (fun o=>{ o with dict:=some s.heap.objs.size }) e1 rfl
 have e3:((s.heap.push { cls:=.type "dict",data:=.dict #[] }).update co fun o=>{ o with dict:=some s.heap.objs.size }).get? s.heap.objs.size=some (dictOf [] 0):=(Heap.get?_update_other _ _ lt).trans (Heap.get?_push_size _ rfl)
 refine wpAny_bind (wpAny_loadPart ho (wpAny_bind (wpAny_alloc (wpAny_bind (wpAny_update e1 ?_)))))
 refine wpAny_bind (wpAny_pure (wpAny_pure ?_))
 refine Jm4 (s:={ s with heap:=(s.heap.push { cls:=.type "dict",data:=.dict #[] }).update co fun o=>{ o with dict:=some s.heap.objs.size } }) e3 (by unfold getL; rfl) (Nat.zero_le _) fun h' hs hd=>h h' (fun b o hb e=>?_) ?_ hd
 ·exact (hs.2 b fun z=>absurd (Heap.lt_size (z▸e)) (Nat.lt_irrefl _)).trans ((Heap.get?_update_other _ _ (Ne.symm hb)).trans (Heap.get?_push_of_some _ e))
 ·exact (hs.2 co lt).trans e2
end
end
section
noncomputable abbrev lrB:List Stmt:=Ja5 (fn1 "_law_rows")
noncomputable abbrev Jkn:Scope:=Ja2 (fn1 "_law_rows")
inductive Jsc (h:Heap) (co cd:Addr) (es:List DictEntry):Prop
 | mk (fd:FuncData) (kd:Nat) (o:h.get? co=some (Jda (some cd) fd)) (d:h.get? cd=some (dictOf es kd)):Jsc h co cd es
section
variable {prog:Program}{w:World}{g:Heap}{T:Ja3}{n:Nat}{A:Around}{s s' sA:Shared}{env:Env}{ow:Ow}{av:List Addr}{σ:Sto}{co cd:Addr}{fd:FuncData}{es:List DictEntry}{x y:Str}{e:Expr}{p0 apos pos:Pos}{h h':Heap}{o:Option Addr}{L:Addr}{m:Str->Option Value}
theorem JCx:Jdd (Jda o fd):=⟨fun vs q t e=>(nomatch e),fun ps e=>Jbe tgO e rfl⟩
theorem Jwg (hn:h.Ns L m) (e:h.get? L=some (Jda o fd)):False:=by
 obtain ⟨o',es,ep,e',hd,_⟩:=hn
 cases Jav e e'
 exact nomatch hd
theorem JCw (q:Jaq (Jda o fd)):False:=by
 obtain ⟨vs,n,q | q⟩:=q <;> exact Jbe tgO q rfl
theorem Joe {Q:Flow->Shared->Prop}{VP:Value->Prop}(F:Fm g T av ow env σ s) (hc:∀ x c,env.cells.lookup x=some c->False) (hx:σ.lookup x=some (.val (.adr co))) (hg:g.get? co=none) (ho:s.heap.get? co=some (Jda none fd)) (hav:co∉av) (ht:typeLookup (.type "function") y=pure none)
  (he:wpAny (model prog w) A (eval e env) (fun u sA=>VP u/\Ext g T s sA) NoE s) (hns:NoC e)
  (k:∀ s' cd tk v,VP v->Fm g T av ow env σ s'->Mv g T (fun b=>b=co) s s'->s.heap.get? cd=none->Jsc s'.heap co cd (putL y (PyData.keyHash w.params y) (.str y tk) v [])->Q .next s') :
  wpAny (model prog w) A (exec (.Assign [.Attribute (.Name x p0) y apos] e pos) env) Q NoE s :=
 plainObj_wpAny_Assign_Attribute (Ja0 he fun u sA h₁=>by
  obtain ⟨hv,xA⟩:=h₁
  have FA:=F.ext xA
  have oA:=xA.get' F.gk ho (Jna _ _)
  refine Jab FA.ec.kind (FA.ec.adr hx) (Jm5 oA ht (Jzq (s:={ sA with toks:=sA.toks+1 }) oA fun h' kp e1 e2=>?_))
  have mP:Mv g T (fun b=>b=co) sA { sA with heap:=h',toks:=sA.toks+1+1 }:=Mv.of (fun b o e n=>kp b o n e) fun b hb=>hb▸⟨hg,fun o e=>Jav oA e▸JCx⟩
  refine k _ _ _ _ hv (FA.beside mP (fun b hb z=>?_) (fun b o e q z=>?_) (fun z=>FA.ns.elim fun m n=>Jwg n (z▸oA)) (fun x c e=>(hc x c e).elim) fun b hb z=>(hav (z▸hb)).elim) (Mv.trans xA.mv mP fun V h=>.inl h) (xA.none F.gk (Jds (Nat.le_refl _))) ⟨_,_,e1,e2⟩
  ·exact (FA.isl b hb).elim fun vs p=>p.elim fun n e=>Jbe tgP ((z▸e).symm.trans oA) rfl
  ·exact (JCw (Jav (z▸e) oA▸q)).elim) (hns _ _ _)
end
end
section
section
variable {prog:Program}{w:World}{g:Heap}{T:Ja3}{A:Around}{s s' sA:Shared}{env:Env}{ow:Ow}{av:List Addr}{σ:Sto}{co cd:Addr}{fd:FuncData}{es:List DictEntry}{kd:Nat}{x y:Str}{e:Expr}{p0 apos pos:Pos}{h h':Heap}
theorem Jsc.ext (C:Jsc s.heap co cd es) (x:Ext g T s s') (hg:GK g T s):Jsc s'.heap co cd es:=by
 cases C with | mk fd kd o d=>exact ⟨fd,kd,x.get' hg o (Jna _ _),x.get' hg d (Jaz _ _)⟩
theorem Jsc.mv {W:Addr->Prop}(C:Jsc s.heap co cd es) (m:Mv g T W s s') (hg:GK g T s) (h1:¬ W co) (h2:¬ W cd):Jsc s'.heap co cd es:=by
 cases C with | mk fd kd o d=>exact ⟨fd,kd,m.get' hg o h1 (Jna _ _),m.get' hg d h2 (Jaz _ _)⟩
theorem Jod {Q:Flow->Shared->Prop}{VP:Value->Prop}(F:Fm g T av ow env σ s) (hc:∀ x c,env.cells.lookup x=some c->False) (hx:σ.lookup x=some (.val (.adr co))) (hg:g.get? cd=none) (C:Jsc s.heap co cd es) (hav:cd∉av) (hw:¬ Wr env ow cd) (ht:typeLookup (.type "function") y=pure none) (hl:(getL y es).isSome=true) (hz:es.length<=900)
  (he:wpAny (model prog w) A (eval e env) (fun u sA=>VP u/\Ext g T s sA) NoE s) (hns:NoC e)
  (k:∀ s' tk v,VP v->Fm g T av ow env σ s'->Mv g T (fun b=>b=cd) s s'->Jsc s'.heap co cd (putL y (PyData.keyHash w.params y) (.str y tk) v es)->Q .next s') :
  wpAny (model prog w) A (exec (.Assign [.Attribute (.Name x p0) y apos] e pos) env) Q NoE s :=
 plainObj_wpAny_Assign_Attribute (Ja0 he fun u sA h₁=>by
  obtain ⟨hv,xA⟩:=h₁
  have FA:=F.ext xA
  have C1:=C.ext xA F.gk
  cases C1 with | mk fd kd oA dA =>
  refine Jab FA.ec.kind (FA.ec.adr hx) (Jm5 oA ht (JCv (s:={ sA with toks:=sA.toks+1 }) oA dA hl hz fun h' hs e2=>?_))
  have mP:Mv g T (fun b=>b=cd) sA { sA with heap:=h',toks:=sA.toks+1+1 }:=Mv.one hs dA Jhk hg rfl
  have e1:=(hs.2 co fun z=>Jbe tgP ((z▸oA).symm.trans dA) rfl).trans oA
  refine k _ _ _ hv (FA.beside mP (fun b hb z=>hw (z▸.inr (.inr hb))) (fun b o e q z=>?_) (fun z=>hw (z▸.inl rfl)) (fun x c e=>(hc x c e).elim) fun b hb z=>(hav (z▸hb)).elim) (Mv.trans xA.mv mP fun V h=>.inl h) ⟨_,_,e1,e2⟩
  exact (Jed (Jav (z▸e) dA▸q)).elim) (hns _ _ _)
end
end
section
inductive JHc (env:Env) (ow:Ow) (fl co:Addr) (h:Heap):Prop
 | mk (cd:Addr) (es:List DictEntry) (t:Tok) (C:Jsc h co cd es) (e:getL "header_encoding" es=some (some (.int 1 t))) (f:getL "header_encode_lines" es=some (some (.ref fl))) (n1:¬ Wr env ow co) (n2:¬ Wr env ow cd):JHc env ow fl co h
section
variable {prog:Program}{w:World}{g:Heap}{T:Ja3}{n:Nat}{A:Around}{s s' sA:Shared}{env:Env}{ow:Ow}{σ:Sto}{co cd fl:Addr}{rest:List Stmt}
theorem Fm.nfn {av:List Addr}{b:Addr}{o:Option Addr}{fd:FuncData}(F:Fm g T av ow env σ s) (e:s.heap.get? b=some (Jda o fd)):¬ Wr env ow b:=fun hw=>by
 rcases hw with rfl | ⟨x,hm,k,hx⟩ | hb
 ·exact F.ns.elim fun m n=>Jwg n e
 ·obtain ⟨v,o',e',hd⟩:=F.own x b hm k hx
  cases Jav e e'
  exact nomatch hd
 ·exact (F.isl b hb).elim fun vs p=>p.elim fun n e'=>Jbe tgP (e'.symm.trans e) rfl
theorem Jss {Q:Flow->Shared->Prop}(F:Fm g T [] ow env σ s) (he:env.scope=Jkn) (hoc:ow.c=Ja1 Jkn.names) (hc:∀ x c,env.cells.lookup x=some c->False) (rm:Rm n A) (mk:Jb5 g T env.code (env.qual ++ "<lambda>")) (hlim:g.NoLimit) (gll:Glb g "_law_lines" (.ref fl))
  (k:∀ s' ow' co,ow'.c=ow.c->Fm g T [] ow' env ((Str.ofString "coder",.val (.adr co))::σ) s'->Mv g T (Wr env ow) s s'->(∀ b,Wr env ow' b->Wr env ow b\/s.heap.get? b=none)->JHc env ow' fl co s'.heap->wpAny (model prog w) A (execs rest env) Q NoE s') :
  wpAny (model prog w) A (execs (nth lrB 0::nth lrB 1::nth lrB 2::rest) env) Q NoE s:=by
 refine wpAny_execs_cons (wpAny_Assign_Name (Ja0 (Job hlim F.gk mk F.ec.glob (Jcs (env:=env) fun x hx=>(List.not_mem_nil hx).elim).choose_spec.1 rfl) fun v sA h₁=>?_) rfl)
 cases h₁ with | @mk co fd _ xA nA oA =>
 refine Ja0 (Je2 F (Jd1 F.ec he (hoc.symm▸rfl)) xA (.adr co)) fun V s2 h₂=>?_
 have nx:=h₂.nx
 cases nx with | mk ow2 cB Fb mQ wB =>
 have hco:¬ Wr env ow co:=fun hw=>(F.wr_ex hw).elim fun V e=>nos nA e
 have oB:=h₂.m.get' (xA.gk F.gk) oA hco (Jna _ _)
 have hg:g.get? co=none:=F.gk.new nA
 refine wpAny_execs_cons (Joe (VP:=fun u=>∃ t,u=.int 1 t) Fb hc rfl hg oB nofun (by kernel_rfl) (Ja0 ((Ev.int:Ev prog w g T n Jkn ((Str.ofString "coder",.val (.adr co))::σ) _ (.int 1)) A s2 _ env he rm Fb.gk Fb.ec) fun v s' h=>⟨h.2.i4,h.1⟩) (fun V V V=>rfl) fun s3 cd tk v hv F3 m3 n3 C3=>?_)
 obtain ⟨t,rfl⟩:=hv
 have hcd:¬ Wr env ow2 cd:=fun hw=>(Fb.wr_ex hw).elim fun V e=>nos n3 e
 refine wpAny_execs_cons (Jod (VP:=fun u=>u=.ref fl) F3 hc rfl (Fb.gk.new n3) C3 nofun hcd (by kernel_rfl) (by rfl) (by exact Nat.le_trans (Nat.le_refl 1) (by decide)) (Jbk F3.ec.kind F3.ec.glob F3.ec.blt (by rw [Env.kindOf,he]; rfl) F3.gk.keep gll ⟨rfl,.refl⟩) (fun V V V=>rfl) fun s4 tk' v hv F4 m4 C4=>?_)
 subst hv
 have m:=Mv.trans (Mv.trans mQ m3 fun b hb=>.inr (hb▸nA)) m4 fun b hb=>hb▸mQ.new Fb.gk n3
 exact k s4 ow2 co cB F4 m wB (.mk cd _ t C4 rfl rfl (Fb.nfn oB) hcd)
end
end
section
section
variable {prog:Program}{w:World}{g:Heap}{T:Ja3}{K:Frag}{n m:Nat}{A:Around}{q:Pg}{p:PgP}{ls:List Str}{ps:List (Str×Str)}{i:Int}{a:Jbn}{b:Jc7}{σ:Sto}{f:Addr}
noncomputable abbrev trP:Str×Str:=(sp1,Str.ofString "")
variable (B:Jan prog w K g T a b) (hU:∀ x,q.U x->g.get? x=none) (M:MF Jo2 K g b.CV "add_transition" f (Jak "_ValueFormatter" "add_transition") [] ["self"])
include B hU M
theorem JAg (hz:ps.length<=800):ClU prog w g T (n+2) f (pgW b.CV a.CA q p) (ls,ps,i) [.adr q.m] .none (ls,ps++[trP],i) :=
 have ok:=Jaw (CV:=b.CV) (CA:=a.CA) (p:=p) hU
 .of (R:=.next _) M ok rfl (Jam.cons ok (SxU.expr ok (Jqw (n:=n) (pr:=trP) B hU (fun V=>⟨_,rfl⟩) (fun V V=>rfl) (fun V V=>rfl) rfl (Nat.le_trans hz (by decide)) (fun V=>Ev.str) fun V=>Ev.str) (fun V V V=>rfl)) Jam.nil)
theorem Jyv (hs:σ.lookup (Str.ofString "maker")=some (.val (.adr q.m))) (hno:∀ d,Sub σ ((Str.ofString "_",.val d)::σ)):∀ {ds:List D}{ps:List (Str×Str)},ps.length+ds.length<=700 ->
  JEk prog w g T (n+2) Jkn (pgW b.CV a.CA q p) (stP (nth lrB 4)).test (stP (nth lrB 4)).body (fun σ' j'=>σ'=σ/\j'=(ls,ps++List.replicate ds.length trP,i)) ds σ (ls,ps,i):=by
 intro ds
 induction ds with
 | nil=>exact fun V=>⟨rfl,by rw [List.length_nil,List.replicate_zero,List.append_nil]⟩
 | cons d ds ih =>
  intro ps hl
  have ok:=Jaw (CV:=b.CV) (CA:=a.CA) (p:=p) hU
  rw [List.length_cons] at hl
  have go:=ih (ps:=ps++[trP]) (by rw [List.length_append,List.length_singleton]; lia)
  rw [List.append_assoc] at go
  exact .mk _ _ _ .name (Jaa rfl) (fun fp=>Jam.post (Jam.cons (ok.on fp) (SxU.expr (ok.on fp) (.wide (W:=pgW b.CV a.CA q p) (fun a h=>List.mem_append_right _ h) Jdb (.own0 ok B.A.X M.kee (fun V=>⟨_,rfl⟩) (fun V=>rfl) (fun V V V=>Ev.name hs) (Jeb B M (by decide)) (.of (JAg (n:=n) B hU M (by lia)) Jdb))) (fun V V V=>rfl)) Jam.nil) (hno _)) go
end
end
section
noncomputable abbrev pgQ (mx:Int):PgP:=⟨mx,sp1,Str.ofString ""⟩
section
variable {prog:Program}{w:World}{g:Heap}{T:Ja3}{K:Frag}{n m:Nat}{A:Around}{s:Shared}{env:Env}{ow:Ow}{a:Jbn}{b:Jc7}{σ:Sto}{head width:Int}{rest:List Stmt}
theorem Jso {Q:Flow->Shared->Prop}(B:Jan prog w K g T a b) (gfmt:Glb g "_ValueFormatter" (.ref b.CV)) (kfmt:keepIn K (.ref b.CV)=true) (F:Fm g T [] ow env σ s) (he:env.scope=Jkn) (hoc:ow.c=Ja1 Jkn.names) (hc:∀ x c,env.cells.lookup x=some c->False) (rm:Rm (n+7) A)
  (h1:σ.lookup (Str.ofString "head")=some (.val (.int head))) (h2:σ.lookup (Str.ofString "width")=some (.val (.int width)))
  (k:∀ (q:Pg) ow' s',ow'.c=ow.c->(∀ x,q.all x->s.heap.get? x=none)->FmW (pgW b.CV a.CA q (pgQ (width+1))) g T ow' env ((Str.ofString "maker",.val (.adr q.m))::σ) s' ([],[],1+head.fdiv 2)->Mv g T (Wr env ow) s s'->(∀ b,Wr env ow' b->Wr env ow b)->wpAny (model prog w) A (execs rest env) Q NoE s') :
  wpAny (model prog w) A (execs (nth lrB 3::rest) env) Q NoE s:=by
 refine wpAny_execs_cons (wpAny_Assign_Name (Jll (n:=n+7) rfl gfmt kfmt B.A.X (EvL.more (fun V=>rfl) (Ev.bin Ev.int (Ev.bin (Ev.name h1) Ev.int (Jep (by decide) (by decide))) Jag) (EvL.more (fun V=>rfl) (Ev.bin (Ev.name h2) Ev.int Jag) (EvL.more (fun V=>rfl) Ev.str (EvL.more (fun V=>rfl) Ev.str EvL.nil)))) he rm F.gk F.ec fun us sA xA r1=>?_) rfl)
 have gA:=xA.gk F.gk
 refine Ja0 (Jtd (n:=n) (p:=pgQ (width+1)) (hl:=1+head.fdiv 2) B rm gA (by decide:sp1.length<=1000) (r1.sub (av':=[]) nofun)) fun v s2 h₂=>?_
 cases h₂ with | mk q hq xB P =>
 have hq':∀ x,q.all x->s.heap.get? x=none:=fun x hx=>xA.none F.gk (hq x hx)
 have ok:=Jaw (CV:=b.CV) (CA:=a.CA) (p:=pgQ (width+1)) fun x (hx:q.U x)=>F.gk.new (hq' x (.inr (.inr hx)))
 have x:=xA.trans xB
 have Fg:=F.grow (fp:=[q.l]) x (fun b hb=>List.mem_singleton.mp hb▸hq' _ (.inr (.inr (.inl rfl)))) fun b hb=>List.mem_singleton.mp hb▸Jcj P (.inr (.inr (.inl rfl)))
 have Z:FmW (pgW b.CV a.CA q (pgQ (width+1))) g T ow env σ s2 ([],[],1+head.fdiv 2):=⟨Fg,P,fun y hy hw=>(F.wr_ex hw).elim fun V e=>nos (hq' y hy) e,fun x c e=>(hc x c e).elim⟩
 refine Ja0 (Jb1 Z.F (Jd1 Z.F.ec he (hoc.symm▸rfl)) (.adr q.m)) fun V s3 h₃=>?_
 have w3:=ok.mv h₃.m Z.F.gk Z.w (fun b hb hp=>Z.nw b hp hb) (Jd8 Z.F h₃.m)
 exact k q (ow.drop (Str.ofString "maker")) s3 rfl hq' ⟨h₃.F,w3,fun y hy hw=>Z.nw y hy hw.drop,Z.cl⟩ (Mv.trans x.mv h₃.m fun V h=>.inl h) fun y hy=>hy.drop
end
end
section
section
variable {w:World}{g:Heap}{T:Ja3}{n m:Nat}{s s':Shared}{env:Env}{ow:Ow}{CV CA:Addr}{q:Pg}{p:PgP}{st st':Pst}{σ:Sto}{outer:List Env}{v:Value}
structure Fed (g:Heap) (T:Ja3) (CV CA:Addr) (q:Pg) (p:PgP) (ow:Ow) (env:Env) (outer:List Env) (σ:Sto) (st:Pst) (s s':Shared):Prop where
 Z:FmW (pgW CV CA q p) g T ow env σ s' st
 m:Mv g T (fun b=>(Wr env ow b\/q.U b)\/b∈frA outer) s s'
 sl:SlK (frA outer) s.heap s'.heap
theorem Jqk (hf:env.frame=some env.locals):frA (env::outer)=env.locals::frA outer:=by rw [frA,List.filterMap_cons,hf]
theorem FmW.fed (hU:∀ b,q.U b->g.get? b=none) (Z:FmW (pgW CV CA q p) g T ow env σ s st) (hf:env.frame=some env.locals) (hc:∀ x c,env.cells.lookup x=some c->False) (FO:FrO g s.heap outer) (hnw:∀ b∈frA outer,¬ Wr env ow b) (h:JGe g T CV CA q p (env::outer) st' s v s'):Fed g T CV CA q p ow env outer σ st' s s':=by
 have ok:=Jaw (CV:=CV) (CA:=CA) (p:=p) hU
 cases h with | mk m sl P =>
 rw [Jqk hf] at m sl
 refine ⟨⟨Z.F.besideL m (fun b hb u=>?_) (fun b o e so u=>?_) (fun o e=>sl _ (.head _) o e) (fun x c e=>(hc x c e).elim) fun b hb V=>List.mem_singleton.mp hb▸Jcj P (.inr (.inr (.inl rfl))),P,Z.nw,fun x c e=>(hc x c e).elim⟩,m.sub fun b u=>.inl (u.elim (fun z=>.inl (.inr z)) fun z=>(List.mem_cons.mp z).elim (fun y=>.inl (.inl (.inl y))) .inr),sl.sub fun b hb=>.tail _ hb⟩
 ·rcases u with u | u
  ·exact Z.nw b (.inr (.inr u)) (.inr (.inr hb))
  ·rcases List.mem_cons.mp u with rfl | u
   ·exact Z.F.ns.elim fun m n=>(Z.F.isl _ hb).elim fun vs z=>z.elim fun k e=>Jdn n e ⟨_,_,.inr rfl⟩
   ·exact hnw b u (.inr (.inr hb))
 ·rcases u with u | u
  ·exact ok.seq _ _ Z.w b o u e so
  ·rcases List.mem_cons.mp u with rfl | u
   ·exact (Z.F.ns.elim fun m n=>Jdn n e so).elim
   ·exact (FO.nsq u e so).elim
end
end
section
section
variable {prog:Program}{w:World}{g g':Heap}{T:Ja3}{K:Frag}{n:Nat}{A:Around}{s s':Shared}{env:Env}{ow:Ow}{q:Pg}{p:PgP}{st:Pst}{a:Jbn}{b:Jc7}{σ:Sto}{fd co:Addr}{wl:List Nat}
theorem Jyw (h1:σ.lookup (Str.ofString "word")=some (.val (.str (sOf wl)))) (h2:σ.lookup (Str.ofString "coder")=some (.val (.adr co))) (hl:wl.length<=1000) {p1 p2 p3 p4 p5 p6 p7 p8 p9:Pos}:EvL prog w g T (n+1) Jkn σ [.Subscript (.Name "word" p1) (.Slice none (some (.Constant (.int 1) 0 p2)) none p3) p4,.Subscript (.Name "word" p5) (.Slice (some (.Constant (.int 1) 0 p6)) none none p7) p8,.Name "coder" p9] [.str (sOf (wl.take 1)),.str (sOf (wl.drop 1)),.adr co] :=
 EvL.more (fun V=>rfl) (Jdf wl 1▸Ev.slice (Ev.name h1) .none' (.some' Ev.int) .none' (Jbg rfl (by rw [show Jfh (sOf wl) none (some 1) none=_ from Jdf wl 1,Ja7]; exact Nat.le_trans (List.length_take_le' ..) (Nat.le_trans hl (by decide))))) (EvL.more (fun V=>rfl) (Jax wl 1▸Ev.slice (Ev.name h1) (.some' Ev.int) .none' .none' (Jbg rfl (by rw [show Jfh (sOf wl) (some 1) none none=_ from Jax wl 1,Ja7,List.length_drop]; exact Nat.le_trans (Nat.sub_le ..) (Nat.le_trans hl (by decide))))) (EvL.more (fun V=>rfl) (Ev.name h2) EvL.nil))
theorem Jof {Q:Flow->Shared->Prop}{p0 apos pos pp:Pos}{e:Expr}{es:List Expr}(B:Jan prog w K g T a b) (F:MF Jo2 K g b.CV "feed" fd fdS [] ["self", "fws", "string", "charset"]) (hU:∀ x,q.U x->g.get? x=none) (he:env.scope=Jkn) (rm:Rm n A) (Z:FmW (pgW b.CV a.CA q p) g T ow env σ s st)
  (hm:σ.lookup (Str.ofString "maker")=some (.val (.adr q.m))) (hM:Jby (.Name "maker" p0) "feed" apos (e::es) pos) {f:Str}(ha:∀ g',EvL prog w g' T n Jkn (froz σ) (e::es) [.str f,.str (sOf wl),.adr co])
  (k:∀ s' tf tx,Ext g T s s'->wpAny (model prog w) A (call (.ref fd) [.ref q.m,.str f tf,.str (sOf wl) tx,.ref co]) (fun V s''=>Q .next s'') NoE s') :
  wpAny (model prog w) A (exec (.Expr (.Call (.Attribute (.Name "maker" p0) "feed" apos) (e::es) [] pos) pp) env) Q NoE s:=by
 have ok:=Jaw (CV:=b.CV) (CA:=a.CA) (p:=p) hU
 refine wpAny_Expr_any (Jc2 hM (fun V=>rfl) (Jab Z.F.ec.kind (Z.F.ec.adr hm) fun pl=>Jeb B F (by decide) Z.F.gk.keep Z.w (callWith_K (h₀:=s.heap) (fun b o e=>Z.F.gk.keep b o (B.A.X b o e)) F.kee (Ja0 ((ha (Jbp T s.heap)).run A s _ env pos he rm (Z.F.gk.core .refl) Z.F.froz) fun vs s2 h₂=>?_) ((ha g).plain.1 env) (ha g).plain.2.any))) (Jac Z.F) rfl
 have x:=h₂.1.base (g:=g) (Z.F.gk.core .refl)
 refine ⟨fun b o e=>(x.gk Z.F.gk).keep b o (B.A.X b o e),?_⟩
 cases h₂.2.i1 with | mk ra rb =>
 cases rb.i1 with | mk rc rd =>
 cases rd.i1 with | mk re rf =>
 cases rf.i0
 obtain ⟨tf,rfl⟩:=ra.i5
 obtain ⟨tx,rfl⟩:=rc.i5
 cases re.i1
 exact k s2 tf tx x
end
end
section
open Builtin Builtin.Str
section
variable {prog:Program}{w:World}{g:Heap}{T:Ja3}{n:Nat}{av:List Addr}{h:Heap}{s:Shared}{x y:Str}
theorem Jt1:∀ p:List (Str×Tok),VDs av h (strValues p) ((p.map (·.1)).map .str):=fun p=>by
 induction p with
 | nil=>exact .nil
 | cons a p ih=>exact .cons (.str a.1 a.2) ih
theorem Jov (t:Tok) (l:List Str):VDs av h (strsFrom t l) (l.map .str):=by
 have:=Jt1 (av:=av) (h:=h) (PySem.numbered t l)
 rwa [<- strsFrom_eq,numbered_texts] at this
theorem Jtm (hy:(y.length==0)=false) (hx:x.length<=lim) (hn:(partsBetween x (occurrences x y 0 x.length (x.length+1)) y.length).length<=lim):MtV prog w g T n "split" (.str x) [.str y] (.lst ((Txt.split x y).map .str)) :=
 ⟨_,_,F.plainAttrs_str,F.slot_str_split,F.type_str_split,fun V V V=>Jho,fun A s av ov vs rm hg hav ho hv=>by
  obtain ⟨t,rfl⟩:=ho.i5
  cases hv.one1 with | mk r =>
  obtain ⟨u,rfl⟩:=r.i5
  have one:∀ {tk:Tok},Out g T av s (.lst ([x].map .str)) (.ref s.heap.objs.size) { s with heap:=s.heap.push (Jb0 [.str x t] 0),toks:=tk }:=fun {tk}=>Jhh (n:=0) (tk:=tk) hav (.cons (.str x t) .nil)
  unfold Txt.split
  cases h1:(decide (x.length<y.length)||decide (strKind x<strKind y))
  ·rw [if_neg Bool.false_ne_true]
   cases hf:(occurrences x y 0 x.length (x.length+1)).isEmpty
   ·rw [if_neg Bool.false_ne_true]
    refine call_meets F.slot_str_split F.entry_str_split (typeIs_str _ _ _) (F.args_str_split_2 _ _) (meets_str_split_sep x y t u h1 hy hf (Nat.le_trans hx (by decide)) (Nat.le_trans hn (by decide))) ?_
    exact Jhh (n:=0) (tk:=_) hav (Jov _ _)
   ·rw [if_pos rfl]
    exact call_meets F.slot_str_split F.entry_str_split (typeIs_str _ _ _) (F.args_str_split_2 _ _) (meets_str_split_not_found x y t u h1 hy hf) one
  ·rw [if_pos rfl]
   exact call_meets F.slot_str_split F.entry_str_split (typeIs_str _ _ _) (F.args_str_split_2 _ _) (meets_str_split_cannot_occur x y t u h1) one⟩
end
end
section
noncomputable def Jjt (x:Str) (n:Int):Str:=if n<1 then Str.empty else if (n==1||x.length==0)=true then x else ⟨(List.replicate n.toNat x.cps).foldl (· ++ ·) #[]⟩
section
variable {prog:Program}{w:World}{g:Heap}{T:Ja3}{x:Str}{m:Int}
theorem Jmf (hx:x.length<=1) (h0:0<=m) (h1:m<=1000) (hl:(Jjt x m).length<=lim):Jib prog w g T .Mult (.str x) (.int m) (.str (Jjt x m)):=fun A s av u v V hu hv=>by
 obtain ⟨t,rfl⟩:=hu.i5
 obtain ⟨t',rfl⟩:=hv.i4
 refine P.mul_str (by rw [decide_eq_false (by lia),decide_eq_false (by lia)]; rfl) (fun a b=>?_) (fun a b=>?_) ?_
 ·have:(1:Int)<=(2 ^ 63 - 1) / m:=(Int.le_ediv_iff_mul_le (by lia)).mpr (by lia)
  lia
 ·refine decide_eq_false ?_
  have h2:x.length*m.toNat<=1*1000:=Nat.mul_le_mul hx (by lia)
  have:(1000:Nat)<sizeLine:=by decide
  lia
 ·unfold Jjt at hl ⊢
  by_cases a:m<1
  ·rw [if_pos a] at hl ⊢
   rw [if_pos a]
   exact ⟨Nat.zero_le _,Jck⟩
  ·rw [if_neg a] at hl ⊢
   rw [if_neg a]
   by_cases b:(m==1||x.length==0)=true
   ·rw [if_pos b] at hl ⊢
    rw [if_pos b]
    exact ⟨.refl,.str _ _⟩
   ·rw [if_neg b] at hl ⊢
    rw [if_neg b]
    exact ⟨Nat.le_trans hl (by decide),Jck⟩
end
end
section
section
variable {ι:Type}{prog:Program}{w:World}{g:Heap}{T:Ja3}{n:Nat}{sc:Scope}{W:Wo ι}{i j:ι}{σ:Sto}{l r o e:Expr}{es:List Expr}{x y:Str}{d:D}{ds:List D}{op:Operator}{pos apos:Pos}{m:Str}
theorem EvU.binR (ok:W.Ok g) (hl:Jer g W i fun g'=>Ev prog w g' T n sc σ l (.str x)) (hr:EvU prog w g T n sc W i σ r (.str y) j) (hb:Jib prog w g T op (.str x) (.str y) d):EvU prog w g T n sc W i σ (.BinOp l op r pos) d j:=fun A s ow env he rm Z=>
 wpAny_BinOp (Ja0 (EvU.gnd ok hl A s ow env he rm Z) fun u sA h₁=>by
  cases h₁ with | mk mP r1 wA =>
  obtain ⟨t,rfl⟩:=r1.i5
  have Z1:=Z.out ok mP wA
  exact Ja0 (hr A sA ow env he rm Z1) fun v s2 h₂=>by
   cases h₂ with | mk mQ rB wB =>
   have Z2:=Z1.out ok mQ wB
   exact Ja0 (hb A s2 (ow.adr++W.av) _ v Z2.F.ec.avok (.str _ t) rB) fun v' s3 h₃=>⟨(mP.trans mQ fun V h=>.inl h).trans (h₃.1.mv (W:=fun V=>False)) fun V f=>f.elim,h₃.2,ok.ext h₃.1 Z2.F.gk wB⟩)
theorem EvU.methG (ok:W.Ok g) (hb:∀ env,attributeBase o m env (eval o env)=eval o env) (hln:(apos.endLine==pos.line)=true) (hlen:es.length<20) (ho:EvU prog w g T n sc W i σ o (.str x) j) (ha:Jer g W j fun g'=>EvL prog w g' T n sc σ (e::es) ds) (hp:Ji9 (e::es)) (h:MtV prog w g T n m (.str x) ds d) :
  EvU prog w g T n sc W i σ (.Call (.Attribute o m apos) (e::es) [] pos) d j:=fun A s ow env he rm Z=>by
 cases h with | mk ty id pa slot md recv run =>
 refine wpAny_Call_method_late (hb env) (Bool.and_eq_true_iff.mpr ⟨Bool.and_eq_true_iff.mpr ⟨hp.all,rfl⟩,decide_eq_true (Nat.lt_of_lt_of_le (Nat.succ_lt_succ hlen) (by decide))⟩) hln rfl (Ja0 (ho A s ow env he rm Z) fun ov sA h₁=>?_)
 cases h₁ with | mk mP r1 wA =>
 have Z1:=Z.out ok mP wA
 cases recv _ _ _ r1 with | mk hT hR =>
 obtain ⟨t,rfl⟩:=r1.i5
 refine ⟨ty,id,pa,slot,md,hT,hR,callWith_method1 (Ja0 ((FmW.over ok Z1.F.gk wA ha).run A sA _ env pos he rm (Z1.F.gk.core .refl) Z1.F.ec) fun vs s2 h₂=>?_) (hp.1 _) hp.2.any⟩
 have xB:=h₂.1.base (g:=g) (Z1.F.gk.core .refl)
 have Z2:=Z1.ext ok xB
 exact Ja0 (run A s2 _ _ vs rm Z2.F.gk Z2.F.ec.avok (.str _ t) h₂.2) fun v s3 h₃=>⟨(mP.trans (xB.mv (W:=fun V=>False)) fun V f=>f.elim).trans (h₃.1.mv (W:=fun V=>False)) fun V f=>f.elim,h₃.2,ok.ext h₃.1 Z2.F.gk Z2.w⟩
end
end
section
open Builtin Builtin.Str
noncomputable abbrev nlS:Str:=Str.ofString "\n"
section
variable {prog:Program}{w:World}{g:Heap}{T:Ja3}{K:Frag}{n:Nat}{q:Pg}{p:PgP}{ls:List Str}{ps:List (Str×Str)}{i head:Int}{E:List Addr}{a:Jbn}{b:Jc7}{σ:Sto}
variable (B:Jan prog w K g T a b) (hU:∀ x,q.U x->g.get? x=none)
include B hU
theorem JC0 (hs:σ.lookup (Str.ofString "maker")=some (.val (.adr q.m))) (hh:σ.lookup (Str.ofString "head")=some (.val (.int head))) (h0:0<=head/\head<=999) (hz:Jcg (ls,ps,i)) (h1:Jgi nlS (nlF ls ps i)<=lim) (h2:(Str.join nlS (nlF ls ps i)).length<=lim) (h3:(Jjt sp1 (1+head.fdiv 2)).length<=lim) (h4:(Jjt sp1 (1+head.fdiv 2)++Str.join nlS (nlF ls ps i)).length<=lim)
  (h5:(partsBetween (Jjt sp1 (1+head.fdiv 2)++Str.join nlS (nlF ls ps i)) (occurrences (Jjt sp1 (1+head.fdiv 2)++Str.join nlS (nlF ls ps i)) nlS 0 (Jjt sp1 (1+head.fdiv 2)++Str.join nlS (nlF ls ps i)).length ((Jjt sp1 (1+head.fdiv 2)++Str.join nlS (nlF ls ps i)).length+1)) nlS.length).length<=lim) :
  SxU prog w g T (n+8) Jkn ((pgW b.CV a.CA q p).on E) (ls,ps,i) σ (nth lrB 6) (.ret (.lst ((Txt.split (Jjt sp1 (1+head.fdiv 2)++Str.join nlS (nlF ls ps i)) nlS).map .str))) (nlF ls ps i,[],0):=by
 have ok:=Jaw (CV:=b.CV) (CA:=a.CA) (p:=p) hU
 have hd:0<=head.fdiv 2/\head.fdiv 2<=head:=by
  rw [Int.fdiv_eq_ediv_of_nonneg _ (by decide)]
  lia
 refine SxU.ret (EvU.methG (ok.on E) (fun V=>rfl) rfl (Nat.zero_lt_succ _) (.wide (W:=pgW b.CV a.CA q p) (fun a h=>List.mem_append_right _ h) Jhs (.binR ok (fun g' up P=>Ev.bin Ev.str (Ev.bin Ev.int (Ev.bin (Ev.name hh) Ev.int (Jep (by decide) (by decide))) Jag) (Jmf (by decide) (by lia) (by lia) h3)) (.own ok B.A.X B.sfn.kee (fun V=>⟨_,rfl⟩) (fun V=>rfl) (fun V V V=>Ev.name hs) (Jeb B B.sfn (by decide)) (fun V V V=>.more (fun V=>rfl) Ev.str .nil) (.of (Jno (n:=n) B hU hz h1 h2) Jhs)) (Ji6 h3 h2))) (fun g' up P=>.more (fun V=>rfl) Ev.str .nil) ⟨fun V=>rfl,⟨⟩⟩ (Jtm (by decide) h4 h5))
end
end
theorem Jjn (ps:List (Str×Str)) (pr:Str×Str) (i:Int):Jaf (ps++[pr]) i=Jaf ps i+(pr.1.length+pr.2.length):=by
 unfold Jaf
 rw [List.map_append,List.sum_append,List.map_singleton,List.sum_singleton]
 lia
theorem JAt (m:Nat) (i:Int):Jaf (List.replicate m trP) i=i+m:=by
 induction m with
 | zero=>exact rfl
 | succ m ih =>
  rw [List.replicate_succ',Jjn,ih]
  have:((trP.1.length:Int)+trP.2.length)=1:=by decide
  lia
theorem Jpb (m:Nat) (hm:m<=700) {i:Int}(hi:0<=i/\i<=1000):Jcg ([],List.replicate m trP,i) :=
 ⟨by show (List.replicate m trP).length<=800; rw [List.length_replicate]; lia,fun x hx=>by rw [List.eq_of_mem_replicate hx]; decide,fun x hx=>by rw [List.eq_of_mem_replicate hx]; decide +kernel,hi,Nat.zero_le _,fun V h=>(List.not_mem_nil h).elim⟩
section
open Builtin Builtin.Str
inductive JDx (g:Heap) (T:Ja3) (av:List Addr) (l:List Env) (d:D) (s:Shared):Value->Shared->Prop
 | mk {v:Value}{s':Shared}(m:Mv g T (fun b=>b∈frA l) s s') (sl:SlK (frA l) s.heap s'.heap) (r:VD av s'.heap v d):JDx g T av l d s v s'
structure LrK (prog:Program) (w:World) (K:Frag) (g:Heap) (T:Ja3) (a:Jbn) (b:Jc7) (fd ad ml fl fr:Addr):Prop where
 B:Jan prog w K g T a b
 gfmt:Glb g "_ValueFormatter" (.ref b.CV)
 kfmt:keepIn K (.ref b.CV)=true
 fed:MF Jo2 K g b.CV "feed" fd fdS [] ["self", "fws", "string", "charset"]
 add:MF Jo2 K g b.CV "add_transition" ad (Jak "_ValueFormatter" "add_transition") [] ["self"]
 mxl:MG K g b.CV "_maxlengths" ml mxS ["self"]
 hfl:Jg4 g fl Ju2 ["string", "rooms"] llB
 gll:Glb g "_law_lines" (.ref fl)
 gix:Glb g "IndexError" (.type "IndexError")
 gra:Glb g "range" (.type "range")
 hf:FnO (fun c q=>Jb5 g T c (q ++ "<lambda>")) g fr Jkn [] ["word", "head", "width"] lrB
theorem Jws:FnS Jkn ["word", "head", "width"]:=⟨⟨rfl,rfl,rfl,by decide +kernel⟩,by decide +kernel⟩
theorem JEx:(Jkn.names.all fun p=>p.2 != .cell)=true:=by decide +kernel
section
variable {prog:Program}{w:World}{K:Frag}{g:Heap}{T:Ja3}{n:Nat}{A:Around}{s:Shared}{a:Jbn}{b:Jc7}{fd ad ml fl fr:Addr}{wl:List Nat}{hd wd:Nat}{t t1 t2:Tok}{av:List Addr}{Q:Value->Shared->Prop}
theorem Jyu (L:LrK prog w K g T a b fd ad ml fl fr) (rm:Rm (n+14) A) (hg:GK g T s) (hwd:hd<wd/\wd<=600)
  (k:∀ (env:Env) (ow:Ow) (s4:Shared) (q:Pg) (co:Addr),env.scope=Jkn->env.frame=some env.locals->(∀ x c,env.cells.lookup x=some c->False)->ow.c=Ja1 Jkn.names->Rm (n+13) (A.deeper env)->(∀ x,q.all x->s.heap.get? x=none)->(∀ x,Wr env ow x->s.heap.get? x=none) ->
   FmW (pgW b.CV a.CA q (pgQ ((wd:Int)+1))) g T ow env ((Str.ofString "maker",.val (.adr q.m))::(Str.ofString "coder",.val (.adr co))::params ["word", "head", "width"] [.str (sOf wl),.int hd,.int wd]) s4 ([],List.replicate (hd - hd / 2) trP,1+(hd:Int).fdiv 2)->Ext g T s s4->Jsh s4.heap co fl ->
   wpAny (model prog w) (A.deeper env) (execs [nth lrB 5,nth lrB 6] env) (fun fl s'=>Q (Juv fl) s') NoE s4) :
  wpAny (model prog w) A (call (.ref fr) [.str (sOf wl) t,.int hd t1,.int wd t2]) Q NoE s:=by
 refine Jde (n:=n+13) L.hf Jws.toFnS0 (.nil Jws) rm hg (av:=[]) nofun (.cons (.str _ _) (.cons (.int _ _) (.cons (.int _ _) .nil))) rfl fun env ow sA N hf=>?_
 refine wpAny_mono (E:=NoE) ?_ (fun V V q=>q) fun V V f=>f.elim
 have hc:∀ x c,env.cells.lookup x=some c->False:=fun x c e=>nomatch (N.cells x fun z=>(nomatch List.all_eq_true.mp JEx _ z)).symm.trans e
 refine Jss N.F N.sc_ N.c hc N.rm N.p L.B.A.psh.fo.lim L.gll fun s2 ow2 co cB Fb mQ wB C2=>?_
 refine Jso (n:=n+6) L.B L.gfmt L.kfmt Fb N.sc_ (cB.trans N.c) hc N.rm rfl rfl fun q ow3 s3 cC hq Z3 m3 w3=>?_
 have hqs:∀ x,q.all x->s.heap.get? x=none:=fun x hx=>(mQ.new Fb.gk (hq x hx)).elim (N.w x) (N.x.none hg)
 have hU:∀ x,q.U x->g.get? x=none:=fun x hx=>hg.new (hqs x (.inr (.inr hx)))
 have ok:=Jaw (CV:=b.CV) (CA:=a.CA) (p:=pgQ ((wd:Int)+1)) hU
 have e1:(hd:Int).fdiv 2=((hd / 2:Nat):Int):=by rw [Int.fdiv_eq_ediv_of_nonneg _ (by decide)]; lia
 have e2:(hd:Int) - (hd:Int).fdiv 2=((hd - hd / 2:Nat):Int):=by rw [e1]; lia
 have e3:(Jio 0 ((hd:Int) - (hd:Int).fdiv 2) 1).length=hd - hd / 2:=by
  rw [e2,Jio,List.length_map,List.length_range]
  simp [Builtin.Range.rangeSize]
  try lia
 show wpAny _ _ (execs ([nth lrB 4]++[nth lrB 5,nth lrB 6]) env) _ NoE s3
 have lp:=Jyv (T:=T) (n:=n+11) (σ:=(Str.ofString "maker",.val (.adr q.m))::(Str.ofString "coder",.val (.adr co))::params ["word", "head", "width"] [.str (sOf wl),.int hd,.int wd]) (ls:=[]) (i:=1+(hd:Int).fdiv 2) (p:=pgQ ((wd:Int)+1)) L.B hU L.add rfl (fun d=>.cons rfl (.cons rfl (.cons rfl (.cons rfl (.cons rfl .nil))))) (ds:=Jio 0 ((hd:Int) - (hd:Int).fdiv 2) 1) (ps:=[]) (by rw [e3,List.length_nil]; lia)
 rw [e3,List.nil_append] at lp
 refine Jam.wp ok (Jam.cons ok (SxU.for ok (EvI.range1 rfl L.gra (fun V V=>rfl) (Ev.bin (Ev.name rfl) (Ev.bin (Ev.name rfl) Ev.int (Jep (by decide) (by decide))) Jap) (Jar.mpr (by lia))) (fun V V=>rfl) lp) Jam.nil) N.sc_ (cC.trans (cB.trans N.c)) N.rm Z3 fun ow4 s4 cD Z4 m4 w4=>?_
 have x1:Ext g T s s3:=(Mv.trans (Mv.trans N.x.mv mQ fun b hb=>.inr (N.w b hb)) m3 fun b hb=>.inr ((wB b hb).elim (N.w b) (N.x.none hg))).ext (W:=fun V=>False) fun b f=>f.elim
 have fC:∀ b,Wr env ow3 b->s.heap.get? b=none:=fun b hb=>(wB b (w3 b hb)).elim (N.w b) (N.x.none hg)
 have x4:Ext g T s s4:=(Mv.trans x1.mv m4 fun b hb=>.inr (hb.elim (fC b) fun u=>hqs b (.inr (.inr u)))).ext (W:=fun V=>False) fun b f=>f.elim
 have f4:∀ b,Wr env ow4 b->s.heap.get? b=none:=fun b hb=>(w4 b hb).elim (fC b) (x1.none hg)
 cases C2 with | mk cd es tt C e f n1 n2 =>
 have ex:∀ {x:Addr}{o:Obj},s2.heap.get? x=some o->¬ q.U x:=fun e u=>nos (hq _ (.inr (.inr u))) e
 have nU:¬ q.U co/\¬ q.U cd:=C.rec fun V V o d=>⟨ex o,ex d⟩
 have C3:=C.mv m3 Fb.gk n1 n2
 have C4:=C3.mv m4 Z3.F.gk (fun h=>h.elim (fun z=>n1 (w3 _ z)) nU.1) fun h=>h.elim (fun z=>n2 (w3 _ z)) nU.2
 exact k env ow4 s4 q co N.sc_ hf hc (cD.trans (cC.trans (cB.trans N.c))) N.rm hqs f4 Z4 x4 (C4.rec fun fd kd o d=>⟨cd,fd,es,kd,tt,o,d,e,f⟩)
end
end
section
open Builtin Builtin.Str
section
variable {w:World}{g:Heap}{T:Ja3}{s s':Shared}{a:Jbn}{b:Jc7}{outer:List Env}{env:Env}{ow:Ow}{σ:Sto}{q:Pg}{p:PgP}{st:Pst}{d:D}{j:Pst}{fw:Flow}
theorem Fed.out (hg:GK g T s) (E:Fed g T b.CV a.CA q p ow env outer σ st s s') {s0 s'':Shared}(x:Ext g T s0 s) (FO:FrO g s0.heap outer) (hg0:GK g T s0) (hq:∀ x,q.all x->s0.heap.get? x=none) (hw:∀ x,Wr env ow x->s0.heap.get? x=none) {EE:List Addr}(h:MtU ((pgW b.CV a.CA q p).on EE) g T ow env s' (.ret d) j fw s''):JDx g T (EE++[q.l]) outer d s0 (Juv fw) s'':=by
 have ex:∀ y∈frA outer,s0.heap.get? y≠none:=fun y hy z=>(FO.obj hy).2.elim fun o e=>nos z e.1
 cases h with | ret r m w =>
 have m1:Mv g T (fun y=>y∈frA outer) s0 s':=Mv.trans x.mv E.m fun y hy=>hy.elim (fun z=>.inr (z.elim (hw y) fun u=>hq y (.inr (.inr u)))) .inl
 have m2:Mv g T (fun y=>y∈frA outer) s0 s'':=Mv.trans m1 m fun y hy=>.inr (hy.elim (hw y) fun u=>hq y (.inr (.inr u)))
 have sl0:SlK (frA outer) s0.heap s.heap:=FO.mv hg0 (x.mv (W:=fun V=>False)) fun V V f=>f
 have F1:=FO.slk sl0
 have F2:=F1.slk E.sl
 refine .mk m2 ((sl0.trans E.sl).trans (F2.mv E.Z.F.gk m fun y hy u=>ex y hy (u.elim (hw y) fun u=>hq y (.inr (.inr u))))) r
end
end
section
open Builtin Builtin.Str
noncomputable def Jhq (c:Nat) (l:List Nat):Nat->List Nat:=l.rec (fun V=>[]) fun x V ih k=>if x=c then k::ih (k+1) else ih (k+1)
theorem Juj (c:Nat) (a b:List Nat):∀ k,Jhq c (a++b) k=Jhq c a k++Jhq c b (k+a.length):=by
 induction a with
 | nil=>exact fun k=>rfl
 | cons x a ih =>
  intro k
  have e:Jhq c (a++b) (k+1)=Jhq c a (k+1)++Jhq c b (k+(x::a).length):=by rw [ih (k+1),List.length_cons,show k+1+a.length=k+(a.length+1) by lia]
  show (if x=c then k::Jhq c (a++b) (k+1) else Jhq c (a++b) (k+1))=(if x=c then k::Jhq c a (k+1) else Jhq c a (k+1))++_
  by_cases h:x=c
  ·rw [if_pos h,if_pos h,e]; rfl
  ·rw [if_neg h,if_neg h,e]
theorem Jqc {c:Nat}{l:List Nat}(h:c∉l):∀ k,Jhq c l k=[]:=by
 induction l with
 | nil=>exact fun V=>rfl
 | cons x l ih=>exact fun k=>(if_neg fun e:x=c=>h (e▸List.mem_cons_self)).trans (ih (fun m=>h (.tail _ m)) (k+1))
theorem Jxu (l:List Nat) (c i:Nat) (hi:i<l.length):subAt (sOf l) (sOf [c]) i=decide (l[i]=c):=by
 have e:(l.toArray.extract i (i+1)) = #[l[i]]:=by
  apply Array.ext'
  rw [Array.toList_extract]
  show (l.drop i).take (i+1 - i)=[l[i]]
  rw [Nat.add_sub_cancel_left,List.drop_eq_getElem_cons hi]; rfl
 show (l.toArray.extract i (i+1) == #[c])=_
 rw [e]
 by_cases h:l[i]=c
 ·rw [h]; simp
 ·rw [decide_eq_false h]
  exact beq_eq_false_iff_ne.mpr fun e=>h (by injection e with e; injection e)
noncomputable def Jwf (l:List Nat) (c:Nat) (st:Array Nat×Nat) (i:Nat):Array Nat×Nat :=
 if (decide (st.1.size<l.length+1)&&decide (st.2<=i)&&decide (i+(sOf [c]).length<=l.length)&&subAt (sOf l) (sOf [c]) i)=true then (st.1.push i,i+(sOf [c]).length) else (st.1,st.2)
theorem Jte (l:List Nat) (c:Nat):occurrences (sOf l) (sOf [c]) 0 (sOf l).length ((sOf l).length+1)=((List.range' 0 (l.length+1)).foldl (Jwf l c) (#[],0)).1.toList:=by
 unfold occurrences
 simp only [Std.Legacy.Range.forIn_eq_forIn_range',Std.Legacy.Range.size,Nat.sub_zero,Nat.add_sub_cancel,Nat.div_one]
 rw [show (sOf l).length=l.length from List.size_toArray]
 have go:∀ (xs:List Nat) (st:Array Nat×Nat),(forIn (m:=Id) xs st fun i __s=>if (decide (__s.fst.size<l.length+1)&&decide (__s.snd<=i)&&decide (i+(sOf [c]).length<=l.length)&&subAt (sOf l) (sOf [c]) i)=true then pure (ForInStep.yield (__s.fst.push i,i+(sOf [c]).length)) else pure (ForInStep.yield (__s.fst,__s.snd)))=pure (xs.foldl (Jwf l c) st):=by
  intro xs
  induction xs with
  | nil=>exact fun st=>rfl
  | cons x xs ih =>
   intro st
   rw [List.forIn_cons,List.foldl_cons, <- ih]
   unfold Jwf
   by_cases h:(decide (st.1.size<l.length+1)&&decide (st.2<=x)&&decide (x+(sOf [c]).length<=l.length)&&subAt (sOf l) (sOf [c]) x)=true
   ·rw [if_pos h,if_pos h]; rfl
   ·rw [if_neg h,if_neg h]; rfl
 rw [go]; rfl
theorem JBs (c:Nat):∀ (r p:List Nat) (a:Array Nat) (f:Nat),a.size<=p.length->f<=p.length->((List.range' p.length (r.length+1)).foldl (Jwf (p++r) c) (a,f)).1.toList=a.toList++Jhq c r p.length:=by
 intro r
 induction r with
 | nil =>
  intro p a f h1 h2
  have:¬ (decide (a.size<(p++[]).length+1)&&decide (f<=p.length)&&decide (p.length+(sOf [c]).length<=(p++[]).length)&&subAt (sOf (p++[])) (sOf [c]) p.length)=true:=fun z=>by
   rw [Bool.and_eq_true,Bool.and_eq_true,Bool.and_eq_true,decide_eq_true_eq,decide_eq_true_eq,decide_eq_true_eq,List.append_nil] at z
   have:=z.1.2
   rw [show (sOf [c]).length=1 from rfl] at this
   lia
  show (Jwf (p++[]) c (a,f) p.length).1.toList=a.toList++[]
  rw [Jwf,if_neg this,List.append_nil]
 | cons x r ih =>
  intro p a f h1 h2
  have e:p++x::r=(p++[x])++r:=by rw [List.append_assoc]; rfl
  have l1:(p++[x]).length=p.length+1:=by rw [List.length_append]; rfl
  rw [List.length_cons,List.range'_succ,List.foldl_cons]
  have c3:p.length+(sOf [c]).length<=(p++x::r).length:=by rw [show (sOf [c]).length=1 from rfl,List.length_append,List.length_cons]; lia
  have c1:a.size<(p++x::r).length+1:=by rw [List.length_append]; lia
  have s1:subAt (sOf (p++x::r)) (sOf [c]) p.length=decide (x=c):=by
   rw [Jxu _ _ _ (by rw [List.length_append,List.length_cons]; lia),List.getElem_append_right (Nat.le_refl _)]
   simp only [Nat.sub_self,List.getElem_cons_zero]
  have oe:Jwf (p++x::r) c (a,f) p.length=if x=c then (a.push p.length,p.length+1) else (a,f):=by
   unfold Jwf
   rw [s1,decide_eq_true c1,decide_eq_true h2,decide_eq_true c3]
   by_cases h:x=c
   ·rw [if_pos h,decide_eq_true h]; rfl
   ·rw [if_neg h,decide_eq_false h]; rfl
  rw [oe]
  show _=a.toList++(if x=c then p.length::Jhq c r (p.length+1) else Jhq c r (p.length+1))
  by_cases h:x=c
  ·have:=ih (p++[x]) (a.push p.length) (p.length+1) (by rw [Array.size_push,l1]; lia) (by rw [l1]; exact Nat.le_refl _)
   rw [l1, <- e] at this
   rw [if_pos h,if_pos h]
   refine this.trans ?_
   rw [Array.toList_push,List.append_assoc]; rfl
  ·have:=ih (p++[x]) a f (by rw [l1]; lia) (by rw [l1]; lia)
   rw [l1, <- e] at this
   rw [if_neg h,if_neg h]
   exact this
theorem JBr (l:List Nat) (c:Nat):occurrences (sOf l) (sOf [c]) 0 (sOf l).length ((sOf l).length+1)=Jhq c l 0:=(Jte l c).trans (JBs c l [] #[] 0 (Nat.le_refl 0) (Nat.le_refl 0))
noncomputable def JBg (l:List Nat) (cs:List Nat):Nat->List (List Nat):=cs.rec (fun a=>[l.drop a]) fun c V ih a=>((l.drop a).take (c - a))::ih (c+1)
theorem Jfb (l:List Nat) (a b:Nat):strSub (sOf l) a b=sOf ((l.drop a).take (b - a)):=congrArg Str.mk (Array.ext' Array.toList_extract)
theorem Jy4 (l:List Nat):∀ (cs:List Nat) (a:Nat),((a::cs.map (· + 1)).zip (cs++[(sOf l).length])).map (fun (i,j)=>strSub (sOf l) i j)=(JBg l cs a).map sOf:=by
 intro cs
 induction cs with
 | nil =>
  intro a
  show [strSub (sOf l) a (sOf l).length]=[sOf (l.drop a)]
  rw [Jfb,show (sOf l).length=l.length from List.size_toArray, <- List.length_drop,List.take_length]
 | cons c cs ih =>
  intro a
  show strSub (sOf l) a c::(((c+1)::cs.map (· + 1)).zip (cs++[(sOf l).length])).map (fun (i,j)=>strSub (sOf l) i j)=sOf _::(JBg l cs (c+1)).map sOf
  rw [ih,Jfb]
noncomputable def Jb6 (c:Nat) (r:List Nat) (rs:List (List Nat)):List Nat:=rs.rec (fun r=>r) (fun x V ih r=>r++c::ih x) r
theorem Jpf {c:Nat}:∀ (rs:List (List Nat)) (r p:List Nat),c∉r->(∀ x∈rs,c∉x)->JBg (p++Jb6 c r rs) (Jhq c (Jb6 c r rs) p.length) p.length=r::rs:=by
 intro rs
 induction rs with
 | nil =>
  intro r p h1 _
  rw [show Jb6 c r []=r from rfl,Jqc h1]
  show [(p++r).drop p.length]=[r]
  rw [List.drop_left]
 | cons x rs ih =>
  intro r p h1 h2
  have e:Jb6 c r (x::rs)=r++c::Jb6 c x rs:=rfl
  have i1:Jhq c (Jb6 c r (x::rs)) p.length=(p.length+r.length)::Jhq c (Jb6 c x rs) (p.length+r.length+1):=by
   rw [e,Juj,Jqc h1]
   exact if_pos rfl
  have:=ih x (p++(r++[c])) (h2 x (.head _)) fun y hy=>h2 y (.tail _ hy)
  have lp:(p++(r++[c])).length=p.length+r.length+1:=by rw [List.length_append,List.length_append]; rfl
  rw [lp] at this
  rw [i1]
  show (List.take (p.length+r.length - p.length) (List.drop p.length (p++Jb6 c r (x::rs))))::JBg _ _ (p.length+r.length+1)=_
  rw [List.drop_left,Nat.add_sub_cancel_left,e,List.take_left]
  refine congrArg (r :: ·) ?_
  rw [show p++(r++c::Jb6 c x rs)=p++(r++[c])++Jb6 c x rs by simp only [List.append_assoc,List.singleton_append]]
  exact this
theorem Jmz {c:Nat}{r:List Nat}{rs:List (List Nat)}(h1:c∉r) (h2:∀ x∈rs,c∉x):partsBetween (sOf (Jb6 c r rs)) (occurrences (sOf (Jb6 c r rs)) (sOf [c]) 0 (sOf (Jb6 c r rs)).length ((sOf (Jb6 c r rs)).length+1)) (sOf [c]).length=(r::rs).map sOf:=by
 rw [JBr]
 unfold partsBetween
 refine (Jy4 _ _ 0).trans ?_
 have:=Jpf rs r [] h1 h2
 rw [show JBg (Jb6 c r rs) (Jhq c (Jb6 c r rs) 0) 0=r::rs from this]
end
section
open Builtin Builtin.Str
noncomputable def chk (wd:Nat) (l:List Nat):List (List Nat):=(List.range ((l.length+(wd - 1)) / wd)).map fun i=>(l.drop (i*wd)).take wd
section
variable {wd:Nat}{l:List Nat}
theorem Jrl (hw:1<=wd):chk wd []=[]:=by
 unfold chk
 rw [show (([]:List Nat).length+(wd - 1)) / wd=0 from Nat.div_eq_of_lt (by show 0+(wd - 1)<wd; omega)]; rfl
theorem Ji2 (hw:1<=wd) (h:l≠[]):chk wd l=l.take wd::chk wd (l.drop wd):=by
 have h0:0<l.length:=List.length_pos_iff.mpr h
 have e:(l.length+(wd - 1)) / wd=((l.drop wd).length+(wd - 1)) / wd+1:=by
  rw [List.length_drop]
  by_cases c:wd<=l.length
  ·rw [show l.length+(wd - 1)=l.length - wd+(wd - 1)+wd by lia,Nat.add_div_right _ (by lia)]
  ·rw [show l.length - wd=0 by lia,Nat.zero_add,Nat.div_eq_of_lt (show wd - 1<wd by lia),show l.length+(wd - 1)=(l.length - 1)+wd by lia,Nat.add_div_right _ (by lia),Nat.div_eq_of_lt (by lia)]
 unfold chk
 rw [e,List.range_succ_eq_map,List.map_cons,List.map_map,Nat.zero_mul,List.drop_zero]
 refine congrArg (_ :: ·) (List.map_congr_left fun i V=>?_)
 show List.take wd (List.drop ((i+1)*wd) l)=List.take wd (List.drop (i*wd) (List.drop wd l))
 rw [List.drop_drop,Nat.succ_mul,Nat.add_comm]
theorem Jfy:∀ x∈chk wd l,x.length<=wd/\(∀ y∈x,y∈l):=fun x hx=>by
 obtain ⟨i,_,rfl⟩:=List.mem_map.mp hx
 exact ⟨List.length_take_le ..,fun y hy=>List.drop_subset _ _ (List.take_subset _ _ hy)⟩
theorem JDg (hw:1<=wd):∀ x∈chk wd l,x≠[]:=fun x hx=>by
 obtain ⟨i,hi,rfl⟩:=List.mem_map.mp hx
 have hi:=List.mem_range.mp hi
 have:i*wd<l.length:=by
  have:=(Nat.le_div_iff_mul_le (show 0<wd by lia)).mp (Nat.succ_le_of_lt hi)
  rw [Nat.succ_mul] at this
  lia
 intro h
 have:=congrArg List.length h
 rw [List.length_take,List.length_drop,List.length_nil] at this
 lia
theorem Jl0 (hw:1<=wd):(chk wd l).length<=l.length:=by
 rw [chk,List.length_map,List.length_range]
 refine Nat.le_of_lt_succ ((Nat.div_lt_iff_lt_mul (by lia)).mpr ?_)
 rw [Nat.succ_mul]
 have:=Nat.le_mul_of_pos_right l.length (show 0<wd by lia)
 lia
theorem JC4 (hw:1<=wd) {k:Nat->Nat}:∀ {N:Nat}{l:List Nat},l≠[]->(∀ m,m<=N->k m=wd)->l.length<=N->lnL k N l=chk wd l/\lnE k N l:=by
 intro N
 induction N with
 | zero=>exact fun h V z=>(h (List.eq_nil_of_length_eq_zero (Nat.le_zero.mp z))).elim
 | succ N ih =>
  intro l h hk hl
  have hN:k (N+1)=wd:=hk _ (Nat.le_refl _)
  rw [Ji2 hw h]
  have e1:lnL k (N+1) l=l.take (k (N+1))::if l.drop (k (N+1))=[] then [] else lnL k N (l.drop (k (N+1))):=rfl
  have e2:lnE k (N+1) l=(l.drop (k (N+1))=[]\/lnE k N (l.drop (k (N+1)))):=rfl
  rw [e1,e2,hN]
  by_cases c:l.drop wd=[]
  ·rw [if_pos c,c,Jrl hw]
   exact ⟨rfl,.inl rfl⟩
  ·have:=ih c (fun m hm=>hk m (Nat.le_succ_of_le hm)) (by rw [List.length_drop]; lia)
   rw [if_neg c,this.1]
   exact ⟨rfl,.inr this.2⟩
theorem Ju0 (hw:1<=wd) {k:Nat->Nat}{a N:Nat}{t:List Nat}(h1:k (N+1)=a) (hk:∀ m,m<=N->k m=wd) (hl:t.length<=N):lnL k (N+1) t=t.take a::chk wd (t.drop a)/\lnE k (N+1) t:=by
 have e1:lnL k (N+1) t=t.take (k (N+1))::if t.drop (k (N+1))=[] then [] else lnL k N (t.drop (k (N+1))):=rfl
 have e2:lnE k (N+1) t=(t.drop (k (N+1))=[]\/lnE k N (t.drop (k (N+1)))):=rfl
 rw [e1,e2,h1]
 by_cases c:t.drop a=[]
 ·rw [if_pos c,c,Jrl hw]
  exact ⟨rfl,.inl rfl⟩
 ·have:=JC4 hw c hk (by rw [List.length_drop]; lia)
  rw [if_neg c,this.1]
  exact ⟨rfl,.inr this.2⟩
end
section
variable {a b:List Nat}{ps:List (Str×Str)}{i:Int}{ls:List Str}{f:Nat}{m:Nat}
theorem Jbu:sOf a++sOf b=sOf (a++b):=congrArg Str.mk (Array.ext' (Array.toList_append ..))
theorem Jk6 (h:sOf a=sOf b):a=b:=(congrArg (fun x:Str=>x.cps.toList) h :)
theorem JC9:∀ {l:List (List Nat)},Str.join es0 (l.map sOf)=sOf l.flatten:=by
 intro l
 induction l with
 | nil=>rfl
 | cons x l ih =>
  cases l with
  | nil=>exact congrArg sOf (List.append_nil x).symm
  | cons y r =>
   show sOf x++sOf []++Str.join es0 ((y::r).map sOf)=_
   rw [ih,Jbu,Jbu,List.append_nil]; rfl
theorem Jzb {c:Nat}:∀ {l:List (List Nat)}{x:List Nat},Str.join (sOf [c]) ((x::l).map sOf)=sOf (Jb6 c x l):=by
 intro l
 induction l with
 | nil=>exact rfl
 | cons y l ih =>
  intro x
  show sOf x++sOf [c]++Str.join (sOf [c]) ((y::l).map sOf)=_
  rw [ih,Jbu,Jbu,List.append_assoc]; rfl
theorem Jfd:sp1=sOf [32]:=by decide +kernel
theorem Jlv:nlS=sOf [10]:=by decide +kernel
theorem Jmi {ps:List (List Nat×List Nat)}:Jb3 (ps.map fun p=>(sOf p.1,sOf p.2))=sOf (ps.map fun p=>p.1++p.2).flatten:=by
 unfold Jb3
 rw [List.map_map, <- JC9,List.map_map]
 refine congrArg _ (List.map_congr_left fun p V=>?_)
 show sOf p.1++sOf []++sOf p.2=sOf (p.1++p.2)
 rw [Jbu (b:=[]),List.append_nil,Jbu]
theorem JDp:i<=Jaf ps i:=by
 unfold Jaf
 induction ps with
 | nil=>exact Int.le_of_eq (Int.add_zero i).symm
 | cons p ps ih=>rw [List.map_cons,List.sum_cons]; lia
theorem Jkj {x:List Nat}(hi:0<i) (hf:f≠32):nlF [] (List.replicate m trP++[(sOf [f],sOf x)]) i=[sOf (List.replicate m 32++f::x)]:=by
 have h1:Jc9 (List.replicate m trP++[(sOf [f],sOf x)])=List.replicate m trP++[(sOf [f],sOf x)]:=by
  have:Jcm (List.replicate m trP++[(sOf [f],sOf x)])=(sOf [f],sOf x):=by rw [Jcm,List.getLast?_concat]; rfl
  rw [Jc9,this,if_pos (bne_iff_ne.mpr fun e=>hf (List.cons.inj (Jk6 ((Prod.mk.inj e).1.trans Jfd))).1),List.dropLast_concat]
 have h2:Jb3 (List.replicate m trP++[(sOf [f],sOf x)])=sOf (List.replicate m 32++f::x):=by
  have:=Jmi (ps:=List.replicate m ([32],[])++[([f],x)])
  rw [List.map_append,List.map_replicate] at this
  rw [show trP=(sOf [32],sOf []) by decide +kernel]
  refine this.trans (congrArg sOf ?_)
  rw [List.map_append,List.map_replicate,List.flatten_append]
  show (List.replicate m [32]).flatten++(f::x++[])=_
  rw [List.append_nil,List.flatten_replicate_singleton]
 unfold nlF
 rw [h1,h2,if_pos (decide_eq_true (Int.lt_of_lt_of_le hi JDp)),Ji7,Je9,show (i==0)=false from beq_eq_false_iff_ne.mpr (by lia)]
 rfl
theorem Jyl {x:List Nat}(hx:∃ y∈x,Unicode.isSpace y=false):nlF ls [(sp1,sOf x)] 0=ls++[sOf (32::x)]:=by
 obtain ⟨y,hy,hs⟩:=hx
 have hn:x≠[]:=fun e=>List.not_mem_nil (e▸hy)
 have h1:Jc9 [(sp1,sOf x)]=[(sp1,sOf x)]:=if_pos (show ((sp1,sOf x) != (sp1,es0))=true from bne_iff_ne.mpr fun e=>hn (Jk6 (Prod.mk.inj e).2))
 have h2:Jb3 [(sp1,sOf x)]=sOf (32::x):=by
  have:=Jmi (ps:=[([32],x)])
  rw [Jfd]
  refine this.trans (congrArg sOf ?_)
  exact List.append_nil _
 have h3:Jaf [(sp1,sOf x)] 0=1+x.length:=by
  show (0:Int)+((((sp1.length:Nat):Int)+((sOf x).length:Int))+0)=_
  have e1:sp1.length=1:=by decide +kernel
  have e2:=Ja7 x
  lia
 have h4:Je9 [(sp1,sOf x)] 0=false:=by
  unfold Je9
  rw [h3,h2,show ((1+(x.length:Int)) != 0)=true from bne_iff_ne.mpr (by lia)]
  show (true&&(false||(decide _&&(sOf (32::x)).cps.all _)))=false
  rw [show (sOf (32::x)).cps.all Unicode.isSpace=false from by
   rw [Array.all_eq_false']
   exact ⟨y,List.mem_toArray.mpr (.tail _ hy),by rw [hs]; nofun⟩,Bool.and_false]
  rfl
 unfold nlF
 rw [h1,h2,h3,h4,if_pos (decide_eq_true (by lia))]; rfl
end
end
section
open Builtin Builtin.Str
section
variable {c:Nat}{x0:List Nat}{rest:List (List Nat)}{i:Int}{m hd wd:Nat}{l:List Str}{B:Nat}{sep:Str}
theorem Jij (h:∀ x∈l,x.length+sep.length<=B):Jgi sep l<=l.length*B:=by
 have go:∀ (l:List Str) (k:Nat),(∀ x∈l,x.length+sep.length<=B)->l.foldl (fun n p=>n+p.length+sep.length) k<=k+l.length*B:=by
  intro l
  induction l with
  | nil=>exact fun k V=>Nat.le_add_right k _
  | cons x l ih =>
   intro k h
   have h1:=h x (.head _)
   have h2:=ih (k+x.length+sep.length) fun y hy=>h y (.tail _ hy)
   rw [List.length_cons,Nat.succ_mul]
   exact Nat.le_trans h2 (by lia)
 have:=go l 0 h
 rwa [Nat.zero_add] at this
theorem Jgp {α:Type}{l:List α}:l=[]\/∃ r x,l=r++[x]:=(List.eq_nil_or_concat l).imp id fun ⟨r,x,e⟩=>⟨r,x,by rw [e,List.concat_eq_append]⟩
noncomputable abbrev Sgn (l:List Nat):Prop:=∀ y∈l,65<=y/\y<=80
theorem JBc {y:Nat}(h:65<=y/\y<=80):Unicode.isSpace y=false:=by
 obtain ⟨k,rfl⟩:∃ k,y=65+k:=⟨y - 65,by lia⟩
 have hk:k<16:=by lia
 exact (by decide +kernel:∀ k,k<16->Unicode.isSpace (65+k)=false) k hk
theorem Jv2 (hi:0<i) (hc:c≠32) (hr:∀ x∈rest,Sgn x/\x≠[]):nlF (Jga sp1 (sOf [c]) [] (List.replicate m trP) i x0 rest).1 (Jga sp1 (sOf [c]) [] (List.replicate m trP) i x0 rest).2.1 (Jga sp1 (sOf [c]) [] (List.replicate m trP) i x0 rest).2.2=((List.replicate m 32++c::x0)::rest.map fun x=>32::x).map sOf:=by
 have h0:=Jkj (m:=m) (x:=x0) hi hc
 unfold Jga
 rcases Jgp (l:=rest) with rfl | ⟨r,xl,rfl⟩
 ·exact h0
 ·rw [List.getLast?_concat,List.dropLast_concat]
  obtain ⟨h1,h2⟩:=hr xl (List.mem_append_right _ (.head _))
  show nlF (nlF [] (List.replicate m trP++[(sOf [c],sOf x0)]) i++Jtn sp1 r) [(sp1,sOf xl)] 0=_
  rw [Jyl (by
   cases xl with
   | nil=>exact (h2 rfl).elim
   | cons y xl=>exact ⟨y,.head _,JBc (h1 y (.head _))⟩),h0,List.map_cons,List.map_append,List.map_append]
  show sOf _::(Jtn sp1 r++[sOf (32::xl)])=sOf _::(_++[sOf (32::xl)])
  refine congrArg (fun z=>sOf _::(z++_)) ?_
  rw [List.map_map]
  refine List.map_congr_left fun x V=>?_
  show sp1++sOf x=sOf (32::x)
  rw [Jfd,Jbu]; rfl
theorem Jqs (hi:0<=i/\i<=1000) (hm:m<=700) (h0:0<i) (hc:65<=c/\c<=80) (hx:Sgn x0/\x0.length<=900) (hr:∀ x∈rest,Sgn x/\x≠[]/\x.length<=900) (hl:rest.length<=390):Jcg (Jga sp1 (sOf [c]) [] (List.replicate m trP) i x0 rest):=by
 have ok:∀ {x},Sgn x->PyData.strOk (sOf x)=true:=fun {x} h=>Array.all_eq_true'.mpr fun y hy=>decide_eq_true (by have:=h y (List.mem_toArray.mp hy); lia)
 have h1:=Jkj (m:=m) (x:=x0) h0 (show c≠32 by lia)
 unfold Jga
 rcases Jgp (l:=rest) with rfl | ⟨r,xl,rfl⟩
 ·refine ⟨by show (List.replicate m trP++[_]).length<=800; rw [List.length_append,List.length_replicate,List.length_singleton]; lia,fun x hx'=>?_,fun x hx'=>?_,hi,Nat.zero_le _,fun V h=>(List.not_mem_nil h).elim⟩
  ·rcases List.mem_append.mp hx' with h | h
   ·rw [List.eq_of_mem_replicate h]; decide
   ·rw [List.mem_singleton.mp h]
    exact ⟨by show (sOf [c]).length<=1000; rw [Ja7]; exact (by decide:1<=1000),by show (sOf x0).length<=1000; rw [Ja7]; lia⟩
  ·rcases List.mem_append.mp hx' with h | h
   ·rw [List.eq_of_mem_replicate h]; decide +kernel
   ·rw [List.mem_singleton.mp h]
    exact ⟨ok fun y hy=>List.mem_singleton.mp hy▸hc,ok hx.1⟩
 ·rw [List.getLast?_concat,List.dropLast_concat]
  obtain ⟨h2,h3,h4⟩:=hr xl (List.mem_append_right _ (.head _))
  have hl':r.length+1<=390:=by rw [List.length_append] at hl; exact hl
  show Jcg (nlF [] (List.replicate m trP++[(sOf [c],sOf x0)]) i++Jtn sp1 r,[(sp1,sOf xl)],0)
  rw [h1]
  refine ⟨(by decide:1<=800),fun x hx'=>?_,fun x hx'=>?_,(by decide:(0:Int)<=0/\(0:Int)<=1000),?_,fun x hx'=>?_⟩
  ·rw [List.mem_singleton.mp hx']
   exact ⟨(by decide +kernel:sp1.length<=1000),by show (sOf xl).length<=1000; rw [Ja7]; lia⟩
  ·rw [List.mem_singleton.mp hx']
   exact ⟨(by decide +kernel:PyData.strOk sp1=true),ok h2⟩
  ·show ([_]++Jtn sp1 r).length<=900
   rw [List.length_append,List.length_map,List.length_singleton]; lia
  ·rcases List.mem_append.mp hx' with h | h
   ·rw [List.mem_singleton.mp h,Ja7,List.length_append,List.length_cons,List.length_replicate]; lia
   ·obtain ⟨y,hy,rfl⟩:=List.mem_map.mp h
    have:=hr y (List.mem_append_left _ hy)
    rw [Jfd,Jbu,Ja7,List.length_append,List.length_singleton]; lia
theorem Jpa (k:Nat):Jjt sp1 ((k+1:Nat):Int)=sOf (List.replicate (k+1) 32):=by
 unfold Jjt
 rw [if_neg (by lia)]
 by_cases h:k=0
 ·subst h; rw [if_pos (by decide)]; exact Jfd
 ·rw [if_neg (by
   rw [Bool.or_eq_true,beq_iff_eq,beq_iff_eq]
   rintro (h' | h')
   ·lia
   ·revert h'; decide),show ((k+1:Nat):Int).toNat=k+1 from rfl,show sp1.cps = #[32] by decide +kernel]
  have go:∀ (k:Nat) (a:Array Nat),(List.replicate k #[32]).foldl (· ++ ·) a=a++(List.replicate k 32).toArray:=by
   intro k
   induction k with
   | zero=>exact fun a=>(Array.append_empty).symm
   | succ k ih =>
    intro a
    rw [List.replicate_succ,List.foldl_cons,ih,List.replicate_succ]
    apply Array.ext'
    simp only [Array.toList_append,List.append_assoc]; rfl
  rw [go]
  exact congrArg Str.mk (Array.empty_append)
noncomputable abbrev Je5 (hd wd:Nat) (wl:List Nat):List Str:=(chk wd (List.replicate hd 32++wl)).map fun r=>sOf (32::r)
theorem Jud (x:Str):1<=Str.strKind x:=by
 unfold Str.strKind
 by_cases a:x.cps.all (· < 256)=true
 ·rw [if_pos a]; decide
 ·rw [if_neg a]
  by_cases b:x.cps.all (· < 65536)=true
  ·rw [if_pos b]; decide
  ·rw [if_neg b]; decide
theorem Jgj {r:List Nat}{rs:List (List Nat)}(h1:10∉r) (h2:∀ x∈rs,10∉x) (h3:r≠[]):Txt.split (Str.join nlS ((r::rs).map sOf)) nlS=(r::rs).map sOf/\(partsBetween (Str.join nlS ((r::rs).map sOf)) (occurrences (Str.join nlS ((r::rs).map sOf)) nlS 0 (Str.join nlS ((r::rs).map sOf)).length ((Str.join nlS ((r::rs).map sOf)).length+1)) nlS.length)=(r::rs).map sOf:=by
 have e:=Jmz h1 h2
 rw [Jlv,Jzb]
 refine ⟨?_,e⟩
 have hl:1<=(Jb6 10 r rs).length:=by
  cases rs with
  | nil=>exact List.length_pos_iff.mpr h3
  | cons y rs=>rw [show Jb6 10 r (y::rs)=r++10::Jb6 10 y rs from rfl,List.length_append,List.length_cons]; lia
 unfold Txt.split
 rw [decide_eq_false (show ¬ (sOf (Jb6 10 r rs)).length<(sOf [10]).length by rw [Ja7,Ja7]; exact Nat.not_lt.mpr hl),decide_eq_false (show ¬ Str.strKind (sOf (Jb6 10 r rs))<Str.strKind (sOf [10]) by rw [show Str.strKind (sOf [10])=1 by decide +kernel]; exact Nat.not_lt.mpr (Jud _))]
 cases hf:(occurrences (sOf (Jb6 10 r rs)) (sOf [10]) 0 (sOf (Jb6 10 r rs)).length ((sOf (Jb6 10 r rs)).length+1)).isEmpty
 ·exact e
 ·rw [List.isEmpty_iff.mp hf] at e
  show [sOf (Jb6 10 r rs)]=_
  rw [<- e]
  show _=[strSub _ 0 _]
  rw [Jfb,List.drop_zero,Nat.sub_zero,Ja7,List.take_length]
end
end
section
open Builtin Builtin.Str
noncomputable abbrev asc (x:Str):Prop:=x.cps.all (· < 128)=true
noncomputable abbrev SIt (h:Heap) (i:Addr) (x:Str) (t:Tok) (k:Nat):Prop:=h.IsStrIter i "str_ascii_iterator" x t k
theorem Jgl {h h':Heap}{i:Addr}{x:Str}{t:Tok}{k:Nat}(st:SIt h i x t k) (hk:∀ o,h.get? i=some o->h'.get? i=some o):SIt h' i x t k:=st.imp fun o e=>⟨hk o e.1,e.2⟩
section
variable {prog:Program}{w:World}{A:Around}{E:Value->Shared->Prop}{s:Shared}{z TI TO i1 i2 l1 l2:Addr}{x y:Str}{t u:Tok}{k c d:Nat}{a b:Value}
theorem Jo4 {Q:Option Value->Shared->Prop}(hh:A.handled=none) (D:ZipApart z TI TO i1 i2 l1 l2) (hz:IsZip s.heap z TI TO .none) (hTI:IsPair s.heap TI (.ref i1) (.ref i2)) (hTO:IsPair s.heap TO a b) (h1:SIt s.heap i1 x t k) (h2:SIt s.heap i2 y u k)
  (hQ:∀ c d,x.cps[k]?=some c->y.cps[k]?=some d->∀ h',IsZip h' z TI TO (rawInt s.heap.objs.size)->IsPair h' TO (.str ⟨#[c]⟩ s.toks) (.str ⟨#[d]⟩ (s.toks+1))->SIt h' i1 x t (k+1)->SIt h' i2 y u (k+1)->IsPair h' s.heap.objs.size (.str ⟨#[c]⟩ s.toks) (.str ⟨#[d]⟩ (s.toks+1)) ->
   (∀ c o,c≠z->c≠TO->c≠i1->c≠i2->s.heap.get? c=some o->h'.get? c=some o)->Q (some (.ref s.heap.objs.size)) { s with heap:=h',toks:=s.toks+1+1 })
  (hE:(x.cps[k]?=none\/y.cps[k]?=none)->∀ h' tk,(∀ c o,c≠z->c≠TO->c≠i1->c≠i2->s.heap.get? c=some o->h'.get? c=some o)->Q none { s with heap:=h',toks:=tk }):wpAny (model prog w) A (pyNext (.ref z)) Q E s:=by
 have hT:s.TypeIs (.ref z) "zip" := ⟨_,hz,rfl⟩
 unfold pyNext
 refine wpAny_bind (wpAny_attempt (wpAny_callSpecial?_slot (name:=Str.ofString "__next__") hT F.slot_zip_next (wpAny_call_entry F.slot_zip_next hT F.entry_zip_next ?_ (F.args_zip_next_1 _))))
 show wpAny _ _ (field (.ref z) 2 >>= _) _ _ _
 refine wpAny_bind (wpAny_field hz rfl (x:=.bool false) rfl ?_)
 show wpAny _ _ (field (.ref z) 3 >>= _) _ _ _
 refine wpAny_bind (wpAny_field hz rfl (x:=.ref TI) rfl ?_)
 refine wpAny_bind (wpAny_seqItems hTI rfl ?_)
 show wpAny _ _ (Builtin.SmallTypes.ownedTupleIsFree (.ref z) >>= _) _ _ _
 refine wpAny_bind ?_
 unfold Builtin.SmallTypes.ownedTupleIsFree
 refine wpAny_bind (wpAny_field hz rfl (x:=.none) rfl (wpAny_pure ?_))
 rw [if_pos rfl]
 refine wpAny_bind (wpAny_rule (wpAny_bind (wpAny_field hz rfl (x:=.ref TO) rfl (wpAny_bind (wpAny_setField_rec hz (by simp) fun h₁ hz1 hs1=>?_)))))
 replace hz1:IsZip h₁ z TI TO .ellipsis:=hz1
 refine wpAny_bind ?_
 rw [List.zipIdx_cons,List.zipIdx_cons,List.zipIdx_nil,List.forIn_cons]
 have raised:∀ {h₂:Heap}{e:Addr}{o:Obj},IsZip h₂ z TI TO .ellipsis->h₂.get? e=some o->o.cls=.type "StopIteration" -> e≠z:=fun hz2 hoe hce q=>by
  subst q
  cases Jav hoe hz2
  exact absurd hce (by simp)
 have stop:∀ {h₂ h₃:Heap}{e:Addr}{tk:Nat},IsZip h₂ z TI TO .ellipsis->(∃ o,h₂.get? e=some o/\o.cls=.type "StopIteration")->Heap.SameBut z h₂ h₃->(x.cps[k]?=none\/y.cps[k]?=none)->(∀ c o,c≠z->c≠TO->c≠i1->c≠i2->s.heap.get? c=some o->h₃.get? c=some o)->wpAny (model prog w) A (isInstance (.ref e) (.type "StopIteration")) (fun b s'=>wpAny (model prog w) A (if b=true then pure none else throw (.ref e)) Q E s') E { s with heap:=h₃,toks:=tk }:=fun hz2 he hsC hn hk=>
  he.elim fun oe p=>wpAny_isInstance (T := "StopIteration") (b:=true) ⟨oe,hsC.extBut _ _ (raised hz2 p.1 p.2) p.1,p.2⟩ isSubtype_stop (wpAny_pure (hE hn _ _ hk))
 refine wpAny_bind (wpAny_bind (wpAny_onRaise ?_))
 show wpAny _ _ (Builtin.SmallTypes.nextOf (.ref i1) >>= _) _ _ _
 cases hx:x.cps[k]? with
 | none =>
  refine wpAny_bind (wpAny_nextOf_ascii_end hh (h1.extBut hs1.extBut D.i1z) hx fun h₂ e hsB he=>?_)
  have hz2:IsZip h₂ z TI TO .ellipsis:=hsB _ _ D.i1z.symm hz1
  exact wpAny_setField_rec hz2 (by simp) fun h₃ V hsC=>wpAny_bind (stop hz2 he hsC (.inl hx) fun c o c1 V c3 V q=>hsC.extBut _ _ c1 (hsB _ _ c3 (hs1.extBut _ _ c1 q)))
 | some c =>
  refine wpAny_bind (wpAny_nextOf_ascii_item (h1.extBut hs1.extBut D.i1z) hx fun h₂ h1B hsB=>wpAny_pure ?_)
  have hTO2:IsPair h₂ TO a b:=hsB.extBut _ _ D.TOi1 (hs1.extBut _ _ D.TOz hTO)
  refine wpAny_bind (wpAny_seqItems hTO2 rfl (wpAny_bind (wpAny_updateSeq_pair hTO2 fun h₃ hTO3 hsC=>?_)))
  replace hTO3:IsPair h₃ TO (.str ⟨#[c]⟩ s.toks) b:=hTO3
  refine wpAny_bind (wpAny_letGo (wpAny_pure (wpAny_bind (wpAny_bind (wpAny_onRaise ?_)))))
  show wpAny _ _ (Builtin.SmallTypes.nextOf (.ref i2) >>= _) _ _ _
  have h23:=((h2.extBut hs1.extBut D.i2z).extBut hsB.extBut D.i12.symm).extBut hsC.extBut D.TOi2.symm
  cases hy:y.cps[k]? with
  | none =>
   refine wpAny_bind (wpAny_nextOf_ascii_end hh h23 hy fun h₄ e hsD he=>?_)
   have hz4:IsZip h₄ z TI TO .ellipsis:=hsD _ _ D.i2z.symm (hsC.extBut _ _ D.TOz.symm (hsB.extBut _ _ D.i1z.symm hz1))
   exact wpAny_setField_rec hz4 (by simp) fun h₅ V hs5=>wpAny_bind (stop hz4 he hs5 (.inr hy) fun c o c1 c2 c3 c4 q=>hs5.extBut _ _ c1 (hsD _ _ c4 (hsC.extBut _ _ c2 (hsB.extBut _ _ c3 (hs1.extBut _ _ c1 q)))))
  | some d =>
   refine wpAny_bind (wpAny_nextOf_ascii_item h23 hy fun h₄ h24 hsD=>wpAny_pure ?_)
   have hTO4:IsPair h₄ TO (.str ⟨#[c]⟩ s.toks) b:=hsD.extBut _ _ D.TOi2 hTO3
   refine wpAny_bind (wpAny_seqItems hTO4 rfl (wpAny_bind (wpAny_updateSeq_pair hTO4 fun h₅ hTO5 hs5=>?_)))
   replace hTO5:IsPair h₅ TO (.str ⟨#[c]⟩ s.toks) (.str ⟨#[d]⟩ (s.toks+1)):=hTO5
   refine wpAny_bind (wpAny_letGo (wpAny_pure (wpAny_pure ?_)))
   refine wpAny_bind (wpAny_seqItems hTO5 rfl (wpAny_bind (wpAny_newTuple ?_)))
   have hsz:h₅.objs.size=s.heap.objs.size:=by rw [hs5.1,hsD.1,hsC.1,hsB.1,hs1.1]
   have hz5:IsZip h₅ z TI TO .ellipsis:=hs5.extBut _ _ D.TOz.symm (hsD.extBut _ _ D.i2z.symm (hsC.extBut _ _ D.TOz.symm (hsB.extBut _ _ D.i1z.symm hz1)))
   have hk5:∀ c o,c≠z->c≠TO->c≠i1->c≠i2->s.heap.get? c=some o->h₅.get? c=some o:=fun c o c1 c2 c3 c4 e=>hs5.extBut _ _ c2 (hsD.extBut _ _ c4 (hsC.extBut _ _ c2 (hsB.extBut _ _ c3 (hs1.extBut _ _ c1 e))))
   have h1E:SIt h₅ i1 x t (k+1):=((h1B.extBut hsC.extBut D.TOi1.symm).extBut hsD.extBut D.i12).extBut hs5.extBut D.TOi1.symm
   have h25:SIt h₅ i2 y u (k+1):=h24.extBut hs5.extBut D.TOi2.symm
   show wpAny _ _ (Builtin.SmallTypes.ownedTupleHandOut (.ref z) (.ref h₅.objs.size) >>= _) _ _ _
   refine wpAny_bind ?_
   unfold Builtin.SmallTypes.ownedTupleHandOut
   have hz6:IsZip (h₅.push { cls:=.type "tuple",data:=.seq #[.str ⟨#[c]⟩ s.toks,.str ⟨#[d]⟩ (s.toks+1)] }) z TI TO .ellipsis:=Heap.get?_push_of_some _ hz5
   refine wpAny_bind (wpAny_setField_rec hz6 (by simp) fun hG hz7 hs7=>?_)
   replace hz7:IsZip hG z TI TO (rawInt h₅.objs.size):=hz7
   refine wpAny_setField_rec hz7 (by simp) fun h8 hz8 hs8=>?_
   replace hz8:IsZip h8 z TI TO (rawInt h₅.objs.size):=hz8
   have up:∀ c o,c≠z->h₅.get? c=some o->h8.get? c=some o:=fun c o c1 e=>hs8.extBut _ _ c1 (hs7.extBut _ _ c1 (Heap.get?_push_of_some _ e))
   have hTH:=hs8.extBut _ _ (Nat.ne_of_gt (Heap.lt_size hz5)) (hs7.extBut _ _ (Nat.ne_of_gt (Heap.lt_size hz5)) (Heap.get?_push_size h₅ (o:={ cls:=.type "tuple",data:=.seq #[.str ⟨#[c]⟩ s.toks,.str ⟨#[d]⟩ (s.toks+1)] }) rfl))
   rw [hsz] at hz8 hTH
   refine wpAny_pure ⟨_,rfl,wpAny_pure ?_⟩
   show Q (some (.ref h₅.objs.size)) _
   rw [hsz]
   exact hQ c d hx hy h8 hz8 (up _ _ D.TOz hTO5) (Jgl h1E fun o e=>up _ o D.i1z e) (Jgl h25 fun o e=>up _ o D.i2z e) hTH fun c o c1 c2 c3 c4 e=>up c o c1 (hk5 c o c1 c2 c3 c4 e)
end
section
variable {prog:Program}{w:World}{A:Around}{E:Value->Shared->Prop}{g:Heap}{T:Ja3}{s s':Shared}{av:List Addr}{h h0:Heap}{K:Prop}{n:Nat}{sc:Scope}{σ:Sto}{eA eB:Expr}{f:Str}{p pos p':Pos}{es es':List Expr}{k':Nat}{x y:Str}{t u:Tok}
structure JHz (z TI TO i1 i2:Addr) (x:Str) (t:Tok) (y:Str) (u:Tok) (i:Nat) (h:Heap):Prop where
 z:IsZip h z TI TO .none
 p:IsPair h TI (.ref i1) (.ref i2)
 o:∃ a b,IsPair h TO a b
 a:SIt h i1 x t i
 b:SIt h i2 y u i
theorem Jq4 {i:Addr}{k:Nat}(st:SIt h i x t k):ItO K h i:=let ⟨_,e,hc,hd⟩:=st; Jca e hd (by rw [hc]; nofun) nofun
theorem Jmd {i:Nat}{d:D}(h:(Jee x)[i]?=some d):∃ c,x.cps[i]?=some c/\d=.str ⟨#[c]⟩:=by
 rw [Jee,List.getElem?_map] at h
 obtain ⟨c,hc,rfl⟩:=Option.map_eq_some_iff.mp h
 exact ⟨c,by simpa using hc,rfl⟩
theorem Wkr.zipS {es:List Expr}{k:Nat}{p:Pos}{z TI TO i1 i2 l1 l2:Addr}(hs:∀ b∈[z,TI,TO,i1,i2],b∈av) (Dz:ZipApart z TI TO i1 i2 l1 l2) :
  Wkr prog w False av [z,TI,TO,i1,i2] h0 (.Tuple es k p) (.ref z) (JB1 (Jee x) (Jee y)) (JHz z TI TO i1 i2 x t y u) where
 sub:=hs
 frame:=fun i h h' st hk V V=>⟨hk z (.head _) _ st.z,hk TI (.tail _ (.head _)) _ st.p,st.o.imp fun a=>Exists.imp fun b e=>hk TO (.tail _ (.tail _ (.head _))) _ e,Jgl st.a fun o eo=>hk i1 (.tail _ (.tail _ (.tail _ (.head _)))) o eo,Jgl st.b fun o eo=>hk i2 (.tail _ (.tail _ (.tail _ (.tail _ (.head _))))) o eo⟩
 obj:=fun i h st=>JGv (Jca st.z rfl nofun nofun) (Jm0 st.p) (st.o.elim fun V o=>o.elim fun V o=>Jm0 o) (Jq4 st.a) (Jq4 st.b)
 item:=fun A i d s Z hh hZ hZs hlt hd st k=>by
  obtain ⟨d1,d2,hd1,hd2,rfl⟩:=List.getElem?_zipWith_eq_some.mp hd
  obtain ⟨c,hc,rfl⟩:=Jmd hd1
  obtain ⟨e,he,rfl⟩:=Jmd hd2
  obtain ⟨a,b,so⟩:=st.o
  refine Jo4 hh Dz st.z st.p so st.a st.b (fun c' e' hc' he' h' b1 b2 b3 b4 b5 b7=>?_) fun hn=>hn.elim (fun q=>nomatch q.symm.trans hc) fun q=>nomatch q.symm.trans he
  cases Jav hc hc'
  cases Jav he he'
  refine ⟨wpAny_letOwnedTupleGo_zip b1 fun h'' c1 c2=>?_⟩
  have nez:s.heap.objs.size≠z:=fun q=>nos (Ja8 s.heap) (q▸st.z)
  have on:Jmk [z,TI,TO,i1,i2] s { s with heap:=h'',toks:=s.toks+1+1 }:=⟨rfl,rfl,rfl,fun b o n eo=>(c2.2 b (fun q=>n (q▸.head _))).trans (b7 b o (fun q=>n (q▸.head _)) (fun q=>n (q▸.tail _ (.tail _ (.head _)))) (fun q=>n (q▸.tail _ (.tail _ (.tail _ (.head _))))) (fun q=>n (q▸.tail _ (.tail _ (.tail _ (.tail _ (.head _)))))) eo)⟩
  exact ⟨.tup (vs:=[_,_]) (n:=0) (fun q=>hZs _ q (Ja8 _)) ((c2.2 _ nez).trans b5) (.cons (.str _ _) (.cons (.str _ _) .nil)),
   ⟨c1,(c2.2 TI Dz.TIz).trans (b7 TI _ Dz.TIz Dz.TITO Dz.TIi1 Dz.TIi2 st.p),⟨_,_,(c2.2 TO Dz.TOz).trans b2⟩,Jgl b3 fun o eo=>(c2.2 i1 Dz.i1z).trans eo,Jgl b4 fun o eo=>(c2.2 i2 Dz.i2z).trans eo⟩,on⟩
 done:=fun A s hh st k=>by
  obtain ⟨a,b,so⟩:=st.o
  have hend:x.cps[(JB1 (Jee x) (Jee y)).length]?=none\/y.cps[(JB1 (Jee x) (Jee y)).length]?=none:=by
   rw [Array.getElem?_eq_none_iff,Array.getElem?_eq_none_iff,JB1,List.length_zipWith,Jee,Jee,List.length_map,List.length_map,Array.length_toList,Array.length_toList]
   lia
  refine Jo4 hh Dz st.z st.p so st.a st.b (fun c d hc hd=>?_) fun V h' tk hk=>⟨rfl,rfl,rfl,rfl,fun b o n eo=>
   hk b o (fun q=>n (q▸.head _)) (fun q=>n (q▸.tail _ (.tail _ (.head _)))) (fun q=>n (q▸.tail _ (.tail _ (.tail _ (.head _))))) (fun q=>n (q▸.tail _ (.tail _ (.tail _ (.tail _ (.head _)))))) eo⟩
  exact hend.elim (fun q=>nomatch q.symm.trans hc) fun q=>nomatch q.symm.trans hd
 self:=fun A i s Q hh st hQ=>wpAny_pyIter_zip st.z hQ
noncomputable abbrev zs1 (h:Heap) (x:Str) (t:Tok):Heap:=h.push { cls:=.type "str_ascii_iterator",data:=.fields #[.str x t,.int 0 0] }
noncomputable abbrev zs2 (h:Heap) (x:Str) (t:Tok) (y:Str) (u:Tok):Heap:=zs1 (zs1 h x t) y u
noncomputable abbrev zs3 (h:Heap) (x:Str) (t:Tok) (y:Str) (u:Tok):Heap:=(zs2 h x t y u).push { cls:=.type "tuple",data:=.seq #[.ref h.objs.size,.ref (zs1 h x t).objs.size] }
noncomputable abbrev zs4 (h:Heap) (x:Str) (t:Tok) (y:Str) (u:Tok):Heap:=(zs3 h x t y u).push { cls:=.type "tuple",data:=.seq #[.none,.none] }
noncomputable abbrev zs5 (h:Heap) (x:Str) (t:Tok) (y:Str) (u:Tok):Heap:=(zs4 h x t y u).push { cls:=.type "zip",data:=.fields #[.none,.bool false,.bool false,.ref (zs2 h x t y u).objs.size,.ref (zs3 h x t y u).objs.size] }
theorem Jnc (ha:asc x) (hb:asc y):Meets (Builtin.«zip.__new__» ⟨[.type "zip",.str x t,.str y u],[]⟩) (fun V R s=>R (.ok (.ret (.ref (zs4 s.heap x t y u).objs.size))) { s with heap:=zs5 s.heap x t y u }) :=
 .of_wp fun prog w A R s h=>by
  have k:wpAny (model prog w) A.in1 (SmallTypes.newClass "zip" ⟨[.type "zip",.str x t,.str y u],[]⟩) (fun a s'=>a=(.type "zip",[.str x t,.str y u])/\s'=s) (fun e s'=>R (Except.error e) s') s:=by
   unfold SmallTypes.newClass
   refine wpAny_bind (m:=isType (.type "zip")) (wpAny_pure (wpAny_bind ?_))
   rw [sub_zip]
   exact wpAny_pure (wpAny_pure ⟨rfl,rfl⟩)
  have i:wpAny (model prog w) A.in1 (SmallTypes.iterAll [.str x t,.str y u]) (fun a s'=>a=[.ref s.heap.objs.size,.ref (zs1 s.heap x t).objs.size]/\s'={ s with heap:=zs2 s.heap x t y u }) (fun e s'=>R (Except.error e) s') s:=by
   unfold SmallTypes.iterAll
   dsimp only
   rw [List.forIn_cons]
   refine wpAny_bind (wpAny_bind (wpAny_bind (wpAny_holding (wpAny_pyIter_ascii ha (wpAny_pure (wpAny_bind (wpAny_bind (wpAny_holding (wpAny_pyIter_ascii hb (wpAny_pure (wpAny_pure ?_)))))))))))
   exact wpAny_pure ⟨rfl,rfl⟩
  unfold Builtin.«zip.__new__»
  refine wpAny_bind (wpAny_mono k (fun a s' q=>?_) fun V V q=>q)
  obtain ⟨rfl,rfl⟩:=q
  refine wpAny_bind (wpAny_mono i (fun a s' q=>?_) fun V V q=>q)
  obtain ⟨rfl,rfl⟩:=q
  refine wpAny_bind (wpAny_newTuple (wpAny_bind (wpAny_newTuple (wpAny_bind ?_))))
  show wpAny _ _ (newObj (.type "zip") (.fields #[.none,.bool false,.bool false,.ref (zs2 s'.heap x t y u).objs.size,.ref (zs3 s'.heap x t y u).objs.size])) _ _ _
  exact wpAny_newObj_type (wpAny_pure ⟨_,rfl,h⟩)
theorem Jro {Q:Value->Shared->Prop}(ha:asc x) (hb:asc y)
  (h:∀ h',IsZip h' (s.heap.objs.size+4) (s.heap.objs.size+2) (s.heap.objs.size+3) .none->IsPair h' (s.heap.objs.size+2) (.ref s.heap.objs.size) (.ref (s.heap.objs.size+1))->IsPair h' (s.heap.objs.size+3) .none .none->SIt h' s.heap.objs.size x t 0->SIt h' (s.heap.objs.size+1) y u 0 ->
   (∀ c o,s.heap.get? c=some o->h'.get? c=some o)->Q (.ref (s.heap.objs.size+4)) { s with heap:=h' }) :
  wpAny (model prog w) A (call (.type "zip") [.str x t,.str y u]) Q E s:=by
 refine callType_new F.called_zip (by decide) (F.typeCall_zip_2 _ _) (F.newCall_zip_2 _ _) (fun obj=>F.args_object_init_3 obj _ _) F.entry_zip_new (Jnc ha hb) ?_
 have z1:(zs1 s.heap x t).objs.size=s.heap.objs.size+1:=Heap.size_push ..
 have z2:(zs2 s.heap x t y u).objs.size=s.heap.objs.size+2:=by rw [Heap.size_push,z1]
 have z3:(zs3 s.heap x t y u).objs.size=s.heap.objs.size+3:=by rw [Heap.size_push,z2]
 have z4:(zs4 s.heap x t y u).objs.size=s.heap.objs.size+4:=by rw [Heap.size_push,z3]
 have g5:(zs5 s.heap x t y u).get? (zs4 s.heap x t y u).objs.size=some _:=Heap.get?_push_size _ rfl
 have g4:(zs5 s.heap x t y u).get? (zs3 s.heap x t y u).objs.size=some _:=Heap.get?_push_of_some _ (Heap.get?_push_size _ rfl)
 have g3:(zs5 s.heap x t y u).get? (zs2 s.heap x t y u).objs.size=some _:=Heap.get?_push_of_some _ (Heap.get?_push_of_some _ (Heap.get?_push_size _ rfl))
 have g2:(zs5 s.heap x t y u).get? (zs1 s.heap x t).objs.size=some _:=Heap.get?_push_of_some _ (Heap.get?_push_of_some _ (Heap.get?_push_of_some _ (Heap.get?_push_size _ rfl)))
 have g1:(zs5 s.heap x t y u).get? s.heap.objs.size=some _:=Heap.get?_push_of_some _ (Heap.get?_push_of_some _ (Heap.get?_push_of_some _ (Heap.get?_push_of_some _ (Heap.get?_push_size _ rfl))))
 show _/\_
 rw [z2,z3,z4] at g5
 rw [z1,z2] at g3
 rw [z3] at g4
 rw [z1] at g2
 rw [z4]
 exact ⟨⟨_,g5,rfl⟩,h _ g5 g3 g4 ⟨_,g1,rfl,rfl⟩ ⟨_,g2,rfl,rfl⟩ fun c o x=>Heap.get?_push_of_some _ (Heap.get?_push_of_some _ (Heap.get?_push_of_some _ (Heap.get?_push_of_some _ (Heap.get?_push_of_some _ x))))⟩
theorem Jsk (z:Nat):ZipApart (z+4) (z+2) (z+3) z (z+1) (z+5) (z+5):=by
 have k:∀ {a b:Nat},(a<b\/b<a)->a≠b:=fun h=>by lia
 constructor <;> exact k (by lia)
theorem EvI.zipS (ha:asc x) (hb:asc y) (hx:sc.names.lookup f=some .globalImplicit) (hgl:Glb g f (.type "zip")) (hs:Jlc eA) (hsB:Jlc eB) (he:Ev prog w g T n sc σ eA (.str x)) (he2:Ev prog w g T n sc σ eB (.str y)):EvI prog w g T n sc σ (.Tuple es' k' p') (.Call (.Name f p) [eA,eB] [] pos) (JB1 (Jee x) (Jee y)):=fun A s av env hev rm hg hc=>
 Jch hx hgl (.more (hs _) he (.more (hsB _) he2 .nil)) hev rm hg hc fun vs sA xA r1=>by
  cases r1.i1 with | mk a r=>cases r.i1 with | mk b r2 =>
  cases r2.i0
  obtain ⟨t,rfl⟩:=a.i5
  obtain ⟨u,rfl⟩:=b.i5
  exact Jro ha hb fun h' a1 a2 a3 a4 a5 a7=>wpAny_pyIter_zip a1 (.wk xA (.of h' _ a7) hg a7 (JGv (Jcn sA 4) (Jcn sA 2) (Jcn sA 3) (Jcn sA 0) (Jcn sA 1))
   fun zs hf hz=>⟨_,Wkr.zipS hf (Jsk _),a1,a2,⟨_,_,a3⟩,a4,a5⟩)
end
end
section
open Builtin Builtin.Str
section
variable {c hd wd:Nat}{t:List Nat}{n:Nat}{a:Jbn}
theorem Jvg (hw:hd<wd):chk wd (List.replicate hd 32++c::t)=(List.replicate hd 32++c::t.take (wd - hd - 1))::chk wd (t.drop (wd - hd - 1)):=by
 obtain ⟨k,rfl⟩:∃ k,wd=hd+(k+1):=⟨wd - hd - 1,by lia⟩
 rw [Ji2 (by lia) (by rw [ne_eq,List.append_eq_nil_iff]; exact fun h=>nomatch h.2),List.take_append,List.drop_append,List.length_replicate,show hd+(k+1) - hd=k+1 by lia,List.take_of_length_le (by rw [List.length_replicate]; lia),List.drop_of_length_le (by rw [List.length_replicate]; lia)]
 rfl
structure RwK (hd wd:Nat) (c:Nat) (t:List Nat):Prop where
 lt:hd<wd
 wd:wd<=300
 n:t.length<=300
 c:65<=c/\c<=80
 t:Sgn t
noncomputable abbrev Jg6 (hd wd:Nat) (t:List Nat):List (List Nat):=chk wd (t.drop (wd - hd - 1))
noncomputable abbrev headI (hd:Nat):Int:=1+(hd:Int).fdiv 2
noncomputable abbrev Jqt (hd wd c:Nat) (t:List Nat):Pst:=Jga sp1 (sOf [c]) [] (List.replicate (hd - hd / 2) trP) (headI hd) (t.take (wd - hd - 1)) (Jg6 hd wd t)
theorem RwK.rest (k:RwK hd wd c t):∀ x∈Jg6 hd wd t,Sgn x/\x≠[]/\x.length<=300:=fun x hx=>
 ⟨fun y hy=>k.t y (List.drop_subset _ _ ((Jfy x hx).2 y hy)),JDg (by have:=k.lt; lia) x hx,Nat.le_trans (Jfy x hx).1 k.wd⟩
theorem RwK.restn (k:RwK hd wd c t):(Jg6 hd wd t).length<=300:=Nat.le_trans (Jl0 (by have:=k.lt; omega)) (by rw [List.length_drop]; have:=k.n; omega)
theorem RwK.headI (k:RwK hd wd c t):headI hd=((1+hd / 2:Nat):Int):=by
 rw [Mine.headI,Int.fdiv_eq_ediv_of_nonneg _ (by decide)]; lia
theorem RwK.small (k:RwK hd wd c t):Jcg (Jqt hd wd c t):=by
 have e:=k.headI
 have h1:=k.lt
 have h2:=k.wd
 refine Jqs (by rw [e]; lia) (by lia) (by rw [e]; lia) k.c ⟨fun y hy=>k.t y (List.take_subset _ _ hy),?_⟩ (fun x hx=>(k.rest x hx).imp id fun p=>p.imp id fun q=>Nat.le_trans q (by decide)) (Nat.le_trans k.restn (by decide))
 rw [List.length_take]
 have:=k.n
 lia
theorem RwK.rows (k:RwK hd wd c t):nlF (Jqt hd wd c t).1 (Jqt hd wd c t).2.1 (Jqt hd wd c t).2.2=((List.replicate (hd - hd / 2) 32++c::t.take (wd - hd - 1))::(Jg6 hd wd t).map fun x=>32::x).map sOf :=
 Jv2 (by rw [k.headI]; lia) (by have:=k.c; lia) fun x hx=>⟨(k.rest x hx).1,(k.rest x hx).2.1⟩
theorem Jq3 {a r:List Nat}{x:Nat}{rs:List (List Nat)}:a++Jb6 x r rs=Jb6 x (a++r) rs:=by
 cases rs with
 | nil=>rfl
 | cons y rs=>show a++(r++x::Jb6 x y rs)=a++r++x::Jb6 x y rs; rw [List.append_assoc]
theorem RwK.text (k:RwK hd wd c t):Jjt sp1 (Mine.headI hd)++Str.join nlS (nlF (Jqt hd wd c t).1 (Jqt hd wd c t).2.1 (Jqt hd wd c t).2.2)=Str.join nlS (((32::(List.replicate hd 32++c::t.take (wd - hd - 1)))::(Jg6 hd wd t).map fun x=>32::x).map sOf):=by
 rw [k.rows,k.headI,show 1+hd / 2=hd / 2+1 by lia,Jpa,Jlv,Jzb,Jzb,Jbu,Jq3, <- List.append_assoc,List.replicate_append_replicate,show hd / 2+1+(hd - hd / 2)=hd+1 by lia]
 rfl
theorem RwK.out (k:RwK hd wd c t):Je5 hd wd (c::t)=((32::(List.replicate hd 32++c::t.take (wd - hd - 1)))::(Jg6 hd wd t).map fun x=>32::x).map sOf:=by
 unfold Je5
 rw [Jvg k.lt,List.map_cons,List.map_cons,List.map_map]; rfl
theorem no10 {x:List Nat}(h:Sgn x):10∉x:=fun q=>by have:=h 10 q; lia
theorem RwK.no10 (k:RwK hd wd c t):10∉(32::(List.replicate hd 32++c::t.take (wd - hd - 1)))/\∀ x∈(Jg6 hd wd t).map fun x=>32::x,10∉x:=by
 refine ⟨fun q=>?_,fun x hx q=>?_⟩
 ·rcases List.mem_cons.mp q with q | q
  ·exact nomatch q
  rcases List.mem_append.mp q with q | q
  ·exact nomatch List.eq_of_mem_replicate q
  rcases List.mem_cons.mp q with q | q
  ·have:=k.c; lia
  ·exact Mine.no10 k.t (List.take_subset _ _ q)
 ·obtain ⟨y,hy,rfl⟩:=List.mem_map.mp hx
  rcases List.mem_cons.mp q with q | q
  ·exact nomatch q
  ·exact Mine.no10 (k.rest y hy).1 q
end
end
section
open Builtin Builtin.Str
section
variable {c hd wd:Nat}{t:List Nat}{prog:Program}{w:World}{K:Frag}{g:Heap}{T:Ja3}{n:Nat}{A:Around}{s:Shared}{a:Jbn}{b:Jc7}{fd ad ml fl fr:Addr}{outer:List Env}{t0 t1 t2:Tok}{l:List (List Nat)}
theorem Jt0 {sep:Str}{B:Nat}{l:List Str}(h:∀ x∈l,x.length+sep.length<=B):(l.map Str.length).sum<=l.length*B:=by
 induction l with
 | nil=>exact Nat.zero_le _
 | cons x l ih =>
  rw [List.map_cons,List.sum_cons,List.length_cons,Nat.succ_mul]
  have:=ih fun y hy=>h y (.tail _ hy)
  have:=h x (.head _)
  lia
theorem Jkq {l:List Str}(hl:l.length<=301) (h:∀ x∈l,x.length+nlS.length<=1000):Jgi nlS l<=lim/\(Str.join nlS l).length<=lim:=by
 have h1:=Nat.mul_le_mul_right 1000 hl
 have e:lim=1048576:=rfl
 refine ⟨Nat.le_trans (Jij h) (Nat.le_trans h1 (by decide)),Nat.le_trans (PySem.StrLaws.join_length_le nlS l) ?_⟩
 have h2:=Jt0 h
 have h3:l.length*nlS.length<=l.length*1000:=Nat.mul_le_mul_left _ (by decide +kernel)
 have h2:(l.map fun x=>x.length).sum<=l.length*1000:=h2
 lia
theorem RwK.len1 (k:RwK hd wd c t):∀ x∈(((List.replicate (hd - hd / 2) 32++c::t.take (wd - hd - 1))::(Jg6 hd wd t).map fun x=>32::x).map sOf),x.length+nlS.length<=1000:=fun x hx=>by
 obtain ⟨y,hy,rfl⟩:=List.mem_map.mp hx
 rw [Ja7,Jlv,Ja7]
 have h1:=k.lt
 have h2:=k.wd
 rcases List.mem_cons.mp hy with rfl | hy
 ·rw [List.length_append,List.length_replicate,List.length_cons,List.length_take,List.length_singleton]; lia
 ·obtain ⟨z,hz,rfl⟩:=List.mem_map.mp hy
  have:=(k.rest z hz).2.2
  rw [List.length_cons,List.length_singleton]; lia
theorem RwK.len2 (k:RwK hd wd c t):∀ x∈(((32::(List.replicate hd 32++c::t.take (wd - hd - 1)))::(Jg6 hd wd t).map fun x=>32::x).map sOf),x.length+nlS.length<=1000:=fun x hx=>by
 obtain ⟨y,hy,rfl⟩:=List.mem_map.mp hx
 rw [Ja7,Jlv,Ja7]
 have h1:=k.lt
 have h2:=k.wd
 rcases List.mem_cons.mp hy with rfl | hy
 ·rw [List.length_cons,List.length_append,List.length_replicate,List.length_cons,List.length_take,List.length_singleton]; lia
 ·obtain ⟨z,hz,rfl⟩:=List.mem_map.mp hy
  have:=(k.rest z hz).2.2
  rw [List.length_cons,List.length_singleton]; lia
theorem RwK.cnt (k:RwK hd wd c t) {x:List Nat}:((x::(Jg6 hd wd t).map fun x=>32::x).map sOf).length<=301:=by
 rw [List.length_map,List.length_cons,List.length_map]; exact Nat.succ_le_succ k.restn
theorem Juw {σ:Sto}(h:∀ p∈σ,∃ d,p.2=.val d/\Flat d):∀ x sl,σ.lookup x=some sl->∃ d,sl=.val d/\Flat d:=fun x sl e=>h (x,sl) (mem_of_lookup e)
theorem FmW.widen {ι:Type}{W:Wo ι}{i:ι}{ow:Ow}{env:Env}{σ:Sto}{E:List Addr}(Z:FmW W g T ow env σ s i) (hE:Jdk E s.heap) (hd:∀ a∈ow.adr,a∉E) (hσ:∀ x sl,σ.lookup x=some sl->∃ d,sl=.val d/\Flat d):FmW (W.on E) g T ow env σ s i :=
 ⟨{ Z.F with
  ec:={ Z.F.ec with
   avok:=fun a ha=>(List.mem_append.mp ha).elim (fun h=>Z.F.ec.avok a (List.mem_append_left _ h)) fun h=>(List.mem_append.mp h).elim (hE a) fun h=>Z.F.ec.avok a (List.mem_append_right _ h)
   vars:=fun x sl e=>by
    obtain ⟨d,rfl,f⟩:=hσ x sl e
    cases Z.F.ec.vars x _ e with | mk v l r=>exact ⟨v,l,f _ _ _ (VD.sub (av':=[]) nofun r)⟩ }
  apt:=fun a ha h=>(List.mem_append.mp h).elim (hd a ha) (Z.F.apt a ha) },Z.w,Z.nw,Z.cl⟩
theorem Jxh (L:LrK prog w K g T a b fd ad ml fl fr) (rm:Rm (n+14) A) (hg:GK g T s) (hfr:A.frames=some outer) (FO:FrO g s.heap outer) (k:RwK hd wd c t) {EE:List Addr}(hEE:Jdk EE s.heap) :
  wpAny (model prog w) A (call (.ref fr) [.str (sOf (c::t)) t0,.int hd t1,.int wd t2]) (JDx g T EE outer (.lst ((Je5 hd wd (c::t)).map .str)) s) NoE s:=by
 have klt:=k.lt
 have kwd:=k.wd
 have kn:=k.n
 refine Jyu L rm hg ⟨klt,Nat.le_trans kwd (by decide)⟩ fun env ow s4 q co he hf hc hoc rm' hqs f4 Z x4 C=>?_
 have hU:∀ x,q.U x->g.get? x=none:=fun x hx=>hg.new (hqs x (.inr (.inr hx)))
 have FO4:FrO g s4.heap outer:=FO.slk (FO.mv hg (x4.mv (W:=fun V=>False)) fun V V f=>f)
 refine wpAny_execs_cons (Jof (wl:=t) (p:=pgQ ((wd:Int)+1)) L.B L.fed hU he rm' Z rfl (fun V=>⟨_,rfl⟩) (fun g'=>Jyw (wl:=c::t) (n:=n+12) rfl rfl (by rw [List.length_cons]; lia)) fun s5 tf tx x5=>?_)
 have ok:=Jaw (CV:=b.CV) (CA:=a.CA) (p:=pgQ ((wd:Int)+1)) hU
 have Z5:=Z.ext ok x5
 have ex:∀ {b},b∈frA outer->s.heap.get? b≠none:=fun hb z=>(FO.obj hb).2.elim fun o e=>nos z e.1
 have nwo:∀ b∈frA outer,¬ Wr env ow b:=fun b hb u=>ex hb (f4 b u)
 have FO5:FrO g s5.heap outer:=FO4.slk (FO4.mv Z.F.gk (x5.mv (W:=fun V=>False)) fun V V f=>f)
 have N:=Ju0 (wd:=wd) (a:=wd - hd - 1) (t:=t) (N:=t.length) (k:=fun m=>if m=t.length+1 then wd - hd - 1 else wd) (by lia) (if_pos rfl) (fun m hm=>if_neg (by lia)) (Nat.le_refl _)
 have ei:=k.headI
 have hacc:Jaf (List.replicate (hd - hd / 2) trP) (headI hd)=1+(hd:Int):=by
  rw [JAt,ei]; lia
 refine Ja0 (Jxl (n:=n+3) (N:=t.length+1) (r:=fun m=>if m=t.length+1 then (wd:Int) - hd else wd) L.B hU L.fed L.mxl L.hfl L.gix (rm'.le (by lia)) Z5.F.gk Z5.w (C.ext x5 Z.F.gk) (Around.frames_deeper hfr) (FrO.cons (Z5.F.frk hf) FO5) (fun b hb hq=>?_) (Jpb _ (by lia) (by show 0<=headI hd/\headI hd<=1000; rw [ei]; lia)) (by rw [List.length_replicate]; lia)
  (by show (sOf [c]).length<=1000; rw [Ja7]; exact (by decide:1<=1000)) (Array.all_eq_true'.mpr fun y hy=>decide_eq_true (by have:=k.c; have:=List.mem_singleton.mp (List.mem_toArray.mp hy); lia))
  (by show (if _ then _ else _:Int)=_; rw [if_pos rfl]; show _=((wd:Int)+1) - Jaf (List.replicate (hd - hd / 2) trP) (headI hd); rw [hacc]; lia) (fun m hm=>by show (if _ then _ else _:Int)=_; rw [if_neg (by lia)]; show _=((wd:Int)+1) - ((sp1.length:Nat):Int); rw [show sp1.length=1 by decide +kernel]; lia)
  (by show (if _ then _ else _:Int) - 1=((if _ then _ else _:Nat):Int); rw [if_pos rfl,if_pos rfl]; lia) (fun m hm=>by show (if _ then _ else _:Int)=((if _ then _ else _:Nat):Int); rw [if_neg (by lia),if_neg (by lia)])
  N.2 (by lia) (by lia) N.1 ⟨by rw [List.length_take]; lia,Array.all_eq_true'.mpr fun y hy=>decide_eq_true (by have:=k.t y (List.take_subset _ _ (List.mem_toArray.mp hy)); lia)⟩ (fun x hx=>Nat.le_trans (k.rest x hx).2.2 (by decide)) (Nat.le_trans k.restn (by decide)) ?_ (show sp1.length<=1000 by decide +kernel) ?_) fun v s6 h₆=>?_
 ·rw [Jqk hf] at hb
  exact (List.mem_cons.mp hb).elim (fun z=>Z5.nw b hq (z▸.inl rfl)) fun z=>ex z (hqs b hq)
 ·show Jaf (List.replicate (hd - hd / 2) trP++[(sOf [c],sOf (t.take (wd - hd - 1)))]) (headI hd)<=(wd:Int)+1
  rw [Jjn,hacc]
  show 1+(hd:Int)+(((sOf [c]).length:Int)+((sOf (t.take (wd - hd - 1))).length:Int))<=_
  rw [Ja7,Ja7,List.length_take,List.length_singleton]; lia
 ·show (nlF [] (List.replicate (hd - hd / 2) trP++[(sOf [c],sOf (List.take (wd - hd - 1) t))]) (headI hd)).length<=600
  rw [Jkj (by rw [ei]; lia) (by have:=k.c; lia)]
  exact (by decide:1<=600)
 ·have E:=FmW.fed (st':=Jqt hd wd c t) hU Z5 hf hc FO5 nwo h₆
  have rt:=JC0 (E:=EE) (T:=T) (n:=n+5) (head:=(hd:Int)) (p:=pgQ ((wd:Int)+1)) (q:=q) (ls:=(Jqt hd wd c t).1) (ps:=(Jqt hd wd c t).2.1) (i:=(Jqt hd wd c t).2.2) (σ:=(Str.ofString "maker",.val (.adr q.m))::(Str.ofString "coder",.val (.adr co))::params ["word", "head", "width"] [.str (sOf (c::t)),.int hd,.int wd]) L.B hU rfl rfl (by lia) k.small (by rw [k.rows]; exact (Jkq k.cnt k.len1).1) (by rw [k.rows]; exact (Jkq k.cnt k.len1).2)
   (by show (Jjt sp1 (headI hd)).length<=lim; rw [ei,show 1+hd / 2=hd / 2+1 by lia,Jpa,Ja7,List.length_replicate]; have:lim=1048576:=rfl; lia) (by rw [k.text]; exact (Jkq k.cnt k.len2).2)
   (by rw [k.text,(Jgj k.no10.1 k.no10.2 nofun).2]; exact Nat.le_trans k.cnt (by decide))
  rw [k.text,(Jgj k.no10.1 k.no10.2 nofun).1, <- k.out] at rt
  refine wpAny_execs_cons (Ja0 (rt _ s6 _ env he hoc (rm'.le (by lia)) (E.Z.widen (fun x hx=>?_) (fun x hx hxE=>(hEE x hxE).elim fun o z=>nos (f4 x (.inr (.inr hx))) z.1) ?_)) fun fw s7 hG=>?_)
  ·obtain ⟨o,e,nt⟩:=(hEE.ext (x4.trans x5) hg) x hx
   by_cases hm:x∈frA outer
   ·exact (FO5.obj hm).2.elim fun o' z=>(E.sl x hm o' z.1).elim fun sl e=>⟨_,e,(Jb8 (o:={ o' with slots:=sl }) z.2).2⟩
   ·refine ⟨o,E.m.get' Z5.F.gk e (fun u=>u.elim (fun u=>u.elim (fun u=>?_) fun u=>?_) hm) nt,nt⟩
    ·exact (hEE x hx).elim fun o z=>nos (f4 x u) z.1
    ·exact (hEE x hx).elim fun o z=>nos (hqs x (.inr (.inr u))) z.1
  ·exact Juw (List.forall_mem_cons.mpr ⟨⟨_,rfl,Jm6⟩,List.forall_mem_cons.mpr ⟨⟨_,rfl,Jm6⟩,List.forall_mem_cons.mpr ⟨⟨_,rfl,Jc3⟩,List.forall_mem_cons.mpr ⟨⟨_,rfl,Jc3⟩,List.forall_mem_cons.mpr ⟨⟨_,rfl,Jhs⟩,fun V h=>(List.not_mem_nil h).elim⟩⟩⟩⟩⟩)
  have E':Fed g T b.CV a.CA q (pgQ ((wd:Int)+1)) ow env outer _ _ s5 s6:=E
  have o:=Fed.out (s0:=s) Z5.F.gk E' (x4.trans x5) FO hg hqs f4 hG
  cases hG with | ret r m wj =>
  cases o with | mk mm sl rr=>exact .mk mm sl (rr.sub fun a h=>List.mem_append_left _ h)
end
end
section
noncomputable def agB (a b:List Nat):Bool:=(a.zip b).all fun p=>p.1==32||p.1==p.2
noncomputable abbrev JHx:List Stmt:=Ja5 (fn1 "_law_agree")
noncomputable abbrev JGw:Scope:=Ja2 (fn1 "_law_agree")
theorem JCu:FnS JGw ["above", "below"]:=⟨⟨rfl,rfl,rfl,by decide +kernel⟩,by decide +kernel⟩
section
variable {prog:Program}{w:World}{g:Heap}{T:Ja3}{n:Nat}{l:List D}{d:D}{p:PyData}{ps:List PyData}{a b:List Nat}{fa:Addr}
theorem Jvd (hd:Dp 9 d p) (hl:Dps 9 l ps):Jg5 prog w g T .NotIn d (.tup l) (!ps.any fun y=>y.eqv p):=fun A s av u v hr hu hv=>
 (hd.reads hu).elim fun V ra=>((Dp.tup hl).reads hv).elim fun V rb=>SeqAt.notIn_tuple_reads rb ra hl.lay.1 hd.lay.1 (Jkt hr hl) Jal
noncomputable abbrev JBk (p:Nat×Nat):D:=.tup [.str (sOf [p.1]),.str (sOf [p.2])]
theorem Jo5 (b:List Nat):∀ c:List Nat,JB1 (Jee (sOf b)) (Jee (sOf c))=(b.zip c).map JBk:=by
 induction b with
 | nil=>exact fun V=>rfl
 | cons x b ih =>
  intro c
  cases c with
  | nil=>rfl
  | cons y c=>exact congrArg (_ :: ·) (ih c)
theorem Jow (x y:Nat):(sOf [x]==sOf [y])=(x==y):=by
 rw [Bool.eq_iff_iff,beq_iff_eq,beq_iff_eq]
 exact ⟨fun h=>(List.cons.inj (Jk6 h)).1,fun h=>h▸rfl⟩
theorem Jx0 (h:∀ x∈a,x<128):asc (sOf a):=Array.all_eq_true'.mpr fun x hx=>decide_eq_true (h x (List.mem_toArray.mp hx))
theorem Jvf (hg:Glb g "_law_agree" (.ref fa)) (hf:Jg4 g fa JGw ["above", "below"] JHx) (gzip:Glb g "zip" (.type "zip")) (ha:∀ x∈a,x<128) (hb:∀ x∈b,x<128) (hn:a.length<=900) :
  ClV prog w g T (n+2) "_law_agree" [.str (sOf a),.str (sOf b)] (.bool (agB a b)):=by
 have hz:(a.zip b).length<=900:=Nat.le_trans (List.length_zip▸Nat.min_le_left _ _) hn
 have ok1:∀ {x:Nat},x<128->PyData.strOk (sOf [x])=true:=fun h=>Array.all_eq_true'.mpr fun y hy=>decide_eq_true (by have:=List.mem_singleton.mp (List.mem_toArray.mp hy); lia)
 refine ClV.fn hg hf JCu rfl (SxL.last (Sx.ret ?_))
 have e:agB a b=(PyData.list (((a.zip b).filter fun p=> !(p.1==32||p.1==p.2)).map fun p=>PyData.str (sOf [p.1]))).eqv (.list []):=by
  unfold agB
  induction a.zip b with
  | nil=>rfl
  | cons x l ih =>
   rw [List.all_cons,ih]
   cases h:(x.1==32||x.1==x.2) with
   | true=>rw [List.filter_cons_of_neg (by rw [h]; exact Bool.false_ne_true)]; rfl
   | false=>rw [List.filter_cons_of_pos (by rw [h]; rfl)]; rfl
 rw [e]
 refine Ev.cmp (EvO.ev (EvO.some (enc:=JBk) (xs:=a.zip b) (q:=fun p=> !(p.1==32||p.1==p.2)) (f:=fun p=>D.str (sOf [p.1])) rfl rfl (fun V V=>rfl) (Jo5 _ _▸EvI.zipS (Jx0 ha) (Jx0 hb) rfl gzip (fun V V=>rfl) (fun V V=>rfl) (Ev.name rfl) (Ev.name rfl)) (Nat.le_trans hz (by decide)) fun p hp=>
  ⟨[(Str.ofString "sign",.str (sOf [p.1])),(Str.ofString "other",.str (sOf [p.2]))],.tup (.cons (.cons .nil)),Jaa rfl,rfl,?_,fun V=>Ev.name rfl⟩)) (Ev.list EvL.nil (Nat.zero_le _)) rfl (Jrd (.lst (Dps.map fun p hp=>.str ?_)) (.lst .nil))
 ·have h1:=ha _ (List.of_mem_zip hp).1
  have h2:=hb _ (List.of_mem_zip hp).2
  have e2:(!(p.1==32||p.1==p.2)) = !([PyData.str sp1,.str (sOf [p.2])].any fun y=>y.eqv (.str (sOf [p.1]))):=by
   show _ = !((sp1==sOf [p.1])||((sOf [p.2]==sOf [p.1])||false))
   rw [Jfd,Jow,Jow,Bool.or_false,BEq.comm (a:=32),BEq.comm (a:=p.2)]
  show EvT prog w g T _ _ _ _ (!(p.1==32||p.1==p.2))
  rw [e2]
  exact EvT.cmp (Ev.name rfl) (Ev.tup (EvL.more (fun V=>rfl) Ev.str (EvL.more (fun V=>rfl) (Ev.name rfl) EvL.nil)) (show (2:Nat)<=lim by decide)) rfl (Jvd (.str (ok1 h1)) (.cons (.str (by decide +kernel)) (.cons (.str (ok1 h2)) .nil)))
 ·exact ok1 (ha _ (List.of_mem_zip (List.mem_filter.mp hp).1).1)
end
end
section
theorem Jke {α:Type}(l:List α) {a m:Nat}(h:a+m<=l.length):((List.range m).map (a + ·)).filterMap (l[·]?)=(l.drop a).take m:=by
 have e:((l.drop a).take m).length=m:=by rw [List.length_take,List.length_drop]; lia
 rw [List.filterMap_map,show ((l[·]?) ∘ (a + ·))=((l.drop a)[·]?) from funext fun i=>(List.getElem?_drop ..).symm]
 have:=Jek ((l.drop a).take m) ((l.drop a).drop m)
 rwa [e,List.take_append_drop] at this
section
variable {α:Type}(l:List α) {k:Nat}
theorem Jpg (h:k<=l.length):Jls l none (some (k:Int)) none=l.take k:=by
 have e:Jbl l.length none (some (k:Int)) none=(List.range k).map (0 + ·):=by
  unfold Jbl
  rw [show sliceBounds none (some (k:Int)) none l.length=(((0:Nat):Int),(k:Int),1) from by
   unfold sliceBounds
   simp only [Option.getD_none,show ((1:Int)>0)=True by decide,if_true,if_neg (Int.not_lt.mpr (Int.natCast_nonneg k))]
   refine Prod.ext rfl (Prod.ext ?_ rfl)
   show max 0 (min (k:Int) (l.length:Int))=(k:Int)
   lia]
  exact (sliceRange_one 0 k).trans (by rw [Nat.sub_zero])
 unfold Jls
 rw [e,Jke l (by lia),List.drop_zero]
theorem Jph (h:k<=l.length):Jls l (some (k:Int)) none none=l.drop k:=by
 have e:Jbl l.length (some (k:Int)) none none=(List.range (l.length - k)).map (k + ·):=by
  unfold Jbl
  rw [show sliceBounds (some (k:Int)) none none l.length=((k:Int),(l.length:Int),1) from by
   unfold sliceBounds
   simp only [Option.getD_none,show ((1:Int)>0)=True by decide,if_true,if_neg (Int.not_lt.mpr (Int.natCast_nonneg k))]
   refine Prod.ext ?_ rfl
   show max 0 (min (k:Int) (l.length:Int))=(k:Int)
   lia]
  exact sliceRange_one k l.length
 unfold Jls
 rw [e,Jke l (by lia),List.take_of_length_le (by rw [List.length_drop]; exact Nat.le_refl _)]
theorem Jhd:Jls l none none (some (-1))=l.reverse:=by
 have e:Jbl l.length none none (some (-1))=(List.range l.length).reverse:=by
  show sliceRange ((l.length:Int) - 1) (-1) (-1)=_
  unfold sliceRange
  have e1:(if (l.length:Int) - 1 > -1 then ((l.length:Int) - 1 - -1 - -1 - 1) / - -1 else 0)=(l.length:Int):=by
   by_cases c:(l.length:Int) - 1 > -1
   ·rw [if_pos c,show (- -1:Int)=1 from rfl,Int.ediv_one]; lia
   ·rw [if_neg c]; lia
  rw [if_neg (by decide),e1]
  refine List.ext_getElem (by rw [List.length_map,List.length_range,List.length_reverse,List.length_range]; rfl) fun i h1 h2=>?_
  rw [List.length_reverse,List.length_range] at h2
  rw [List.getElem_map,List.getElem_range,List.getElem_reverse,List.getElem_range,List.length_range]
  lia
 unfold Jls
 rw [e,List.filterMap_reverse]
 have:=Jek l []
 rw [List.append_nil] at this
 rw [this]
end
noncomputable abbrev Fgs (l:List Int):Prop:=∀ d∈l,0<=d/\d<16
noncomputable abbrev dN (l:List Int):Int:=Jdz 4 l.reverse
theorem JHg (k:Nat):(2:Int) ^ (4*k)=16 ^ k:=by rw [Int.pow_mul]; rfl
theorem Jgs (a b:List Int):dN (a++b)=dN a*16 ^ b.length+dN b:=by
 unfold dN
 rw [List.reverse_append,Jfv,List.length_reverse,JHg,Int.add_comm]
theorem Jhx {l:List Int}(h:Fgs l):0<=dN l/\dN l<16 ^ l.length:=by
 induction l with
 | nil=>exact ⟨Int.le_refl 0,by decide⟩
 | cons a l ih =>
  have h1:=h a (.head _)
  have h2:=ih fun d hd=>h d (.tail _ hd)
  have e:=Jgs [a] l
  rw [show [a]++l=a::l from rfl,show dN [a]=a from by show a+0*2 ^ 4=a; lia] at e
  have e3:(16:Int) ^ (a::l).length=16*16 ^ l.length:=by rw [List.length_cons,Int.pow_succ,Int.mul_comm]
  have h3:0<=a*16 ^ l.length:=Int.mul_nonneg h1.1 (Int.pow_nonneg (by decide))
  have h4:a*16 ^ l.length<=15*16 ^ l.length:=Int.mul_le_mul_of_nonneg_right (by lia) (Int.pow_nonneg (by decide))
  rw [e,e3]
  lia
theorem JD5:∀ {a b:List Int},a.length=b.length->Fgs a->Fgs b->dN a=dN b->a=b:=by
 intro a
 induction a with
 | nil=>exact fun h V V V=>(List.eq_nil_of_length_eq_zero h.symm).symm
 | cons x a ih =>
  intro b hl ha hb h
  cases b with
  | nil=>exact nomatch hl
  | cons y b =>
   have hl':a.length=b.length:=Nat.succ.inj hl
   have e1:=Jgs [x] a
   have e2:=Jgs [y] b
   rw [show ∀ z:Int,dN [z]=z from fun z=>by show z+0*2 ^ 4=z; lia] at e1 e2
   have b1:=Jhx (l:=a) fun d hd=>ha d (.tail _ hd)
   have b2:=Jhx (l:=b) fun d hd=>hb d (.tail _ hd)
   rw [<- hl'] at b2 e2
   have e:x*16 ^ a.length+dN a=y*16 ^ a.length+dN b:=e1.symm.trans (h.trans e2)
   have hxy:x=y:=by
    rcases Int.lt_trichotomy x y with c | c | c
    ·have:=Int.mul_le_mul_of_nonneg_right (show x+1<=y by lia) (Int.le_of_lt (Int.lt_of_le_of_lt b1.1 b1.2))
     rw [Int.add_mul] at this
     lia
    ·exact c
    ·have:=Int.mul_le_mul_of_nonneg_right (show y+1<=x by lia) (Int.le_of_lt (Int.lt_of_le_of_lt b1.1 b1.2))
     rw [Int.add_mul] at this
     lia
   subst hxy
   exact congrArg (x :: ·) (ih hl' (fun d hd=>ha d (.tail _ hd)) (fun d hd=>hb d (.tail _ hd)) (by lia))
theorem Jyb {l:List Int}(h:Fgs l) {p:Nat}(hp:p<=l.length):(l.take (l.length - p)=l.drop p/\(-((16 ^ p - 1)*dN l)).fdiv (16 ^ l.length) = -dN (l.take p)/\(-((16 ^ p - 1)*dN l)).fmod (16 ^ l.length)=dN (l.drop (l.length - p))/\dN (l.drop (l.length - p))<16 ^ p)\/(l.take (l.length - p)≠l.drop p/\¬ (-((16 ^ p - 1)*dN l)).fmod (16 ^ l.length)<16 ^ p):=by
 obtain ⟨m,hm⟩:∃ m,l.length=p+m:=⟨l.length - p,by lia⟩
 have hpm:l.length - p=m:=by lia
 rw [hpm]
 have e1:=Jgs (l.take p) (l.drop p)
 have e2:=Jgs (l.take m) (l.drop m)
 rw [List.take_append_drop,List.length_drop] at e1 e2
 rw [show l.length - p=m by lia] at e1
 rw [show l.length - m=p by lia] at e2
 have bB:=Jhx (l:=l.drop p) fun d hd=>h d (List.drop_subset _ _ hd)
 have bC:=Jhx (l:=l.take m) fun d hd=>h d (List.take_subset _ _ hd)
 have bD:=Jhx (l:=l.drop m) fun d hd=>h d (List.drop_subset _ _ hd)
 rw [List.length_drop,show l.length - p=m by lia] at bB
 rw [List.length_take,show min m l.length=m by lia] at bC
 rw [List.length_drop,show l.length - m=p by lia] at bD
 have ep:(16:Int) ^ l.length=16 ^ m*16 ^ p:=by rw [hm,Int.pow_add,Int.mul_comm]
 have P0:(0:Int)<16 ^ p:=Int.pow_pos (by decide)
 have M0:(0:Int)<16 ^ m:=Int.pow_pos (by decide)
 generalize dN (l.take p)=a at *
 generalize hB:dN (l.drop p)=b at *
 generalize hC:dN (l.take m)=c at *
 generalize dN (l.drop m)=d at *
 generalize dN l=n at *
 rw [ep]
 have ex : -((16 ^ p - 1)*n)=(16 ^ m*16 ^ p)*(-a)+((c - b)*16 ^ p+d):=by
  have:(16 ^ p - 1)*n=16 ^ p*n - n:=by rw [Int.sub_mul,Int.one_mul]
  rw [this,Int.mul_neg,Int.sub_mul]
  have:16 ^ p*n=16 ^ m*16 ^ p*a+b*16 ^ p:=by
   rw [e1,Int.mul_add,Int.mul_comm b,Int.mul_comm a, <- Int.mul_assoc,Int.mul_comm (16 ^ p) (16 ^ m)]
  lia
 have T0:(0:Int)<16 ^ m*16 ^ p:=Int.mul_pos M0 P0
 rw [ex]
 by_cases hc:b<=c
 ·have h1:0<=(c - b)*16 ^ p+d:=Int.add_nonneg (Int.mul_nonneg (by lia) (Int.le_of_lt P0)) bD.1
  have h2:(c - b)*16 ^ p+d<16 ^ m*16 ^ p:=by
   have:=Int.mul_le_mul_of_nonneg_right (show c - b+1<=16 ^ m by lia) (Int.le_of_lt P0)
   rw [Int.add_mul,Int.one_mul] at this
   lia
  have hdm:(16 ^ m*16 ^ p * -a+((c - b)*16 ^ p+d)).fdiv (16 ^ m*16 ^ p) = -a/\(16 ^ m*16 ^ p * -a+((c - b)*16 ^ p+d)).fmod (16 ^ m*16 ^ p)=(c - b)*16 ^ p+d:=by
   rw [Int.fdiv_eq_ediv_of_nonneg _ (Int.le_of_lt T0),Int.fmod_eq_emod_of_nonneg _ (Int.le_of_lt T0)]
   exact (Int.ediv_emod_unique T0).mpr ⟨by lia,h1,h2⟩
  rw [hdm.1,hdm.2]
  by_cases he:b=c
  ·left
   refine ⟨JD5 (by rw [List.length_take,List.length_drop]; lia) (fun d hd=>h d (List.take_subset _ _ hd)) (fun d hd=>h d (List.drop_subset _ _ hd)) (by rw [hB,hC,he]),rfl,by rw [he]; omega,bD.2⟩
  ·right
   refine ⟨fun q=>he (by rw [<- hB, <- hC,q]),?_⟩
   have:=Int.mul_le_mul_of_nonneg_right (show 1<=c - b by lia) (Int.le_of_lt P0)
   lia
 ·right
  refine ⟨fun q=>hc (by rw [<- hB, <- hC,q]; exact Int.le_refl _),?_⟩
  have h3:(1 - 16 ^ m)*16 ^ p<=(c - b)*16 ^ p:=Int.mul_le_mul_of_nonneg_right (by lia) (Int.le_of_lt P0)
  have h4:(c - b)*16 ^ p<=(-1)*16 ^ p:=Int.mul_le_mul_of_nonneg_right (by lia) (Int.le_of_lt P0)
  rw [Int.sub_mul,Int.one_mul] at h3
  have hdm:(16 ^ m*16 ^ p * -a+((c - b)*16 ^ p+d)).fmod (16 ^ m*16 ^ p)=(c - b)*16 ^ p+d+16 ^ m*16 ^ p:=by
   rw [Int.fmod_eq_emod_of_nonneg _ (Int.le_of_lt T0)]
   refine ((Int.ediv_emod_unique (q := -a - 1) T0).mpr ⟨?_,by lia,by lia⟩).2
   rw [Int.mul_sub,Int.mul_one]; lia
  rw [hdm]
  lia
end
section
noncomputable abbrev pdB:List Stmt:=Ja5 (fn1 "_law_periods")
noncomputable abbrev Jpk:Scope:=Ja2 (fn1 "_law_periods")
noncomputable abbrev Jyf:Stmt:=nth pdB 1
noncomputable def Jlt (l:List Int) (p:Nat):Bool:=decide (l.take (l.length - p)=l.drop p)
noncomputable def Jfi (l:List Int):List Nat:=((List.range l.length).map (· + 1)).filter (Jlt l)
noncomputable abbrev Jb9 (x:Nat):D:=.int (x:Int)
noncomputable abbrev σp (l:List Int) (ps:List Nat):Sto:=[(Str.ofString "periods",.own (ps.map Jb9)),(Str.ofString "size",.val (.int (l.length:Int))),(Str.ofString "figures",.val (.lst (l.map .int))),(Str.ofString "number",.val (.int (dN l)))]
structure PdK (prog:Program) (w:World) (g:Heap) (T:Ja3) (n:Nat):Prop where
 idm:∀ {a b:Int},b≠0->a.natAbs<=2 ^ 148->b.natAbs<2 ^ 149->ClV prog w g T n "int_divmod" [.int a,.int b] (quo a b)
 d2i:∀ {l:List Int},l.length<=100->Fgs l->ClV prog w g T n "_digits2int" [.lst (l.map .int),.int 4] (.int (Jdz 4 l))
theorem Jfe {i:Int}(h : -(2 ^ 40)<=i/\i<=2 ^ 40):sm i=true:=Jn1 (by omega)
theorem JE6 (n:Nat):Jio 1 ((n:Int)+1) 1=((List.range n).map (· + 1)).map Jb9:=by
 have:(Builtin.Range.rangeSize 1 ((n:Int)+1) 1).toNat=n:=by simp [Builtin.Range.rangeSize]; try lia
 unfold Jio
 rw [this,List.map_map]
 exact List.map_congr_left fun i hi=>congrArg D.int (by show 1+(i:Int)*1=((i+1:Nat):Int); lia)
section
variable {prog:Program}{w:World}{g:Heap}{T:Ja3}{n:Nat}{l:List Int}
theorem Jxo (p:Nat):1 - (p:Int).fmod 2*2=1\/1 - (p:Int).fmod 2*2 = -1:=by
 have h1:=Int.fmod_nonneg_of_pos (p:Int) (show (0:Int)<2 by decide)
 have h2:=Int.fmod_lt_of_pos (p:Int) (show (0:Int)<2 by decide)
 lia
theorem Jsv {t x b:Int}(h:t=1\/t = -1):((-t)*x).fdiv (t*b)=(-x).fdiv b/\t*((-t)*x).fmod (t*b)=(-x).fmod b:=by
 rcases h with rfl | rfl
 ·rw [Int.one_mul,Int.one_mul,Int.neg_mul,Int.one_mul]; exact ⟨rfl,rfl⟩
 ·rw [Int.neg_neg,Int.one_mul,Int.neg_mul,Int.one_mul,Int.neg_mul,Int.one_mul]
  have e:=Jpr (-x) b
  rw [Int.neg_neg] at e
  exact e
theorem p16 {k:Nat}(h:k<=7):(1:Int)<=16 ^ k/\(16:Int) ^ k<=2 ^ 28:=(by decide:∀ k:Nat,k<8->(1:Int)<=16 ^ k/\(16:Int) ^ k<=2 ^ 28) k (Nat.lt_succ_of_le h)
theorem Jnu {k:Nat}(h:k<=7):Jib prog w g T .Pow (.int 16) (.int (k:Int)) (.int (16 ^ k)):=by
 have:=Jrs (prog:=prog) (w:=w) (g:=g) (T:=T) (a:=16) (b:=(k:Int)) (Int.natCast_nonneg k) (by lia) (by decide)
 rwa [Int.toNat_natCast] at this
theorem Jkv {a:List Int}(h:Fgs a):Fgs a.reverse:=fun d hd=>h d (List.mem_reverse.mp hd)
theorem Jyc (k:PdK prog w g T (n+2)) (hl:l.length<=7) (hf:Fgs l) {p:Nat}(h1:1<=p) (h2:p<=l.length) {ps:List Nat}(hps:ps.length<=7) :
  SxL prog w g T (n+2) Jpk ((Str.ofString "part",.val (Jb9 p))::σp l ps) (stP Jyf).body (.next (σp l (if Jlt l p=true then ps++[p] else ps))):=by
 have ht:=Jxo p
 have hN:=Jhx hf
 have b16:=p16 hl
 have bp:=p16 (Nat.le_trans h2 hl)
 have hz:l.length<=lim:=Nat.le_trans hl (by decide)
 generalize htn:1 - (p:Int).fmod 2*2=t at ht
 have td:=Jsv (t:=t) (x:=(16 ^ p - 1)*dN l) (b:=16 ^ l.length) ht
 have xb:0<=(16 ^ p - 1)*dN l/\(16 ^ p - 1)*dN l<=2 ^ 56:=by
  refine ⟨Int.mul_nonneg (by lia) hN.1,?_⟩
  refine Int.le_trans (Int.mul_le_mul (show (16:Int) ^ p - 1<=2 ^ 28 by lia) (show dN l<=2 ^ 28 by lia) hN.1 (by decide)) (by decide)
 have ea:(-t*(16 ^ p - 1))*dN l=(-t)*((16 ^ p - 1)*dN l):=Int.mul_assoc ..
 have hb0:t*16 ^ l.length≠0:=by rcases ht with h | h <;> rw [h] <;> lia
 have hdv:=Jyb hf h2
 have c:=k.idm (a := -t*(16 ^ p - 1)*dN l) (b:=t*16 ^ l.length) hb0 (by rw [ea]; rcases ht with h | h <;> rw [h] <;> lia) (by rcases ht with h | h <;> rw [h] <;> lia)
 rw [<- ea] at td
 have c:ClV prog w g T (n+2) "int_divmod" [.int (-t*(16 ^ p - 1)*dN l),.int (t*16 ^ l.length)] (.tup [.int ((-t*(16 ^ p - 1)*dN l).fdiv (t*16 ^ l.length)),.int ((-t*(16 ^ p - 1)*dN l).fmod (t*16 ^ l.length))]):=c
 generalize (-t*(16 ^ p - 1)*dN l).fdiv (t*16 ^ l.length)=go at *
 generalize (-t*(16 ^ p - 1)*dN l).fmod (t*16 ^ l.length)=le at *
 rw [<- td.1, <- td.2] at hdv
 have lb:0<=t*le/\t*le<16 ^ l.length:=by
  rw [td.2]
  exact ⟨Int.fmod_nonneg_of_pos _ (by lia),Int.fmod_lt_of_pos _ (by lia)⟩
 have smt:sm t=true:=Jfe (by rcases ht with h | h <;> rw [h] <;> decide)
 have sml:sm le=true:=Jfe (by rcases ht with h | h <;> rw [h] at lb <;> lia)
 refine SxL.cons (Sx.assign (x := "turn") (d:=.int t) ?_ (fun V V V=>rfl) rfl) ?_
 ·have q1:=Int.fmod_nonneg_of_pos (p:Int) (show (0:Int)<2 by decide)
  have q2:=Int.fmod_lt_of_pos (p:Int) (show (0:Int)<2 by decide)
  rw [<- htn]
  exact Ev.bin Ev.int (Ev.bin (Ev.bin (Ev.name rfl) Ev.int (Jct (by decide))) Ev.int (Jbw (Jfe (by lia)) (by decide))) Jap
 refine SxL.cons (Sx.assignTup (b:=[(Str.ofString "goes",.int go),(Str.ofString "left",.int le)]) (Ev.call rfl (EvL.more (fun V=>rfl) (Ev.bin (Ev.bin (Ev.neg (Ev.name rfl)) (Ev.bin (Ev.bin Ev.int (Ev.name rfl) (Jnu (Nat.le_trans h2 hl))) Ev.int Jap) (Jbw ?_ ?_)) (Ev.name rfl) (Jbw ?_ ?_)) (EvL.more (fun V=>rfl) (Ev.bin (Ev.name rfl) (Ev.bin Ev.int (Ev.name rfl) (Jnu hl)) (Jbw smt (Jfe (by lia)))) EvL.nil)) c) (fun V V V=>rfl) (fun V=>rfl) (.cons (.cons .nil)) (Jaa rfl)) ?_
 ·exact Jfe (by rcases ht with h | h <;> rw [h] <;> decide)
 ·exact Jfe (by lia)
 ·exact Jfe (by rcases ht with h | h <;> rw [h] <;> lia)
 ·exact Jfe (by lia)
 have hlt:∀ {σ:Sto},σ.lookup (Str.ofString "turn")=some (.val (.int t))->σ.lookup (Str.ofString "left")=some (.val (.int le))->∀ {p1 p2 p3:Pos},Ev prog w g T (n+2) Jpk σ (.BinOp (.Name "turn" p1) .Mult (.Name "left" p2) p3) (.int (t*le)):=fun q1 q2 V V V=>Ev.bin (Ev.name q1) (Ev.name q2) (Jbw smt sml)
 have sl1:∀ {σ:Sto},σ.lookup (Str.ofString "figures")=some (.val (.lst (l.map .int)))->σ.lookup (Str.ofString "part")=some (.val (Jb9 p))->∀ {p1 p2 p3 p4 p5 p6 p7 p8:Pos}{k1:Nat},Ev prog w g T (n+2) Jpk σ (.Subscript (.Subscript (.Name "figures" p1) (.Slice none (some (.Name "part" p2)) none p3) p4) (.Slice none none (some (.UnaryOp .USub (.Constant (.int 1) k1 p5) p6)) p7) p8) (.lst ((l.take p).reverse.map .int)):=fun q1 q2 V V V V V V V V V=>
  Jhd (l.take p)▸Ev.slice (Jpg l h2▸Ev.slice (Ev.name q1) .none' (.some' (Ev.name q2)) .none' (Jbt rfl hz)) .none' .none' (.some' (Ev.neg Ev.int)) (Jbt rfl (Nat.le_trans (List.length_take_le' ..) hz))
 have sl2:∀ {σ:Sto},σ.lookup (Str.ofString "figures")=some (.val (.lst (l.map .int)))->σ.lookup (Str.ofString "part")=some (.val (Jb9 p))->σ.lookup (Str.ofString "size")=some (.val (.int (l.length:Int)))->∀ {p1 p2 p3 p4 p5 p6 p7 p8 p9 p0:Pos}{k1:Nat},Ev prog w g T (n+2) Jpk σ (.Subscript (.Subscript (.Name "figures" p1) (.Slice (some (.BinOp (.Name "size" p9) .Sub (.Name "part" p2) p0)) none none p3) p4) (.Slice none none (some (.UnaryOp .USub (.Constant (.int 1) k1 p5) p6)) p7) p8) (.lst ((l.drop (l.length - p)).reverse.map .int)):=fun q1 q2 q3 V V V V V V V V V V V=>
  Jhd (l.drop (l.length - p))▸Ev.slice (Jph l (Nat.sub_le ..)▸Ev.slice (Ev.name q1) (.some' ((show (l.length:Int) - (p:Int)=((l.length - p:Nat):Int) by lia)▸Ev.bin (Ev.name q3) (Ev.name q2) Jap)) .none' .none' (Jbt rfl hz)) .none' .none' (.some' (Ev.neg Ev.int)) (Jbt rfl (by rw [List.length_drop]; lia))
 rcases hdv with ⟨q1,q2,q3,q4⟩ | ⟨q1,q2⟩
 ·rw [show Jlt l p=true from decide_eq_true q1,if_pos rfl]
  refine SxL.post (SxL.cons (Sx.ite (b:=true) (decide_eq_true (show t*le<16 ^ p by rw [q3]; exact q4)▸EvT.cmp (hlt rfl rfl) (Ev.bin Ev.int (Ev.name rfl) (Jnu (Nat.le_trans h2 hl))) rfl Jgu) (SxL.cons (Sx.append (ds:=ps.map Jb9) rfl (fun V=>rfl) rfl (Ev.name rfl) (by rw [List.length_map]; exact Nat.le_trans hps (by decide))) (SxL.cons (Sx.ite (b:=false||(false||false)) (EvT.bool (EvA.or_cons ?_ fun V=>EvA.or_cons ?_ fun V=>EvA.or_nil)) SxL.nil) SxL.nil))) SxL.nil) (.next ?_)
  ·exact (show (-go != Jdz 4 (l.take p).reverse)=false by rw [q2,Int.neg_neg]; exact bne_self_eq_false _)▸EvT.cmp (Ev.neg (Ev.name rfl)) (Ev.call rfl (EvL.more (fun V=>rfl) (sl1 rfl rfl) (EvL.more (fun V=>rfl) Ev.int EvL.nil)) (k.d2i (by rw [List.length_reverse]; exact Nat.le_trans (List.length_take_le' ..) (Nat.le_trans hl (by decide))) (Jkv fun d hd=>hf d (List.take_subset _ _ hd)))) rfl Jww
  ·exact (show (t*le != Jdz 4 (l.drop (l.length - p)).reverse)=false by rw [q3]; exact bne_self_eq_false _)▸EvT.cmp (hlt rfl rfl) (Ev.call rfl (EvL.more (fun V=>rfl) (sl2 rfl rfl rfl) (EvL.more (fun V=>rfl) Ev.int EvL.nil)) (k.d2i (by rw [List.length_reverse,List.length_drop]; lia) (Jkv fun d hd=>hf d (List.drop_subset _ _ hd)))) rfl Jww
  ·rw [σp,List.map_append]
   exact .cons rfl (.cons rfl (.cons rfl (.cons rfl .nil)))
 ·rw [show Jlt l p=false from decide_eq_false q1,if_neg nofun]
  refine SxL.post (SxL.cons (Sx.ite (b:=false) (decide_eq_false q2▸EvT.cmp (hlt rfl rfl) (Ev.bin Ev.int (Ev.name rfl) (Jnu (Nat.le_trans h2 hl))) rfl Jgu) SxL.nil) SxL.nil) (.next ?_)
  exact .cons rfl (.cons rfl (.cons rfl (.cons rfl .nil)))
end
end
section
theorem Jwq:FnS Jpk ["figures", "number"]:=⟨⟨rfl,rfl,rfl,by decide +kernel⟩,by decide +kernel⟩
section
variable {prog:Program}{w:World}{g:Heap}{T:Ja3}{n:Nat}{A:Around}{s:Shared}{l:List Int}{outer:List Env}{fd:Addr}{x:Int}{t t':Tok}{Q:Value->Shared->Prop}
theorem Jye (k:PdK prog w g T (n+2)) (hl:l.length<=7) (hf:Fgs l):∀ {xs ps:List Nat},(∀ y∈xs,1<=y/\y<=l.length)->ps.length+xs.length<=7->Jie prog w g T (n+2) Jpk (stP Jyf).test (stP Jyf).body (xs.map Jb9) (σp l ps) (.next (σp l (ps++xs.filter (Jlt l)))):=by
 intro xs
 induction xs with
 | nil=>exact fun V V=>by rw [show ([]:List Nat).filter (Jlt l)=[] from rfl,List.append_nil]; exact .nil
 | cons y xs ih =>
  intro ps hy hn
  rw [List.length_cons] at hn
  have h:=hy y (.head _)
  have q:(if Jlt l y=true then ps++[y] else ps).length<=ps.length+1:=by
   by_cases c:Jlt l y=true
   ·rw [if_pos c,List.length_append]; exact Nat.le_refl _
   ·rw [if_neg c]; exact Nat.le_succ _
  have go:=ih (ps:=if Jlt l y=true then ps++[y] else ps) (fun z hz=>hy z (.tail _ hz)) (by lia)
  have e:(if Jlt l y=true then ps++[y] else ps)++xs.filter (Jlt l)=ps++(y::xs).filter (Jlt l):=by
   by_cases c:Jlt l y=true
   ·rw [if_pos c,List.filter_cons_of_pos c,List.append_assoc]; rfl
   ·rw [if_neg c,List.filter_cons_of_neg c]
  rw [e] at go
  exact Jie.step (b:=[(Str.ofString "part",Jb9 y)]) .name (Jaa rfl) (Jyc k hl hf h.1 h.2 (by lia)) go
theorem Jyd (k:PdK prog w g T (n+2)) (glen:Glb g "len" (.builtin "len")) (gra:Glb g "range" (.type "range")) (hl:l.length<=7) (hf:Fgs l):SxL prog w g T (n+2) Jpk (params ["figures", "number"] [.lst (l.map .int),.int (dN l)]) [nth pdB 0,nth pdB 1] (.next (σp l (Jfi l))):=by
 have hz:(l.map D.int).length<=lim:=by rw [List.length_map]; exact Nat.le_trans hl (by decide)
 refine SxL.cons (Sx.assignTupO (σ':=σp l []) (x := "periods") (xs:=["size", "periods"]) (f:=fun b=>[.int ((l.map D.int).length:Nat),.adr b]) (Jw3.val (fun V=>rfl) (Ev.call rfl (EvL.more (fun V=>rfl) (Ev.name rfl) EvL.nil) (Jbb glen hz)) (Jw3.own (fun V=>rfl) (EvO.list EvL.nil (Nat.zero_le _)) EvL.nil)) (fun V=>(by decide:(2:Nat)<=lim)) (.cons (.cons .nil)) (fun V=>rfl) rfl (by decide) rfl (fun b=>.tail _ (.head _)) fun b=>?_) (SxL.cons (Sx.for (JE6 l.length▸EvI.range2 rfl gra (fun V V=>rfl) (fun V V=>rfl) Ev.int (Ev.bin (Ev.name rfl) Ev.int Jag) rfl (Jar.mpr (by lia))) (fun V V=>rfl) (Jye (ps:=[]) k hl hf (fun y hy=>?_) (by rw [List.length_map,List.length_range,List.length_nil]; lia))) SxL.nil)
 ·rw [List.length_map]
  exact .cons rfl (.cons rfl (.cons rfl (.cons rfl .nil)))
 ·obtain ⟨i,hi,rfl⟩:=List.mem_map.mp hy
  have:=List.mem_range.mp hi
  lia
inductive JH9 (g:Heap) (T:Ja3) (l:List Env) (s:Shared):Value->Shared->Prop
 | mk {s2:Shared}{ec:Env}{e:Addr}{h':Heap}{tk:Nat}(x:Ext g T s s2) (F:FrO g s2.heap (ec::l)) (hf:ec.frame=some ec.locals) (n:s.heap.get? ec.locals=none) (fly:Fly (frH (ec::l) s2.heap) l e (.type "ZeroDivisionError") s2.heap h'):JH9 g T l s (.ref e) { s2 with heap:=h',toks:=tk }
theorem Jxm (hf:Jg4 g fd (Ja2 (fn1 "int_divmod")) ["a", "b"] (Ja5 (fn1 "int_divmod"))) (gz:Glb g "ZeroDivisionError" (.type "ZeroDivisionError")) (rm:Rm (n+2) A) (hg:GK g T s) (hfr:A.frames=some outer) (FO:FrO g s.heap outer) :
  wpAny (model prog w) A (call (.ref fd) [.int x t,.int 0 t']) Q (JH9 g T outer s) s:=by
 refine Jde (n:=n+1) hf Jqm.toFnS0 (.nil Jqm) rm hg (av:=[]) nofun (.cons (.int _ _) (.cons (.int _ _) .nil)) rfl fun env ow sA N hff=>?_
 refine wpAny_execs_cons (wpAny_If (wpAny_mono (E:=NoE) ((EvT.cmp (Ev.name rfl) Ev.int rfl Jcd:EvT prog w g T (n+1) (Ja2 (fn1 "int_divmod")) (froz (σid x 0)) (stP id1).test ((0:Int)==0)) _ sA _ env N.sc_ N.rm N.F.gk N.F.froz) (fun c s2 h₂=>?_) fun V V f=>f.elim))
 obtain ⟨rfl,xB⟩:=h₂
 have Fb:=N.F.ext xB
 have x02:=N.x.trans xB
 have FO2:FrO g s2.heap outer:=FO.slk (FO.mv hg (x02.mv (W:=fun V=>False)) fun V V f=>f)
 have FE:FrO g s2.heap (env::outer):=.cons (Fb.frk hff) FO2
 refine wpAny_execs_cons (Raise_classB N.rm.hand (X := "ZeroDivisionError") excClass_ZeroDivisionError (by kernel_rfl) (Jbk Fb.ec.kind Fb.ec.glob Fb.ec.blt (by rw [Env.kindOf,N.sc_]; rfl) Fb.gk.keep gz ⟨rfl,rfl⟩) fun h' e ne=>?_)
 refine Jli (h:=s2.heap) (B:=frH (env::outer) s2.heap) (Around.frames_deeper hfr) (FE.fun fun b hb=>Jku hb) hff (Jm3 fun V V e=>e) ne fun h₁ fly=>?_
 exact .mk (s2:=s2) (h':=h₁) (tk:=s2.toks) x02 FE hff (N.w _ (.inl rfl)) fly.out
end
end
section
section
variable {prog:Program}{w:World}{g:Heap}{T:Ja3}{n:Nat}{A:Around}{s:Shared}{l:List Int}{outer:List Env}{fd fp:Addr}{x:Int}{t:Tok}{v:Value}
theorem Jf1 {P:Value->Str->Prop}{Q:Value->Shared->Prop}{E:Value->Shared->Prop}{av:List Addr}{env:Env}{σ:Sto}{sc sc':Scope}{f:Str}{a:Addr}{cl:List (Str×Addr)}{xs:List Str}{body:List Stmt}{e:Expr}{es:List Expr}{ds:List D}{p pos:Pos}(hx:sc.names.lookup f=some .globalImplicit) (hgl:Glb g f (.ref a)) (hf:FnO P g a sc' cl xs body) (ha:EvL prog w g T n sc σ (e::es) ds) (he:env.scope=sc) (rm:Rm n A) (hg:GK g T s) (hc:EC av env σ s.heap)
  (k:∀ vs sA,Ext g T s sA->VDs av sA.heap vs ds->wpAny (model prog w) A (PySem.call (.ref a) vs) Q E sA):wpAny (model prog w) A (eval (.Call (.Name f p) (e::es) [] pos) env) Q E s:=by
 cases hf with | mk o fd' ho hdat _ _ _ _ _ _ _ _ _ =>
 exact wpAny_Call_NameR (Jbk hc.kind hc.glob hc.blt (by rw [Env.kindOf,he]; exact hx) hg.keep hgl (callWith_def hdat (wpAny_mono (E:=NoE) (ha.run A s av env pos he rm hg hc) (fun vs sA h₁=>⟨(h₁.1.gk hg).keep _ _ ho,k vs sA h₁.1 h₁.2⟩) fun V V f=>f.elim) (ha.plain.1 _)))
theorem JEr:(Jpk.names.all fun p=>p.2 != .cell)=true:=by decide +kernel
theorem Jbs {l:List Env}{c:Addr}{env:Env}(hf:env.frame=some c):frA (env::l)=c::frA l:=by rw [frA,List.filterMap_cons,hf]
theorem Jmp (k:PdK prog w g T (n+2)) (hp:Jg4 g fp Jpk ["figures", "number"] pdB) (hf:Jg4 g fd (Ja2 (fn1 "int_divmod")) ["a", "b"] (Ja5 (fn1 "int_divmod"))) (gdm:Glb g "int_divmod" (.ref fd)) (gz:Glb g "ZeroDivisionError" (.type "ZeroDivisionError")) (glen:Glb g "len" (.builtin "len")) (gra:Glb g "range" (.type "range"))
  (rm:Rm (n+3) A) (hg:GK g T s) (hfr:A.frames=some outer) (FO:FrO g s.heap outer) (hl:l.length<=7) (hgs:Fgs l) {av:List Addr}(hav:Jdk av s.heap) (hv:VD av s.heap v (.lst (l.map .int))) :
  wpAny (model prog w) A (call (.ref fp) [v,.int (dN l) t]) (JDx g T av outer (.lst ((Jfi l).map Jb9)) s) NoE s:=by
 refine Jde (n:=n+2) hp Jwq.toFnS0 (.nil Jwq) rm hg hav (.cons hv (.cons (.int _ _) .nil)) rfl fun env ow sA N hff=>?_
 refine wpAny_mono (E:=NoE) ?_ (fun V V q=>q) fun V V f=>f.elim
 show wpAny _ _ (execs ([nth pdB 0,nth pdB 1]++[nth pdB 2,nth pdB 3]) env) _ NoE sA
 rw [Jc4]
 refine wpAny_bind (Ja0 (Jyd k glen gra hl hgs _ sA _ ow env N.sc_ N.c N.rm N.F) fun fl s2 h₂=>?_)
 cases h₂ with | next nx =>
 cases nx with | mk ow2 cB Fb mQ wB =>
 have x02:Ext g T s s2:=(Mv.trans N.x.mv mQ fun b hb=>.inr (N.w b hb)).ext (W:=fun V=>False) fun b f=>f.elim
 have wn:∀ b,Wr env ow2 b->s.heap.get? b=none:=fun b hb=>(wB b hb).elim (N.w b) (N.x.none hg)
 refine wpAny_execs_cons (wpAny_Try_except (wpAny_execs_cons (wpAny_Expr_any (Jf1 (n:=n+2) rfl gdm hf (EvL.more (fun V=>rfl) (Ev.name rfl) (EvL.more (fun V=>rfl) Ev.int EvL.nil)) N.sc_ N.rm Fb.gk Fb.ec fun vs s3 x3 rC=>?_) (Jac Fb) rfl)))
 cases rC.i1 with | mk ra rb =>
 cases rb.i1 with | mk rc rd =>
 cases rd.i0
 obtain ⟨t1,rfl⟩:=ra.i4
 obtain ⟨t2,rfl⟩:=rc.i4
 have F3:=Fb.ext x3
 have x03:=x02.trans x3
 have FO3:FrO g s3.heap outer:=FO.slk (FO.mv hg (x03.mv (W:=fun V=>False)) fun V V f=>f)
 have FE3:FrO g s3.heap (env::outer):=.cons (F3.frk hff) FO3
 refine wpAny_mono (Jxm (n:=n) (Q:=fun V V=>False) hf gz (N.rm.le (Nat.le_refl _)) F3.gk (Around.frames_deeper hfr) FE3) (fun V V f=>f.elim) fun e s4 h₄=>?_
 cases h₄ with | @mk s5 ec ea h' tk x5 FE hef hen fly =>
 refine Jsn (h:=s5.heap) (Around.frames_deeper hfr) hff fly fun h₆ fly6=>?_
 refine Jih F3.ec.kind F3.ec.glob F3.ec.blt (by rw [Env.kindOf,N.sc_]; rfl) gz (JCp FE (x5.gk F3.gk)) (by kernel_rfl) (by kernel_rfl) (by kernel_rfl) fly6 fun hG cg E'=>?_
 have cau:=cg.cau FE
 have F5:=F3.ext x5
 have m57:Mv g T (fun b=>b∈frA (ec::env::outer)) s5 { s5 with heap:=hG,toks:=tk }:=cau.mv FE
 have fe:frA (ec::env::outer)=ec.locals::env.locals::frA outer:=by rw [Jbs hef,Jbs hff]
 have nw:∀ b∈frA (ec::env::outer),b∉ow2.adr:=fun b hb ho=>by
  obtain ⟨vs,kk,e'⟩:=F5.isl b ho
  exact FE.nsq hb e' ⟨_,_,.inr rfl⟩
 have ncl:∀ x c,env.cells.lookup x=some c->False:=fun x c e=>nomatch (N.cells x fun z=>(nomatch List.all_eq_true.mp JEr _ z)).symm.trans e
 have F7:=F5.besideL m57 (fun b hb u=>nw b u hb) (fun b o e so u=>(FE.nsq u e so).elim) (fun o e=>cau.sl _ (fe▸.tail _ (.head _)) o e) (fun x c e hb=>ncl x c e) fun b hb u=>(FE.obj u).2.elim fun o z=>(cau.sl b u o z.1).elim fun sl e=>⟨_,e,(Jb8 (o:={ o with slots:=sl }) z.2).2⟩
 refine wpAny_execs_cons (wpAny_Return_some ?_)
 cases F7.ownAt (x:=Str.ofString "periods") rfl with | @mk la vs kk hax ll e3 e4 =>
 have m07:Mv g T (fun b=>b∈frA outer) s { s5 with heap:=hG,toks:=tk }:=Mv.trans x03.mv (Mv.trans (W:=fun b=>b∈frA (ec::env::outer)) x5.mv m57 fun b hb=>.inl hb) fun b hb=>by
  rw [fe] at hb
  rcases List.mem_cons.mp hb with rfl | hb
  ·exact .inr (x03.none hg hen)
  ·exact (List.mem_cons.mp hb).elim (fun q=>.inr (q▸N.w _ (.inl rfl))) .inl
 have sl:SlK (frA outer) s.heap hG:=(FO.mv hg ((x03.trans x5).mv (W:=fun V=>False)) fun V V f=>f).trans (cau.sl.sub fun b hb=>fe▸.tail _ (.tail _ hb))
 exact Jab F7.ec.kind ll (.mk m07 sl (.lst (F7.apt la (Jb7 hax)) e3 (e4.sub fun a h=>List.mem_append_right _ h)))
end
end
section
section
variable {ι:Type}(prog:Program) (w:World) (g:Heap) (T:Ja3) (sc:Scope) (A:Around) (env:Env) (W:Wo ι)
noncomputable def StX (i:ι) (σ:Sto) (st:Stmt) (R:Rz) (j:ι):Prop:=∀ (s:Shared) (ow:Ow),ow.c=Ja1 sc.names->FmW W g T ow env σ s i->wpAny (model prog w) A (exec st env) (MtU W g T ow env s R j) NoE s
noncomputable def StA (i:ι) (σ:Sto) (sts:List Stmt) (R:Rz) (j:ι):Prop:=∀ (s:Shared) (ow:Ow),ow.c=Ja1 sc.names->FmW W g T ow env σ s i->wpAny (model prog w) A (execs sts env) (MtU W g T ow env s R j) NoE s
variable (tg:Expr) (body:List Stmt)
inductive JGb (K:Sto->ι->Prop) (d:D) (σ:Sto) (i:ι):Prop
 | mk (b:Bd) (σA:Sto) (j:ι) (t:Tg tg d b) (st:Je4 sc (Ja1 sc.names) b) (run:∀ fp,StA prog w g T sc A env (W.on fp) i (Ja4 b σ) body (.next σA) j) (go:K σA j)
noncomputable def JB0 (N:Sto->ι->Prop) (ds:List D):Sto->ι->Prop:=ds.rec N fun d V ih=>JGb prog w g T sc A env W tg body ih d
end
section
variable {ι:Type}{prog:Program}{w:World}{g:Heap}{T:Ja3}{n:Nat}{sc:Scope}{A:Around}{env:Env}{W:Wo ι}{i j k:ι}{σ σA σB:Sto}{st:Stmt}{sts:List Stmt}{R:Rz}{tg iter:Expr}{body:List Stmt}{pos:Pos}{ds:List D}{N:Sto->ι->Prop}
theorem StX.of (h:SxU prog w g T n sc W i σ st R j) (he:env.scope=sc) (rm:Rm n A):StX prog w g T sc A env W i σ st R j:=fun s ow hc Z=>h A s ow env he hc rm Z
theorem StA.nil:StA prog w g T sc A env W i σ [] (.next σ) i:=fun s ow hc Z=>wpAny_execs_nil (.next (.of_nx (.of_ext Z.F .refl)) Z.w)
theorem StA.cons (ok:W.Ok g) (h:StX prog w g T sc A env W i σ st (.next σA) j) (hs:StA prog w g T sc A env W j σA sts R k):StA prog w g T sc A env W i σ (st::sts) R k:=fun s ow hc Z=>
 wpAny_execs_cons (Ja0 (h s ow hc Z) fun fl sA h₁=>by
  cases h₁ with | next n wj =>
  cases n with | mk ow' c F m hw =>
  have Z':=Z.nx ok F hw wj
  exact Ja0 (hs sA ow' (c.trans hc) Z') fun fl s2 h₂=>h₂.then (Z'.has ok) c F.gk m hw)
theorem StA.last {d:D}(h:StX prog w g T sc A env W i σ st (.ret d) j):StA prog w g T sc A env W i σ (st::sts) (.ret d) j:=fun s ow hc Z=>
 wpAny_execs_cons (Ja0 (h s ow hc Z) fun fl sA h₁=>by cases h₁ with | ret r m wj=>exact .ret r m wj)
theorem StA.post (h:StA prog w g T sc A env W i σ sts (.next σA) j) (hs:Sub σB σA):StA prog w g T sc A env W i σ sts (.next σB) j:=fun s ow hc Z=>
 Ja0 (h s ow hc Z) fun fl s' q=>by
  cases q with | next n wj =>
  cases n with | mk ow' c F m hw=>exact .next ⟨ow',c,F.weak hs,m,hw⟩ wj
inductive JE4 (prog:Program) (w:World) (g:Heap) (T:Ja3) (sc:Scope) (A:Around) (env:Env) (W:Wo ι) (tg:Expr) (body:List Stmt) (N:Sto->ι->Prop) (ds:List D) (σ:Sto) (s:Shared):Prop
 | mk (i:ι) (wi:W.Ω i s.heap) (h:JB0 prog w g T sc A env W tg body N ds σ i)
theorem Juq (ok:W.Ok g):Jo0 True g T W.av W.P W.U (JE4 prog w g T sc A env W tg body N) where
 obj:=fun ds σ s h b p=>h.rec fun i wi V=>ok.obj i _ wi b p
 seq:=fun ds σ s h b o u e q=>h.rec fun i wi V=>ok.seq i _ wi b o u e q
 up:=ok.up
 st:=fun ds σ sA s2 Z h q m hz tk=>h.rec fun i wi k=>⟨i,ok.mv m q wi hz (tk trivial),k⟩
theorem StX.for (ok:W.Ok g) (he:env.scope=sc) (rm:Rm n A) (hi:EvF prog w g T n sc σ tg iter ds) (hsd:Jez iter) (h:JB0 prog w g T sc A env W tg body (fun σ' j'=>σ'=σA/\j'=j) ds σ i):StX prog w g T sc A env W i σ (.For tg iter body [] pos) (.next σA) j:=fun s ow hoc Z=>
 Joc (Inv:=JE4 prog w g T sc A env W tg body fun σ' j'=>σ'=σA/\j'=j) (B:=fun V V=>False) (D':=fun V=>False) (Juq ok) hi hsd he hoc rm Z.F Z.nw ⟨i,Z.w,h⟩
  (fun d ds' σ' sA q=>by
   cases q with | mk iA wA h₁ =>
   cases h₁ with | mk b _ _ t st _ _ =>
   refine ⟨b,t,st,fun fp s2 ow' c F q nw=>?_⟩
   cases q with | mk iB wB h₂ =>
   cases h₂ with | mk b' σC k t' st' run go =>
   cases t.uniq t'
   refine Ja0 (run fp s2 ow' c ⟨F,wB,nw,Z.cl⟩) fun fl s3 h₃=>?_
   cases h₃ with | next nx w3=>exact .next nx ⟨k,w3,go⟩)
  (fun σ' s' q nx=>by
   cases q with | mk k wk e =>
   obtain ⟨rfl,rfl⟩:=e
   exact wpAny_execs_nil (.next nx wk))
  (fun V V f=>f.elim) fun V V V f=>f.elim
theorem JB0.step {α κ:Type}{enc:α->D}{f:κ->α->κ}{st:κ->Sto}{pr:κ->ι}{μ:κ->Nat}{M c:Nat}:∀ {xs:List α}{k:κ},(∀ a∈xs,∀ k,μ (f k a)<=μ k+c)->(∀ a∈xs,∃ b,Tg tg (enc a) b/\Je4 sc (Ja1 sc.names) b/\∀ k fp,μ k<=M->StA prog w g T sc A env (W.on fp) (pr k) (Ja4 b (st k)) body (.next (st (f k a))) (pr (f k a)))->μ k+xs.length*c<=M ->
  JB0 prog w g T sc A env W tg body (fun σ' j'=>σ'=st (xs.foldl f k)/\j'=pr (xs.foldl f k)) (xs.map enc) (st k) (pr k):=by
 intro xs
 induction xs with
 | nil=>exact fun V V V=>⟨rfl,rfl⟩
 | cons a xs ih =>
  intro k hμ ht hm
  rw [List.length_cons,Nat.succ_mul] at hm
  have h:=hμ a (.head _) k
  cases ht a (.head _) with | intro b p=>exact .mk b _ _ p.1 p.2.1 (fun fp=>p.2.2 k fp (by lia)) (ih (fun y hy=>hμ y (.tail _ hy)) (fun y hy=>ht y (.tail _ hy)) (by lia))
theorem Sub.push {x:Str}{sl:Sl}(h:σ.lookup x=none):Sub σ ((x,sl)::σ):=fun y s e=>by
 rw [Ja6]
 by_cases q:y=x
 ·exact nomatch (q▸h).symm.trans e
 ·rw [if_neg q]; exact e
end
end
section
noncomputable abbrev Loc:=List (Int×Int)
noncomputable def Jhu (L:Loc):List (PyData×PyData):=L.map fun p=>(.int p.1,.int p.2)
noncomputable def Jcz (L:Loc) (k:Int):Option Int:=(L.find? fun p=>decide (p.1=k)).map (·.2)
noncomputable def JB2 (L:Loc) (k v:Int):Loc:=if (Jcz L k).isSome then L else L++[(k,v)]
theorem Jhn (k:Int) (L:Loc):PySem.Spec.lookup (.int k) (Jhu L)=(Jcz L k).map .int:=by
 induction L with
 | nil=>rfl
 | cons p L ih =>
  show (if Spec.same (.int p.1) (.int k)=true then some (PyData.int p.2) else PySem.Spec.lookup (.int k) (Jhu L))=_
  rw [PyProof.V.same_int]
  unfold Jcz
  rw [List.find?_cons]
  cases h:decide (p.1=k)
  ·rw [if_neg nofun]; exact ih
  ·rw [if_pos rfl]; rfl
theorem Jy2 {k v:Int}{L:Loc}(h:Jcz L k=none):putD (.int k) (.int v) (Jhu L)=Jhu (L++[(k,v)]):=by
 have:((Jhu L).any fun p=>Spec.same p.1 (.int k))=false:=by
  unfold Jcz at h
  rw [Option.map_eq_none_iff,List.find?_eq_none] at h
  rw [Jhu,List.any_map,List.any_eq_false]
  intro p hp
  have:=h p hp
  show ¬ Spec.same (.int p.1) (.int k)=true
  rw [PyProof.V.same_int]; exact this
 unfold putD
 rw [this,if_neg nofun,Jhu,Jhu,List.map_append]; rfl
structure JH5 (prog:Program) (w:World) (g h0:Heap) (outer:List Env) (d:Addr) (L:Loc) (h:Heap):Prop where
 tab:IntTab prog w h d (Jhu L)
 fo:FrO g h outer
 sl:SlK (frA outer) h0 h
noncomputable abbrev wL (prog:Program) (w:World) (g h0:Heap) (outer:List Env) (d:Addr) (av:List Addr):Wo Loc:=⟨av,fun b=>b=d\/b∈frA outer,fun b=>b=d\/b∈frA outer,JH5 prog w g h0 outer d⟩
section
variable {prog:Program}{w:World}{g h0 h h':Heap}{T:Ja3}{n:Nat}{A:Around}{outer:List Env}{d:Addr}{L:Loc}{s s':Shared}{env:Env}{ow:Ow}{σ:Sto}{av:List Addr}{v:Value}{dd:D}
theorem Jjz (t:IntTab prog w h d (Jhu L)):∃ o es ep,h.get? d=some o/\o.ExactDict/\o.data=.dict es ep:=by
 obtain ⟨lo,kvs,⟨o,es,ep,ho,hc,hd,_⟩,_⟩:=t
 exact ⟨o,es,ep,ho,hc,hd⟩
theorem Jh7 (t:IntTab prog w h d (Jhu L)) (k:∀ o,h.get? d=some o->h'.get? d=some o):IntTab prog w h' d (Jhu L):=by
 obtain ⟨lo,kvs,hD,hf⟩:=t
 obtain ⟨o,ho,hd⟩:=Heap.dictOf_iff.mp hD
 exact ⟨lo,kvs,Heap.dictOf_iff.mpr ⟨o,k o ho,hd⟩,hf⟩
theorem Jh6 (t:IntTab prog w h d (Jhu L)):∃ o,h.get? d=some o/\IsD o:=by
 obtain ⟨o,es,ep,ho,_,hd⟩:=Jjz t
 exact ⟨o,ho,es,ep,hd⟩
theorem Jms (hd:g.get? d=none) (hF:∀ b∈frA outer,g.get? b=none):(wL prog w g h0 outer d av).Ok g where
 up:=fun V h=>h
 off:=fun b h=>h.elim (fun e=>e▸hd) (hF b)
 obj:=fun L h z b hb=>hb.elim (fun e=>e▸(Jh6 z.tab).imp fun o p=>⟨p.1,(Jb8 p.2).2⟩) fun hb=>(z.fo.obj hb).2.imp fun o p=>⟨p.1,(Jb8 p.2).2⟩
 seq:=fun L h z b o hb e so=>hb.elim (fun q=>(Jh6 z.tab).elim fun o' p=>(Jks (Jav p.1 (q▸e)▸p.2) so).elim) fun hb=>(z.fo.nsq hb e so).elim
 st:=fun L h h' z k V=>⟨Jh7 z.tab fun o e=>k d o (.inl rfl) e,z.fo.slk (.of fun b hb o e=>k b o (.inr hb) e),z.sl.trans (.of fun b hb o e=>k b o (.inr hb) e)⟩
theorem Ji3 {x:Str}{c:Addr}(F:Fm g T av ow env σ s) (k:env.kindOf x=some .cell\/env.kindOf x=some .free) (e:env.cells.lookup x=some c) (z:∃ o,s.heap.get? c=some o/\IsD o):False:=by
 obtain ⟨c',e',v,o',ho,hd⟩:=F.ec.cells x k
 obtain ⟨o,h1,es,ep,h2⟩:=z
 cases Jav e e'
 cases Jav h1 ho
 exact Jbe tgB (h2.symm.trans hd) rfl
theorem FmW.rows (hdF:d∉frA outer) (hdg:g.get? d=none) (Z:FmW (wL prog w g h0 outer d av) g T ow env σ s L) (hf:env.frame=some env.locals) (hc:∀ x c,env.cells.lookup x=some c->env.kindOf x=some .cell\/env.kindOf x=some .free) (m:Mv g T (fun b=>b∈frA (env::outer)) s s') (sl:SlK (frA (env::outer)) s.heap s'.heap) :
  FmW (wL prog w g h0 outer d av) g T ow env σ s' L:=by
 rw [Jbs hf] at m sl
 have FE:FrO g s.heap (env::outer):=.cons (Z.F.frk hf) Z.w.fo
 have fe:frA (env::outer)=env.locals::frA outer:=Jbs hf
 have nl:d≠env.locals:=fun e=>Z.nw d (.inl rfl) (.inl e)
 refine ⟨Z.F.besideL m (fun b hb u=>?_) (fun b o e so u=>(FE.nsq (fe▸u) e so).elim) (fun o e=>sl _ (.head _) o e) (fun x c e u=>Ji3 Z.F (hc x c e) e (FE.obj (fe▸u)).2) (fun b hb u=>(FE.obj (fe▸u)).2.elim fun o z=>(sl b u o z.1).elim fun sl' e=>⟨_,e,(Jb8 (o:={ o with slots:=sl' }) z.2).2⟩),⟨Jh7 Z.w.tab fun o e=>?_,Z.w.fo.slk (sl.sub fun b hb=>.tail _ hb),Z.w.sl.trans (sl.sub fun b hb=>.tail _ hb)⟩,Z.nw,Z.cl⟩
 ·obtain ⟨vs,k,e⟩:=Z.F.isl b hb
  exact FE.nsq (fe▸u) e ⟨_,_,.inr rfl⟩
 ·refine m.get' Z.F.gk e (fun u=>(List.mem_cons.mp u).elim nl hdF) ?_
  exact (Jh6 Z.w.tab).elim fun o' p=>Jav p.1 e▸(Jb8 p.2).2
theorem Ev.dget {g':Heap}{sc:Scope}{x y:Str}{k i:Int}{c:Nat}{p1 p2 p3 p4 pos:Pos}(t:IntTab prog w g' d (Jhu L)) (h1:σ.lookup x=some (.val (.adr d))) (h2:σ.lookup y=some (.val (.int k))) (hln:(p2.endLine==pos.line)=true) :
  Ev prog w g' T n sc σ (.Call (.Attribute (.Name x p1) "get" p2) [.Name y p3,.Constant (.int i) c p4] [] pos) (.int ((Jcz L k).getD i)):=fun A s av env he rm hg hc=>by
 have T':IntTab prog w s.heap d (Jhu L):=Jh7 t fun o e=>hg.keep _ _ e
 obtain ⟨o,es,ep,ho,hcl,hd⟩:=Jjz T'
 refine wpAny_Call_method_late rfl rfl hln rfl (Jab hc.kind (hc.adr h1) ⟨"dict", "dict.get",PySem.F.plainAttrs_dict,PySem.F.slot_dict_get,PySem.F.type_dict_get,⟨_,ho,hcl.1⟩,fun b hb=>by cases hb; exact ⟨_,ho,hcl.2.1⟩,?_⟩)
 refine callWith_method1 (Ja0 ((EvL.more (fun V=>rfl) (Ev.name h2) (EvL.more (fun V=>rfl) Ev.int EvL.nil)).run A s av env pos he rm hg hc) fun vs sA h₁=>?_)
 cases h₁.2.i1 with | mk ra rb =>
 cases rb.i1 with | mk rc rd =>
 cases rd.i0
 obtain ⟨t1,rfl⟩:=ra.i4
 obtain ⟨t2,rfl⟩:=rc.i4
 have T1:IntTab prog w sA.heap d (Jhu L):=Jh7 t fun o e=>(h₁.1.gk hg).keep _ _ e
 refine call_get2_intTab T1 (dd:=.int i) (fun V=>.int i t2) fun v hv=>?_
 rw [Jhn] at hv
 have hv:PyProof.V.Flat v (.int ((Jcz L k).getD i)):=by cases q:Jcz L k <;> rw [q] at hv <;> exact hv
 cases hv sA.heap with | int _ tt=>exact ⟨h₁.1.trans (.tok _),.int _ tt⟩
theorem SxU.setdef {sc:Scope}{x y z:Str}{k i:Int}{p1 p2 p3 p4 pos pp:Pos}(h1:σ.lookup x=some (.val (.adr d))) (h2:σ.lookup y=some (.val (.int k))) (h3:σ.lookup z=some (.val (.int i))) (hln:(p2.endLine==pos.line)=true) (hz:L.length<=900) (hdg:g.get? d=none) (hF:∀ b∈frA outer,g.get? b=none) (hdF:d∉frA outer) :
  SxU prog w g T n sc (wL prog w g h0 outer d av) L σ (.Expr (.Call (.Attribute (.Name x p1) "setdefault" p2) [.Name y p3,.Name z p4] [] pos) pp) (.next σ) (JB2 L k i):=fun A s ow env he hoc rm Z=>by
 have ok:=Jms (prog:=prog) (w:=w) (h0:=h0) (av:=av) hdg hF
 obtain ⟨o,es,ep,ho,hcl,hd⟩:=Jjz Z.w.tab
 refine wpAny_Expr_any (wpAny_Call_method_late rfl rfl hln rfl (Jab Z.F.ec.kind (Z.F.ec.adr h1) ⟨"dict", "dict.setdefault",PySem.F.plainAttrs_dict,PySem.F.slot_dict_setdefault,PySem.F.type_dict_setdefault,⟨_,ho,hcl.1⟩,fun b hb=>by cases hb; exact ⟨_,ho,hcl.2.1⟩,?_⟩)) (Jac Z.F) rfl
 refine callWith_method1 (Ja0 ((EvL.more (fun V=>rfl) (Ev.name h2) (EvL.more (fun V=>rfl) (Ev.name h3) EvL.nil)).run A s _ env pos he rm Z.F.gk Z.F.ec) fun vs sA h₁=>?_)
 cases h₁.2.i1 with | mk ra rb =>
 cases rb.i1 with | mk rc rd =>
 cases rd.i0
 obtain ⟨t1,rfl⟩:=ra.i4
 obtain ⟨t2,rfl⟩:=rc.i4
 have Z1:=Z.ext ok h₁.1
 have hlen:(Jhu L).length<=sizeLine:=by rw [Jhu,List.length_map]; exact Nat.le_trans hz (by decide)
 unfold JB2
 cases q:Jcz L k with
 | some u =>
  exact kt_setdefault_there PyProof.V.same_int (intKind_is prog w k t1) Z1.w.tab (PySem.F.args_dict_setdefault_3 _ _ _) (by rw [Jhn,q]; rfl) hlen fun v hv=>.next ⟨ow,rfl,Z1.F.ext (.tok _),h₁.1.mv.trans (Ext.tok _).mv (W':=fun V=>False) fun V f=>f.elim,fun V hb=>.inl hb⟩ (Z1.ext ok (.tok _)).w
 | none =>
  obtain ⟨lo,kvs,hD,hf⟩:=Z1.w.tab
  have hno:valueAt kvs k=none:=hf.none_of_lookup PyProof.V.same_int (by rw [Jhn,q]; rfl)
  refine call_meetsIn PySem.F.slot_dict_setdefault hD.typeIs PySem.F.entry_dict_setdefault (PySem.F.args_dict_setdefault_3 _ _ _) (kt_meets_setdefault (intKind prog w) d (intKind_is prog w k t1) lo _) ⟨kvs,hD,by rw [<- hf.length]; exact hlen,fun v hv=>(nomatch hno.symm.trans hv),fun V h' hm hs=>?_⟩
  have hob:=Jh6 Z1.w.tab
  have mv:Mv g T (fun b=>b=d\/b∈frA outer) sA { sA with heap:=h',toks:=sA.toks+1 }:=hob.elim fun o p=>Mv.one hs p.1 (Jb8 p.2) hdg (.inl rfl)
  have wj:JH5 prog w g h0 outer d (L++[(k,i)]) h':=⟨⟨lo,_,hm,Jy2 q▸hf.stored PyProof.V.same_int k (fun V=>.int i t2)⟩,Z1.w.fo.slk (.of fun b hb o e=>(hs.2 b fun z=>hdF (z▸hb)).trans e),Z1.w.sl.trans (.of fun b hb o e=>(hs.2 b fun z=>hdF (z▸hb)).trans e)⟩
  have Z2:=Z1.out ok mv wj
  exact .next ⟨ow,rfl,Z2.F,(h₁.1.mv (W:=fun b=>Wr env ow b\/(b=d\/b∈frA outer))).trans mv fun b hb=>.inl (.inr hb),fun V hb=>.inl hb⟩ wj
end
end
section
noncomputable abbrev loB:List Stmt:=Ja5 (fn1 "_law_local")
noncomputable abbrev Jeu:Scope:=Ja2 (fn1 "_law_local")
noncomputable abbrev loW:Stmt:=nth loB 1
noncomputable abbrev loH:Stmt:=nth (stP loW).body 0
noncomputable abbrev loT:List Stmt:=(stP loH).body
noncomputable abbrev rws (wl:List Nat) (hd wd:Nat):List (List Nat):=chk wd (List.replicate hd 32++wl)
noncomputable abbrev lnD (wl:List Nat) (hd wd:Nat):D:=.lst ((Je5 hd wd wl).map .str)
noncomputable abbrev Jid (wl:List Nat) (hd wd p:Nat):List Nat:=(rws wl hd wd).getD p []
noncomputable abbrev JEe (wl:List Nat) (hd wd:Nat):List Nat:=(List.range ((rws wl hd wd).length - 1)).map (· + 1)
noncomputable abbrev JDm (wl:List Nat) (hd wd p:Nat):Bool:=agB (32::Jid wl hd wd (p - 1)) (32::Jid wl hd wd p)
noncomputable def alk (wl:List Nat) (hd wd:Nat):List Int:=((JEe wl hd wd).filter (JDm wl hd wd)).map fun p:Nat=>((p:Int)*wd - hd)
noncomputable abbrev σ0 (wl:List Nat) (ps:List Nat) (d:Addr) (R:Bool):Sto:=[(Str.ofString "right",.val (.bool R)),(Str.ofString "local",.val (.adr d)),(Str.ofString "word",.val (.str (sOf wl))),(Str.ofString "periods",.val (.lst (ps.map Jb9)))]
noncomputable abbrev σw (wl ps:List Nat) (d:Addr) (R:Bool) (wd:Nat):Sto:=(Str.ofString "width",.val (Jb9 wd))::σ0 wl ps d R
noncomputable abbrev σh (wl ps:List Nat) (d:Addr) (R:Bool) (wd hd:Nat):Sto:=(Str.ofString "head",.val (Jb9 hd))::σw wl ps d R wd
noncomputable abbrev σ1 (wl ps:List Nat) (d:Addr) (R:Bool) (wd hd:Nat):Sto:=(Str.ofString "lines",.val (lnD wl hd wd))::σh wl ps d R wd hd
noncomputable abbrev σ2 (wl ps:List Nat) (d:Addr) (R:Bool) (wd hd:Nat):Sto:=(Str.ofString "alike",.val (.lst ((alk wl hd wd).map .int)))::σ1 wl ps d R wd hd
noncomputable abbrev σ3 (wl ps:List Nat) (d:Addr) (R:Bool) (wd hd:Nat):Sto:=(Str.ofString "line",.val (.str (sOf (List.replicate hd 32++wl))))::σ2 wl ps d R wd hd
noncomputable abbrev σ4 (wl ps:List Nat) (d:Addr) (R:Bool) (wd hd:Nat):Sto:=(Str.ofString "due",.val (lnD wl hd wd))::σ3 wl ps d R wd hd
noncomputable def okT (wl ps:List Nat) (hd wd:Nat):Bool:=((alk wl hd wd).length:Int)==((rws wl hd wd).length:Int) - 1
structure LoK (prog:Program) (w:World) (g:Heap) (T:Ja3) (n:Nat):Prop where
 agr:∀ {a b:List Nat},(∀ x∈a,x<128)->(∀ x∈b,x<128)->a.length<=900->ClV prog w g T n "_law_agree" [.str (sOf a),.str (sOf b)] (.bool (agB a b))
 len:Glb g "len" (.builtin "len")
 ran:Glb g "range" (.type "range")
section
variable {prog:Program}{w:World}{g g':Heap}{T:Ja3}{n:Nat}{wl ps:List Nat}{d:Addr}{R:Bool}{hd wd:Nat}{a b:Bool}{i k:Nat}
theorem ClV.up {x:Str}{ds:List D}{r:D}(up:∀ b o,g.get? b=some o->g'.get? b=some o) (c:ClV prog w g T n x ds r):ClV prog w g' T n x ds r:=by
 cases c with | mk fv hg ca run =>
 refine ⟨fv,hg.up up,?_,fun A s av vs rm q hav hv=>Ja0 (run A s av vs rm (q.down up) hav hv) fun v s' h=>⟨h.1.rise up,h.2⟩⟩
 cases ca with
 | bi id=>exact .bi id
 | ty t=>exact .ty t
 | fn e h=>exact .fn (up _ _ e) h
theorem LoK.up (up:∀ b o,g.get? b=some o->g'.get? b=some o) (k:LoK prog w g T n):LoK prog w g' T n:=⟨fun a b c=>(k.agr a b c).up up,k.len.up up,k.ran.up up⟩
theorem JA8:Jg5 prog w g T .Eq (.bool a) (.bool b) (a==b):=fun A s av u v V hu hv=>by rw [hu.i3,hv.i3]; exact eq_bool Jal
theorem Jk8 (hw:hd<wd):(rws wl hd wd).length<=hd+wl.length:=Nat.le_trans (Jl0 (by lia)) (by rw [List.length_append,List.length_replicate]; exact Nat.le_refl _)
theorem Jxz (hw:hd<wd) (h:wl≠[]):1<=(rws wl hd wd).length:=by
 rw [rws,Ji2 (by lia) (by rw [ne_eq,List.append_eq_nil_iff]; exact fun q=>h q.2)]
 exact Nat.succ_le_succ (Nat.zero_le _)
theorem Jwc (h:i<(rws wl hd wd).length):((Je5 hd wd wl).map D.str)[i]?=some (.str (sOf (32::Jid wl hd wd i))):=by
 rw [Je5,List.map_map,List.getElem?_map,Jid,List.getD_eq_getElem?_getD,List.getElem?_eq_getElem h]; rfl
theorem Jp3 (hs:Sgn wl) (h:i<(rws wl hd wd).length):(∀ x∈32::Jid wl hd wd i,x<128)/\(Jid wl hd wd i).length<=wd:=by
 have hm:Jid wl hd wd i∈rws wl hd wd:=by
  rw [Jid,List.getD_eq_getElem?_getD,List.getElem?_eq_getElem h]; exact List.getElem_mem h
 obtain ⟨h1,h2⟩:=Jfy _ hm
 refine ⟨fun x hx=>?_,h1⟩
 rcases List.mem_cons.mp hx with rfl | hx
 ·decide
 rcases List.mem_append.mp (h2 x hx) with q | q
 ·rw [List.eq_of_mem_replicate q]; decide
 ·have:=hs x q; lia
theorem Jtz (k:LoK prog w g T (n+1)) (hw:hd<wd) (h20:wd<=20) (hl:wl.length<=20) (hne:wl≠[]) (hs:Sgn wl):Sx prog w g T (n+1) Jeu (σ1 wl ps d R wd hd) (nth loT 1) (.next (σ2 wl ps d R wd hd)):=by
 have hn:=Jk8 (wl:=wl) hw
 have h1:=Jxz hw hne
 have e:(alk wl hd wd).map D.int=((JEe wl hd wd).filter (JDm wl hd wd)).map fun p:Nat=>D.int ((p:Int)*wd - hd):=List.map_map ..
 have e0:((Je5 hd wd wl).map D.str).length=(rws wl hd wd).length:=by rw [List.length_map,List.length_map]
 have hz:((Je5 hd wd wl).map D.str).length<=lim:=e0▸Nat.le_trans hn (Nat.le_trans (show hd+wl.length<=40 by lia) (by decide))
 have el:((((Je5 hd wd wl).map D.str).length:Nat):Int)=(((rws wl hd wd).length - 1:Nat):Int)+1:=by rw [e0]; lia
 rw [σ2,e]
 refine Sx.assignSome (enc:=Jb9) rfl rfl (fun V V=>rfl) (JE6 _▸el▸EvI.range2 rfl k.ran (fun V V=>rfl) (fun V V=>rfl) Ev.int (Ev.call rfl (EvL.more (fun V=>rfl) (Ev.name rfl) EvL.nil) (Jbb k.len hz)) rfl (Jar.mpr (by rw [e0]; lia))) (by rw [List.length_map,List.length_range]; exact Nat.le_trans (show (rws wl hd wd).length - 1<=40 by lia) (by decide)) rfl fun p hp=>⟨[(Str.ofString "place",Jb9 p)],.name,Jaa rfl,rfl,?_,fun V=>Ev.bin (Ev.bin (Ev.name rfl) (Ev.name rfl) (Jbw (Jfe ?_) (Jfe ?_))) (Ev.name rfl) Jap⟩
 ·obtain ⟨i,hi,rfl⟩:=List.mem_map.mp hp
  have hi:=List.mem_range.mp hi
  have a1:=Jp3 (wd:=wd) (hd:=hd) hs (show i+1 - 1<(rws wl hd wd).length by lia)
  have a2:=Jp3 (wd:=wd) (hd:=hd) hs (show i+1<(rws wl hd wd).length by lia)
  exact EvT.val (Ev.call rfl (EvL.more (fun V=>rfl) (Ev.item (Ev.name rfl) (Ev.bin (Ev.name rfl) Ev.int Jap) (fun V V=>rfl) (Jdx (k:=i+1 - 1) (by show ((i+1:Nat):Int) - 1=_; lia) (by rw [show ((i+1:Nat):Int) - 1=((i:Nat):Int) by lia]; exact Jc8 (by lia)) (Jwc (by lia)))) (EvL.more (fun V=>rfl) (Ev.item (Ev.name rfl) (Ev.name rfl) (fun V V=>rfl) (Jdx (k:=i+1) rfl (Jc8 (by lia)) (Jwc (by lia)))) EvL.nil)) (k.agr a1.1 a2.1 (by rw [List.length_cons]; lia))) (fun V V=>rfl) Jh5
 ·obtain ⟨i,hi,rfl⟩:=List.mem_map.mp hp
  have hi:=List.mem_range.mp hi
  lia
 ·lia
theorem Jpc (k:Nat):Jjt sp1 (k:Int)=sOf (List.replicate k 32):=by
 cases k with
 | zero=>exact if_pos (by decide)
 | succ k=>exact Jpa k
theorem Jz2 (h20:hd<=20) (hl:wl.length<=20):Sx prog w g T (n+1) Jeu (σ2 wl ps d R wd hd) (nth loT 3) (.next (σ3 wl ps d R wd hd)):=by
 have hr:(Jjt sp1 (hd:Int)).length<=lim:=by rw [Jpc,Ja7,List.length_replicate]; exact Nat.le_trans h20 (by decide)
 exact Sx.assign (Jbu▸Jpc hd▸Ev.bin (Ev.bin Ev.str (Ev.name rfl) (Jmf (by decide +kernel) (by lia) (by lia) hr)) (Ev.name rfl) (Ji6 hr (by rw [Ja7]; exact Nat.le_trans hl (by decide)))) (fun V V V=>rfl) rfl
end
end
section
section
variable {prog:Program}{w:World}{g:Heap}{T:Ja3}{n:Nat}{wl ps:List Nat}{d:Addr}{R:Bool}{hd wd:Nat}{a b:Bool}{l:List Nat}{i k:Nat}
theorem JHi (h:1<=wd) (L:Nat):Jio 0 (L:Int) (wd:Int)=(List.range ((L+(wd - 1)) / wd)).map fun i:Nat=>D.int ((i*wd:Nat):Int):=by
 have e:(Builtin.Range.rangeSize 0 (L:Int) (wd:Int)).toNat=(L+(wd - 1)) / wd:=by
  unfold Builtin.Range.rangeSize
  rw [if_pos (by lia)]
  by_cases c:L=0
  ·subst c
   rw [if_neg (by decide),Nat.zero_add,Nat.div_eq_of_lt (by lia)]; rfl
  ·rw [if_pos (by lia),show (L:Int) - 0 - 1=((L - 1:Nat):Int) by lia, <- Int.natCast_ediv,show L+(wd - 1)=(L - 1)+wd by lia,Nat.add_div_right _ (by lia)]; rfl
 unfold Jio
 rw [e]
 exact List.map_congr_left fun i V=>congrArg D.int (by rw [Int.zero_add,Int.natCast_mul])
theorem Jkz {k n:Nat}(h:k<=n):max 0 (min (k:Int) (n:Int))=(k:Int):=by rw [Int.min_eq_left (Int.ofNat_le.mpr h),Int.max_eq_right (Int.natCast_nonneg _)]
theorem Jre {k m n:Nat}(h:k<=n):max 0 (min ((k+m:Nat):Int) (n:Int))=((k+min m (n - k):Nat):Int):=by
 by_cases c:m<=n - k
 ·rw [Nat.min_eq_left c,Jkz (Nat.add_le_of_le_sub' h c)]
 ·have c:=Nat.le_of_not_le c
  rw [Nat.min_eq_right c,Nat.add_sub_cancel' h,Int.min_eq_right (Int.ofNat_le.mpr (Nat.sub_le_iff_le_add'.mp c)),Int.max_eq_right (Int.natCast_nonneg _)]
theorem Jpi (l:List Nat) {a m:Nat}(h:a<=l.length):Jfh (sOf l) (some (a:Int)) (some ((a+m:Nat):Int)) none=sOf ((l.drop a).take m):=by
 rw [Jhe (l:=l) (a:=a) (m:=min m (l.length - a)) (Nat.add_le_of_le_sub' h (Nat.min_le_right ..)) (by
  unfold Builtin.Str.strSliceIndices
  dsimp only
  rw [if_neg (Int.not_lt.mpr (Int.natCast_nonneg _)),if_pos (by decide),if_neg (Int.not_lt.mpr (Int.natCast_nonneg _)),Jkz h,Jre h,if_pos (by decide)])]
 congr 1
 rw [List.take_eq_take_min (l:=l.drop a) (i:=m),List.length_drop]
theorem JC3 (k:LoK prog w g T (n+1)) (hw:hd<wd) (h20:wd<=20) (hl:wl.length<=20):Sx prog w g T (n+1) Jeu (σ3 wl ps d R wd hd) (nth loT 4) (.next (σ4 wl ps d R wd hd)):=by
 have el:(sOf (List.replicate hd 32++wl)).length=hd+wl.length:=by rw [Ja7,List.length_append,List.length_replicate]
 have ll:(List.replicate hd 32++wl).length=hd+wl.length:=by rw [List.length_append,List.length_replicate]
 have e:lnD wl hd wd=.lst ((List.range (((sOf (List.replicate hd 32++wl)).length+(wd - 1)) / wd)).map fun i:Nat=>D.str (sOf (32::((List.replicate hd 32++wl).drop (i*wd)).take wd))):=by
  rw [lnD,Je5,chk,List.map_map,List.map_map,el,ll]; rfl
 have hz:(sOf (List.replicate hd 32++wl)).length<=lim:=by rw [el]; exact Nat.le_trans (show hd+wl.length<=40 by lia) (by decide)
 rw [σ4,e]
 have hq:((sOf (List.replicate hd 32++wl)).length+(wd - 1)) / wd<=hd+wl.length:=by rw [el, <- ll]; exact (List.length_range (n:=_)▸List.length_map (as:=List.range _) _▸Jl0 (by lia):(((List.replicate hd 32++wl).length+(wd - 1)) / wd)<=_)
 refine Sx.assignEach rfl rfl (fun V V=>rfl) (JHi (wd:=wd) (by lia) _▸EvI.range3 rfl k.ran (fun V V=>rfl) (fun V V=>rfl) (fun V V=>rfl) Ev.int (Ev.call rfl (EvL.more (fun V=>rfl) (Ev.name rfl) EvL.nil) (Jce k.len hz)) (Ev.name rfl) rfl (Jar.mpr (by rw [el]; lia)) (Jar.mpr (by lia)) (by lia)) (by rw [List.length_range]; exact Nat.le_trans hq (Nat.le_trans (show hd+wl.length<=40 by lia) (by decide))) rfl fun i hi=>⟨[(Str.ofString "at",Jb9 (i*wd))],.name,Jaa rfl,rfl,?_⟩
 have hi:=List.mem_range.mp hi
 have hle:i*wd<=(List.replicate hd 32++wl).length:=by
  have:=(Nat.le_div_iff_mul_le (show 0<wd by lia)).mp (Nat.succ_le_of_lt hi)
  rw [Nat.succ_mul,el] at this
  rw [ll]; lia
 have hp:=Jpi (List.replicate hd 32++wl) (m:=wd) hle
 have hm:(sOf (((List.replicate hd 32++wl).drop (i*wd)).take wd)).length<=lim:=by
  rw [Ja7,List.length_take,List.length_drop,ll]
  exact Nat.le_trans (show min wd (hd+wl.length - i*wd)<=20 by lia) (by decide)
 have:=Jbu (a:=[32]) (b:=((List.replicate hd 32++wl).drop (i*wd)).take wd)
 rw [<- Jfd] at this
 show Ev prog w g T (n+1) _ _ _ (.str (sOf ([32]++((List.replicate hd 32++wl).drop (i*wd)).take wd)))
 rw [<- this]
 refine Ev.bin Ev.str (hp▸Ev.slice (Ev.name rfl) (.some' (Ev.name rfl)) (.some' (Int.natCast_add _ _▸Ev.bin (Ev.name rfl) (Ev.name rfl) Jag)) .none' (Jbg rfl ?_)) (Ji6 (by decide) ?_)
 ·exact hm
 ·rw [hp]; exact hm
theorem Jv4 (l:List Str):(PyData.list (l.map .str)).eqv (.list (l.map .str))=true:=by
 show PyData.eqvAll (l.map .str) (l.map .str)=true
 induction l with
 | nil=>rfl
 | cons x l ih=>show ((x==x)&&_)=true; rw [beq_self_eq_true,ih]; rfl
theorem JAp (ps:List Nat) (k:Nat):((ps.map fun x:Nat=>PyData.int (x:Int)).any fun y=>y.eqv (.int (k:Int)))=ps.contains k:=by
 induction ps with
 | nil=>rfl
 | cons x ps ih =>
  rw [List.map_cons,List.any_cons,List.contains_cons,ih]
  congr 1
  show ((x:Int)==(k:Int))=(k==x)
  rw [Bool.eq_iff_iff,beq_iff_eq,beq_iff_eq]
  lia
theorem Jtv (k:LoK prog w g T (n+1)) (hw:hd<wd) (h20:wd<=20) (hl:wl.length<=20) (hs:Sgn wl) (hps:ps.length<=20):Sx prog w g T (n+1) Jeu (σ4 wl ps d R wd hd) (nth loT 5) (.next ((Str.ofString "right",.val (.bool (R&&(okT wl ps hd wd==ps.contains wd))))::σ4 wl ps d R wd hd)):=by
 have hn:=Jk8 (wl:=wl) hw
 have e0:((Je5 hd wd wl).map D.str).length=(rws wl hd wd).length:=by rw [List.length_map,List.length_map]
 have a0:((alk wl hd wd).map D.int).length=(alk wl hd wd).length:=List.length_map ..
 have ha:(alk wl hd wd).length<=(rws wl hd wd).length - 1:=by
  rw [alk,List.length_map]
  exact Nat.le_trans (List.length_filter_le ..) (by rw [List.length_map,List.length_range]; exact Nat.le_refl _)
 have h40:(40:Nat)<=lim:=by decide
 have ok:∀ r∈rws wl hd wd,PyData.strOk (sOf (32::r))=true:=fun r hr=>Array.all_eq_true'.mpr fun y hy=>decide_eq_true (by
  rcases List.mem_cons.mp (List.mem_toArray.mp hy) with rfl | q
  ·decide
  rcases List.mem_append.mp ((Jfy r hr).2 y q) with q | q
  ·rw [List.eq_of_mem_replicate q]; decide
  ·have:=hs y q; omega)
 have dp:Dp 9 (lnD wl hd wd) (.list ((Je5 hd wd wl).map .str)):=.lst (Dps.map fun x hx=>.str (by obtain ⟨r,hr,rfl⟩:=List.mem_map.mp hx; exact ok r hr))
 have e1:(R&&(okT wl ps hd wd==ps.contains wd))=(R&&((PyData.list ((Je5 hd wd wl).map .str)).eqv (.list ((Je5 hd wd wl).map .str))&&(okT wl ps hd wd==((ps.map fun x:Nat=>PyData.int (x:Int)).any fun y=>y.eqv (.int (wd:Int)))))):=by rw [Jv4,JAp,Bool.true_and]
 rw [e1]
 have v1:∀ {p1 p2 p3:Pos},Ev prog w g T (n+1) Jeu (σ4 wl ps d R wd hd) (.Call (.Name "len" p1) [.Name "alike" p2] [] p3) (.int ((alk wl hd wd).length:Int)):=fun {_ _ _}=>a0▸Ev.call rfl (EvL.more (fun V=>rfl) (Ev.name rfl) EvL.nil) (Jbb k.len (by rw [a0]; omega))
 have v2:∀ {p1 p2 p3:Pos},Ev prog w g T (n+1) Jeu (σ4 wl ps d R wd hd) (.Call (.Name "len" p1) [.Name "due" p2] [] p3) (.int ((rws wl hd wd).length:Int)):=fun {_ _ _}=>e0▸Ev.call rfl (EvL.more (fun V=>rfl) (Ev.name rfl) EvL.nil) (Jbb k.len (by rw [e0]; omega))
 exact Sx.assign (Ev.bool2 (EvV.and_cons (Ev.name rfl) fun V=>EvV.and_cons (Ev.cmp (Ev.name rfl) (Ev.name rfl) rfl (Jrd dp dp)) fun V=>EvV.one (Ev.cmp (Ev.cmp v1 (Ev.bin v2 Ev.int Jap) rfl Jcd) (Ev.cmp (Ev.name rfl) (Ev.name rfl) rfl (JD7 .int (Dps.map fun x hx=>.int))) rfl JA8))) (fun V V V=>rfl) rfl
end
end
section
noncomputable abbrev Jr7 (wd:Nat) (L:Loc) (k:Int):Loc:=JB2 L k wd
noncomputable def Jfc (wl ps:List Nat) (wd:Nat) (j:Bool×Loc) (hd:Nat):Bool×Loc:=(j.1&&(okT wl ps hd wd==ps.contains wd),(alk wl hd wd).foldl (Jr7 wd) j.2)
theorem Jlp (L:Loc) (k v:Int):(JB2 L k v).length<=L.length+1:=by
 unfold JB2
 by_cases h:(Jcz L k).isSome=true
 ·rw [if_pos h]; exact Nat.le_succ _
 ·rw [if_neg h,List.length_append]; exact Nat.le_refl _
theorem Jv9 (wd:Nat):∀ (l:List Int) (L:Loc),(l.foldl (Jr7 wd) L).length<=L.length+l.length:=by
 intro l
 induction l with
 | nil=>exact fun L=>Nat.le_refl _
 | cons k l ih=>exact fun L=>Nat.le_trans (ih _) (by have:=Jlp L k wd; rw [List.length_cons]; show (JB2 L k wd).length+_<=_; lia)
theorem Jrz {wl:List Nat}{hd wd:Nat}(hw:hd<wd):(alk wl hd wd).length<=hd+wl.length - 1:=by
 have:=Jk8 (wl:=wl) hw
 rw [alk,List.length_map]
 exact Nat.le_trans (List.length_filter_le ..) (by rw [List.length_map,List.length_range]; omega)
section
variable {c hd wd:Nat}{t ps:List Nat}{prog:Program}{w:World}{K:Frag}{g h0:Heap}{T:Ja3}{n:Nat}{A:Around}{a:Jbn}{b:Jc7}{fd ad ml fl fr d:Addr}{outer:List Env}{env:Env}{av:List Addr}{R:Bool}{L:Loc}
structure LoF (g:Heap) (outer:List Env) (d:Addr) (env:Env) (A:Around):Prop where
 he:env.scope=Jeu
 fr:A.frames=some (env::outer)
 hf:env.frame=some env.locals
 hc:∀ x c,env.cells.lookup x=some c->env.kindOf x=some .cell\/env.kindOf x=some .free
 dF:d∉frA outer
 dg:g.get? d=none
 oF:∀ b∈frA outer,g.get? b=none
theorem Jtw (P:LrK prog w K g T a b fd ad ml fl fr) (grw:Glb g "_law_rows" (.ref fr)) (F:LoF g outer d env A) (rm:Rm (n+14) A) (k:RwK hd wd c t) :
  StX prog w g T Jeu A env (wL prog w g h0 outer d av) L (σh (c::t) ps d R wd hd) (nth loT 0) (.next (σ1 (c::t) ps d R wd hd)) L:=fun s ow hoc Z=>by
 have ok:=Jms (prog:=prog) (w:=w) (h0:=h0) (av:=av) F.dg F.oF
 refine wpAny_Assign_Name (Jf1 (n:=n+14) rfl grw P.hf (EvL.more (fun V=>rfl) (Ev.name rfl) (EvL.more (fun V=>rfl) (Ev.name rfl) (EvL.more (fun V=>rfl) (Ev.name rfl) EvL.nil))) F.he rm Z.F.gk Z.F.ec fun vs sA xA r1=>?_) rfl
 cases r1.i1 with | mk ra rb =>
 cases rb.i1 with | mk rc rd =>
 cases rd.i1 with | mk re rg =>
 cases rg.i0
 obtain ⟨t0,rfl⟩:=ra.i5
 obtain ⟨t1,rfl⟩:=rc.i4
 obtain ⟨t2,rfl⟩:=re.i4
 have Z1:=Z.ext ok xA
 have FE:FrO g sA.heap (env::outer):=.cons (Z1.F.frk F.hf) Z1.w.fo
 refine Ja0 (Jxh P rm Z1.F.gk F.fr FE k Z1.F.ec.avok) fun v s2 h₂=>?_
 cases h₂ with | mk m sl r =>
 have Z2:=FmW.rows F.dF F.dg Z1 F.hf F.hc m sl
 refine Ja0 (Jb1 Z2.F (Jd1 Z2.F.ec F.he (hoc.symm▸rfl)) r) fun V s3 h₃=>.next ⟨ow.drop (Str.ofString "lines"),rfl,h₃.F,Mv.trans (Mv.trans (W:=fun b=>Wr env ow b\/(b=d\/b∈frA outer)) xA.mv m fun b hb=>?_) h₃.m fun b hb=>.inl (.inl hb),fun V hb=>.inl hb.drop⟩ (ok.mv h₃.m Z2.F.gk Z2.w (fun b hb hp=>Z2.nw b hp hb) (Jd8 Z2.F h₃.m))
 rw [Jbs F.hf] at hb
 exact .inl ((List.mem_cons.mp hb).elim (fun q=>.inl (.inl q)) fun q=>.inr (.inr q))
theorem Jz1 (P:LrK prog w K g T a b fd ad ml fl fr) (grw:Glb g "_law_rows" (.ref fr)) (kk:LoK prog w g T (n+1)) (F:LoF g outer d env A) (rm:Rm (n+14) A) (k:RwK hd wd c t) (hwd:wd<=20) (hl:t.length+1<=20) (hps:ps.length<=20) (hL:L.length<=800) :
  StA prog w g T Jeu A env (wL prog w g h0 outer d av) L (σh (c::t) ps d R wd hd) loT (.next (σw (c::t) ps d (Jfc (c::t) ps wd (R,L) hd).1 wd)) (Jfc (c::t) ps wd (R,L) hd).2:=by
 have ok:=Jms (prog:=prog) (w:=w) (h0:=h0) (av:=av) F.dg F.oF
 have rm1:Rm (n+1) A:=rm.le (by lia)
 have hs:Sgn (c::t):=List.forall_mem_cons.mpr ⟨k.c,k.t⟩
 have hal:=Jrz (wl:=c::t) k.lt
 have hlw:=k.lt
 rw [List.length_cons] at hal
 have up:∀ {g':Heap},(∀ b o,g.get? b=some o->g'.get? b=some o)->LoK prog w g' T (n+1):=fun u=>kk.up u
 refine StA.post (StA.cons ok (Jtw P grw F rm k) (StA.cons ok (StX.of (SxU.next ok fun g' u V=>Jtz (up u) k.lt hwd hl nofun hs) F.he rm1) (StA.cons ok (StX.for ok F.he rm1 (EvI.list (Ev.name rfl)) (fun V V=>rfl) (JB0.step (κ:=Loc) (enc:=D.int) (f:=Jr7 wd) (st:=fun V=>σ2 (c::t) ps d R wd hd) (pr:=id) (μ:=List.length) (M:=899) (c:=1) (fun cut V k=>Jlp k cut wd) (fun cut hcut=>⟨[(Str.ofString "cut",.int cut)],.name,Jaa rfl,fun L' fp hL'=>?_⟩) (by lia))) (StA.cons ok (StX.of (SxU.next ok fun g' u V=>Jz2 (Nat.le_trans (Nat.le_of_lt k.lt) hwd) hl) F.he rm1) (StA.cons ok (StX.of (SxU.next ok fun g' u V=>JC3 (up u) k.lt hwd hl) F.he rm1) (StA.cons ok (StX.of (SxU.next ok fun g' u V=>Jtv (up u) k.lt hwd hl hs hps) F.he rm1) StA.nil)))))) ?_
 ·exact StA.post (StA.cons (ok.on fp) (StX.of (SxU.setdef (av:=fp++av) rfl rfl rfl rfl (Nat.le_trans hL' (by decide)) F.dg F.oF F.dF) F.he rm1) StA.nil) (Sub.push (x:=Str.ofString "cut") (sl:=.val (.int cut)) rfl)
 ·exact .cons rfl (.cons rfl (.cons rfl (.cons rfl (.cons rfl .nil))))
end
end
section
noncomputable def Jsf (ps:List Nat) (wd:Nat):Nat:=if decide ((wd:Int)<=((ps.getD 0 0:Nat):Int))=true then wd else 1
noncomputable def Jik (wl ps:List Nat) (j:Bool×Loc) (wd:Nat):Bool×Loc:=(List.range (Jsf ps wd)).foldl (Jfc wl ps wd) j
noncomputable def Jg8 (wl ps:List Nat):Bool×Loc:=((List.range wl.length).map (· + 1)).foldl (Jik wl ps) (true,[])
theorem Jwn {ps:List Nat}{wd:Nat}(h:1<=wd):Jsf ps wd<=wd:=by
 unfold Jsf
 by_cases c:decide ((wd:Int)<=((ps.getD 0 0:Nat):Int))=true
 ·rw [if_pos c]; exact Nat.le_refl _
 ·rw [if_neg c]; exact h
theorem Jil {wl ps:List Nat}{wd:Nat}(hwd:wd<=7) (hl:wl.length<=7) (j:Bool×Loc) (hd:Nat) (hlt:hd<wd):(Jfc wl ps wd j hd).2.length<=j.2.length+13:=by
 have h1:=Jv9 wd (alk wl hd wd) j.2
 have h2:=Jrz (wl:=wl) hlt
 show ((alk wl hd wd).foldl (Jr7 wd) j.2).length<=_
 omega
theorem Joy {wl ps:List Nat}{wd:Nat}(h1:1<=wd) (h7:wd<=7) (hl:wl.length<=7) (j:Bool×Loc):(Jik wl ps j wd).2.length<=j.2.length+91:=by
 have hle:=Jwn (ps:=ps) h1
 have go:∀ (xs:List Nat) (j:Bool×Loc),(∀ x∈xs,x<wd)->(xs.foldl (Jfc wl ps wd) j).2.length<=j.2.length+xs.length*13:=by
  intro xs
  induction xs with
  | nil=>exact fun j V=>Nat.le_refl _
  | cons x xs ih =>
   intro j hx
   have q1:=Jil h7 hl (ps:=ps) j x (hx x (.head _))
   have q2:=ih (Jfc wl ps wd j x) fun y hy=>hx y (.tail _ hy)
   rw [List.foldl_cons,List.length_cons]
   lia
 have:=go (List.range (Jsf ps wd)) j fun x hx=>by have:=List.mem_range.mp hx; lia
 rw [List.length_range] at this
 show ((List.range (Jsf ps wd)).foldl (Jfc wl ps wd) j).2.length<=_
 lia
theorem EvF.range2 {prog:Program}{w:World}{g:Heap}{T:Ja3}{n:Nat}{sc:Scope}{σ:Sto}{x f:Str}{p p' pos:Pos}{eA eB:Expr}{i j:Int}(hx:sc.names.lookup f=some .globalImplicit) (hgl:Glb g f (.type "range")) (hs:Jlc eA) (hsB:Jlc eB) (he:Ev prog w g T n sc σ eA (.int i)) (he2:Ev prog w g T n sc σ eB (.int j)) (hm:Jju i=true) (hm2:Jju j=true) :
  EvF prog w g T n sc σ (.Name x p') (.Call (.Name f p) [eA,eB] [] pos) (Jio i j 1):=fun A s av env hev rm hg hc=>
 Jch hx hgl (.more (hs _) he (.more (hsB _) he2 .nil)) hev rm hg hc fun vs sA xA r1=>by
  cases r1.i1 with | mk a r=>cases r.i1 with | mk b r2=>cases r2.i0; obtain ⟨_,rfl⟩:=VD.i4 a; obtain ⟨_,rfl⟩:=VD.i4 b; exact call_range_2 (Jc1 (by decide) hm hm2 (by decide) (xA.trans (.of _ _ (Jae _ _))) hg .name (Heap.get?_push_size _ rfl))
section
variable {c hd wd:Nat}{t ps:List Nat}{prog:Program}{w:World}{K:Frag}{g h0:Heap}{T:Ja3}{n:Nat}{A:Around}{a:Jbn}{b:Jc7}{fd ad ml fl fr d:Addr}{outer:List Env}{env:Env}{av:List Addr}{R:Bool}{L:Loc}
variable (P:LrK prog w K g T a b fd ad ml fl fr) (grw:Glb g "_law_rows" (.ref fr)) (kk:LoK prog w g T (n+1)) (F:LoF g outer d env A) (rm:Rm (n+14) A) (hc:65<=c/\c<=80) (ht:Sgn t) (hl:t.length+1<=7) (hps:ps.length<=7) (hp0:1<=ps.length)
include P grw kk F rm hc ht hl hps hp0
theorem Jtx (h1:1<=wd) (h7:wd<=7) (hL:L.length<=700):StX prog w g T Jeu A env (wL prog w g h0 outer d av) L (σw (c::t) ps d R wd) loH (.next (σw (c::t) ps d (Jik (c::t) ps (R,L) wd).1 wd)) (Jik (c::t) ps (R,L) wd).2:=by
 have ok:=Jms (prog:=prog) (w:=w) (h0:=h0) (av:=av) F.dg F.oF
 have rm1:Rm (n+1) A:=rm.le (by lia)
 have hle:=Jwn (ps:=ps) h1
 have it:(ps.map Jb9)[0]?=some (Jb9 (ps.getD 0 0)):=by
  rw [List.getElem?_map,List.getD_eq_getElem?_getD,List.getElem?_eq_getElem (show 0<ps.length from hp0)]; rfl
 have e:((Jsf ps wd:Nat):Int)=if decide ((wd:Int)<=((ps.getD 0 0:Nat):Int))=true then (wd:Int) else 1:=by
  unfold Jsf
  by_cases q:decide ((wd:Int)<=((ps.getD 0 0:Nat):Int))=true
  ·rw [if_pos q,if_pos q]
  ·rw [if_neg q,if_neg q]; rfl
 have hi:∀ {p1 p2 p3 p4 p5 p6 p7 p8:Pos}{k1 k2:Nat},Ev prog w g T (n+1) Jeu (σw (c::t) ps d R wd) (.IfExp (.Compare (.Name "width" p1) [.LtE] [.Subscript (.Name "periods" p2) (.Constant (.int 0) k1 p3) p4] p5) (.Name "width" p6) (.Constant (.int 1) k2 p7) p8) (.int ((Jsf ps wd:Nat):Int)):=fun {_ _ _ _ _ _ _ _ _ _}=>by
  refine Ev.ite (EvT.cmp (Ev.name rfl) (Ev.item (Ev.name rfl) Ev.int (fun V V=>rfl) (Jdx (k:=0) rfl rfl it)) rfl Jwx) ?_
  rw [e]
  by_cases q:decide ((wd:Int)<=((ps.getD 0 0:Nat):Int))=true
  ·rw [if_pos q,if_pos q]; exact Ev.name rfl
  ·rw [if_neg q,if_neg q]; exact Ev.int
 refine StX.for ok F.he rm1 (Jfg (Jsf ps wd)▸EvI.range1 rfl kk.ran (fun V V=>rfl) hi (Jar.mpr (by lia))) (fun V V=>rfl) (JB0.step (κ:=Bool×Loc) (enc:=Jb9) (f:=Jfc (c::t) ps wd) (st:=fun j=>σw (c::t) ps d j.1 wd) (pr:=fun j=>j.2) (μ:=fun j=>j.2.length) (M:=800) (c:=13) (k:=(R,L)) (fun hd hm k=>?_) (fun hd hm=>⟨[(Str.ofString "head",Jb9 hd)],.name,Jaa rfl,fun j fp hj=>?_⟩) ?_)
 ·have:=List.mem_range.mp hm
  exact Jil (wl:=c::t) h7 hl k hd (by lia)
 ·have:=List.mem_range.mp hm
  exact Jz1 (n:=n) P grw kk F rm ⟨by lia,by lia,by lia,hc,ht⟩ (by lia) (by lia) (by lia) hj
 ·rw [List.length_range]
  show L.length+_<=800
  lia
theorem Jpx:StX prog w g T Jeu A env (wL prog w g h0 outer d av) [] (σ0 (c::t) ps d true) loW (.next (σ0 (c::t) ps d (Jg8 (c::t) ps).1)) (Jg8 (c::t) ps).2:=by
 have ok:=Jms (prog:=prog) (w:=w) (h0:=h0) (av:=av) F.dg F.oF
 have rm1:Rm (n+1) A:=rm.le (by lia)
 have el:(sOf (c::t)).length=t.length+1:=by rw [Ja7]; rfl
 have hi:∀ {p1 p2 p3 p4 p5:Pos}{k1:Nat},Ev prog w g T (n+1) Jeu (σ0 (c::t) ps d true) (.BinOp (.Call (.Name "len" p1) [.Name "word" p2] [] p3) .Add (.Constant (.int 1) k1 p4) p5) (.int (((c::t).length:Int)+1)):=fun {_ _ _ _ _ _}=>Ev.bin (Ja7 (c::t)▸Ev.call rfl (EvL.more (fun V=>rfl) (Ev.name rfl) EvL.nil) (Jce kk.len (by rw [el]; exact Nat.le_trans hl (by decide)))) Ev.int Jag
 refine StX.for ok F.he rm1 (JE6 (c::t).length▸EvF.range2 rfl kk.ran (fun V V=>rfl) (fun V V=>rfl) Ev.int hi rfl (Jar.mpr (by rw [List.length_cons]; lia))) (fun V V=>rfl) (JB0.step (κ:=Bool×Loc) (enc:=Jb9) (f:=Jik (c::t) ps) (st:=fun j=>σ0 (c::t) ps d j.1) (pr:=fun j=>j.2) (μ:=fun j=>j.2.length) (M:=700) (c:=91) (k:=(true,[])) (fun wd hm k=>?_) (fun wd hm=>⟨[(Str.ofString "width",Jb9 wd)],.name,Jaa rfl,fun j fp hj=>?_⟩) ?_)
 ·obtain ⟨i,hi,rfl⟩:=List.mem_map.mp hm
  have:=List.mem_range.mp hi
  rw [List.length_cons] at this
  exact Joy (wl:=c::t) (by lia) (by lia) hl k
 ·obtain ⟨i,hi,rfl⟩:=List.mem_map.mp hm
  have:=List.mem_range.mp hi
  rw [List.length_cons] at this
  exact StA.post (StA.cons (ok.on fp) (Jtx P grw kk F rm hc ht hl hps hp0 (by lia) (by lia) hj) StA.nil) (Sub.push (x:=Str.ofString "width") rfl)
 ·rw [List.length_map,List.length_range,List.length_cons]
  show 0+_<=700
  lia
end
end
section
inductive ZD (g:Heap) (T:Ja3) (av0:List Addr) (ow:Ow) (s:Shared):List Addr->List D->List Value->Shared->Prop
 | mk {P:Addr}{us:List Value}{sA:Shared}(x:Ext g T s sA) (lo:(P==sysModules)=false) (hn:s.heap.get? P=none) (ho:sA.heap.get? P=some { cls:=.type "dict",data:=.dict #[] }) (hv:VDs (ow.adr++av0) sA.heap us [.bool true,.adr P]):ZD g T av0 ow s av0 [.bool true,.adr P] us sA
theorem Jwt:FnS Jeu ["word", "periods"]:=⟨⟨rfl,rfl,rfl,by decide +kernel⟩,by decide +kernel⟩
section
variable {c:Nat}{t ps:List Nat}{prog:Program}{w:World}{K:Frag}{g:Heap}{T:Ja3}{n:Nat}{A:Around}{s:Shared}{a:Jbn}{b:Jc7}{fd ad ml fl fr fo d:Addr}{outer:List Env}{env:Env}{av:List Addr}{v:Value}{tk:Tok}{L:Loc}{R:Bool}{ow:Ow}{σ:Sto}
theorem Jty {x:Str}(h:(x,NameKind.cell)∈Jeu.names):Jeu.names.lookup x=some .cell:=by
 have:=List.all_eq_true.mp (by decide +kernel:(Jeu.names.all fun p=>p.2 != .cell||Jeu.names.lookup p.1==some .cell)=true) _ h
 exact eq_of_beq this
theorem Jr1:IsD { cls:=.type "dict",data:=.dict #[]:Obj }:=⟨_,_,rfl⟩
theorem Jqf {x:Str}{u:Value}(hg:Glb g x u):∃ o,g.get? mainGlobals=some o:=by
 cases hg with
 | glob _ m n _=>exact n.elim fun o p=>p.elim fun V p=>p.elim fun V p=>⟨o,p.1⟩
 | blt _ m _ n _ _ _=>exact n.elim fun o p=>p.elim fun V p=>p.elim fun V p=>⟨o,p.1⟩
theorem Jyk {x:Str}{u:Value}(hg:Glb g x u) (q:GK g T s):(s.heap.objs.size==sysModules)=false:=by
 obtain ⟨o,ho⟩:=Jqf hg
 have h3:(3:Nat)<s.heap.objs.size:=Heap.lt_size (q.keep _ _ ho)
 exact beq_eq_false_iff_ne.mpr (show (s.heap.objs.size:Nat)≠1 by lia)
theorem JA0 {h':Heap}(lo:(d==sysModules)=false) (hd:h'.get? d=some { cls:=.type "dict",data:=.dict #[] }):IntTab prog w h' d (Jhu []) :=
 ⟨lo,[],⟨_, #[],0,hd,⟨rfl,rfl,rfl⟩,rfl,fun e he=>(Array.not_mem_empty _ he).elim,Pairs.nil,List.nodup_nil⟩,.nil⟩
theorem JC2 (kk:LoK prog w g T (n+1)) (ok:(wL prog w g h0 outer d av).Ok g) (hl:t.length+1<=7):SxU prog w g T (n+1) Jeu (wL prog w g h0 outer d av) L (σ0 (c::t) ps d R) (nth loB 2) (.ret (.tup [.bool R,.lst ((List.range t.length).map fun i=>.int ((Jcz L ((i+1:Nat):Int)).getD 0))])) L:=by
 have el:(sOf (c::t)).length=t.length+1:=by rw [Ja7]; rfl
 refine SxU.ret (EvU.gnd ok fun g' up P=>Ev.tup (EvL.more (fun V=>rfl) (Ev.name rfl) (EvL.more (fun V=>rfl) (EvO.ev ?_) EvL.nil)) (show (2:Nat)<=lim by decide))
 have e:(List.range t.length).map (fun i=>D.int ((Jcz L ((i+1:Nat):Int)).getD 0))=((List.range t.length).map (· + 1)).map fun i:Nat=>D.int ((Jcz L (i:Int)).getD 0):=by rw [List.map_map]; rfl
 rw [e]
 have kl:=(kk.up up).len
 exact EvO.each (enc:=Jb9) rfl rfl (fun V V=>rfl) (JE6 t.length▸(show ((sOf (c::t)).length:Int)=(t.length:Int)+1 by rw [el]; rfl)▸EvI.range2 rfl (kk.up up).ran (fun V V=>rfl) (fun V V=>rfl) Ev.int (Ev.call rfl (EvL.more (fun V=>rfl) (Ev.name rfl) EvL.nil) (Jce kl (by rw [el]; exact Nat.le_trans hl (by decide)))) rfl (Jar.mpr (by rw [el]; lia))) (by rw [List.length_map,List.length_range]; exact Nat.le_trans (show t.length<=7 by lia) (by decide)) fun i hi=>⟨[(Str.ofString "cut",Jb9 i)],.name,Jaa rfl,rfl,Ev.dget P.tab rfl rfl rfl⟩
theorem Jz0 {x:Str}{u:Value}(hg:Glb g x u) (he:env.scope=Jeu) (rm:Rm n A) (hoc:ow.c=Ja1 Jeu.names) (F:Fm g T av ow env σ s):wpAny (model prog w) A (exec (nth loB 0) env) (JG3 g T ow env σ ["right", "local"] (ZD g T av ow s)) NoE s:=by
 refine Jf9 he rm (wpAny_Tuple (wpAny_items_cons (wpAny_Constant_bool (wpAny_items_cons (wpAny_Dict_empty (wpAny_items_nil ⟨?_,?_⟩)) rfl)) rfl)) (fun {av' ds us sA h'} z hk=>?_) (.cons (.cons .nil)) rfl (by decide) (hoc.symm▸rfl) fun av' ds us sA z=>?_
 ·exact (by decide:(2:Nat)<=sizeLine)
 ·exact .mk (m:=0) (Heap.get?_push_size _ rfl) (.mk ((Ext.push _).trans (.push _)) (Jyk hg F.gk) (Ja8 _) (Heap.get?_push_of_some _ (Heap.get?_push_size _ rfl)) (.cons (.bool _) (.cons (.adr _) .nil)))
 ·cases z with | mk x lo hn ho hv =>
  have y:=Ext.of (g:=g) (T:=T) h' sA.toks hk
  exact .mk (x.trans y) lo hn (hk _ _ ho) (y.vds (x.gk F.gk) hv)
 ·cases z with | mk x lo hn ho hv=>exact ⟨F.ext x,hv,rfl⟩
theorem Jsp (P:LrK prog w K g T a b fd ad ml fl fr) (grw:Glb g "_law_rows" (.ref fr)) (kk:LoK prog w g T (n+1)) (hlo:Jg4 g fo Jeu ["word", "periods"] loB) (rm:Rm (n+15) A) (hg:GK g T s) (hfr:A.frames=some outer) (FO:FrO g s.heap outer) (hc:65<=c/\c<=80) (ht:Sgn t) (hl:t.length+1<=7) (hps:ps.length<=7) (hp0:1<=ps.length) (hav:Jdk av s.heap) (hv:VD av s.heap v (.lst (ps.map Jb9))) :
  wpAny (model prog w) A (call (.ref fo) [.str (sOf (c::t)) tk,v]) (JDx g T av outer (.tup [.bool (Jg8 (c::t) ps).1,.lst ((List.range t.length).map fun i=>.int ((Jcz (Jg8 (c::t) ps).2 ((i+1:Nat):Int)).getD 0))]) s) NoE s:=by
 refine Jde (n:=n+14) hlo Jwt.toFnS0 (.nil Jwt) rm hg hav (.cons (.str _ _) (.cons hv .nil)) rfl fun env ow sA N hff=>?_
 refine wpAny_mono (E:=NoE) ?_ (fun V V q=>q) fun V V f=>f.elim
 refine wpAny_execs_cons (Ja0 (Jz0 kk.len N.sc_ N.rm N.c N.F) fun fw s3 h₃=>?_)
 cases h₃ with | mk z asv =>
 cases z with | @mk d us s2 xB lo hn ho hv2 =>
 cases asv with | mk ow3 cC F3 m3 w3 l3 =>
 have ncl:∀ x c,env.cells.lookup x=some c->env.kindOf x=some .cell\/env.kindOf x=some .free:=fun x cc e=>by
  by_cases q:(x,NameKind.cell)∈Jeu.names
  ·exact .inl (by rw [Env.kindOf,N.sc_]; exact Jty q)
  ·exact nomatch (N.cells x q).symm.trans e
 have x12:=N.x.trans xB
 have ex:∀ {b},b∈frA outer->s.heap.get? b≠none:=fun hb q=>(FO.obj hb).2.elim fun o e=>nos q e.1
 have hd1:s.heap.get? d=none:=N.x.none hg hn
 have nwd:¬ Wr env ow d:=fun h=>(N.F.wr_ex h).elim fun o e=>nos hn e
 have hd3:s3.heap.get? d=some { cls:=.type "dict",data:=.dict #[] }:=m3.get' (xB.gk N.F.gk) ho nwd (Jb8 Jr1).2
 have LF:LoF g outer d env (A.deeper env):=⟨N.sc_,Around.frames_deeper hfr,hff,ncl,fun h=>ex h hd1,hg.new hd1,fun b hb=>(FO.obj hb).1⟩
 have m03:Mv g T (fun V=>False) s s3:=Mv.trans x12.mv m3 fun b hb=>.inr (N.w b hb)
 have sl03:=FO.mv hg m03 fun V V f=>f
 have FO3:=FO.slk sl03
 have ok:=Jms (prog:=prog) (w:=w) (h0:=s3.heap) (av:=av) LF.dg LF.oF
 have wex:∀ b,Wr env ow3 b->s.heap.get? b=none:=fun b hb=>N.w b (w3 b hb)
 have Z3:FmW (wL prog w g s3.heap outer d av) g T ow3 env (σ0 (c::t) ps d true) s3 []:=⟨F3.weak (Sub.cons rfl (Sub.cons rfl (Sub.cons rfl (Sub.cons rfl Sub.nil)))),⟨JA0 lo hd3,FO3,.refl⟩,fun b hp hw=>hp.elim (fun q=>nwd (w3 d (q▸hw))) fun q=>ex q (wex b hw),fun x cc e u=>Ji3 F3 (ncl x cc e) e (u.elim (fun q=>q▸⟨_,hd3,Jr1⟩) fun q=>(FO3.obj q).2)⟩
 refine Ja0 ((StA.cons ok (Jpx P grw kk LF N.rm hc ht hl hps hp0) (StA.last (StX.of (JC2 kk ok hl) N.sc_ (N.rm.le (by lia)))):StA prog w g T Jeu (A.deeper env) env (wL prog w g s3.heap outer d av) [] (σ0 (c::t) ps d true) [loW,nth loB 2] (.ret _) _) s3 ow3 (cC.trans N.c) Z3) fun fw s4 h₄=>?_
 cases h₄ with | ret r m wj =>
 exact .mk (Mv.trans (m03.sub fun V f=>f.elim) m fun b hb=>hb.elim (fun q=>.inr (wex b q)) fun q=>q.elim (fun q=>.inr (q▸hd1)) .inl) (sl03.trans wj.sl) r
end
end
section
section
variable {prog:Program}{w:World}{g:Heap}{T:Ja3}{n:Nat}{f:Str}{ls:List Str}{a b:Int}{α:Type}
noncomputable abbrev JDj (ls:List Str) (i j:Nat):Bool:=decide ((ls.getD j es0).cps.toList<(ls.getD i es0).cps.toList)
noncomputable def Jet (ls:List Str):Nat:=argBest (JDj ls) (ls.length - 1)
theorem JAm (bt:Nat->Nat->Bool):∀ k,argBest bt k<=k:=by
 intro k
 induction k with
 | zero=>exact Nat.le_refl 0
 | succ k ih =>
  show (if bt (k+1) (argBest bt k)=true then k+1 else argBest bt k)<=k+1
  by_cases h:bt (k+1) (argBest bt k)=true
  ·rw [if_pos h]; exact Nat.le_refl _
  ·rw [if_neg h]; exact Nat.le_succ_of_le ih
theorem JAb (hg:Glb g f (.builtin "max")) (h:ls≠[]):ClV prog w g T n f [.lst (ls.map .str)] (.str (ls.getD (Jet ls) es0)):=⟨_,hg,.bi _,fun A s av vs rm hg hav hv=>by
 cases hv.one1 with | mk r =>
 cases r.i8 with | @mk l us k na eo ra =>
 have h0:0<ls.length:=List.length_pos_iff.mpr h
 have hlen:us.length=ls.length:=by rw [ra.length,List.length_map]
 have at_:∀ {i:Nat}{v:Value},us.toArray[i]?=some v->∃ t,v=.str (ls.getD i es0) t:=fun {i v} e=>by
  obtain ⟨d,hd,rd⟩:=ra.get i v (by simpa using e)
  rw [List.getElem?_map] at hd
  obtain ⟨x,hx,rfl⟩:=Option.map_eq_some_iff.mp hd
  obtain ⟨t,rfl⟩:=rd.i5
  exact ⟨t,by rw [List.getD_eq_getElem?_getD,hx]; rfl⟩
 have hl:s.heap.IsList l us.toArray:=⟨_,eo,rfl,_,rfl⟩
 refine call_max_walk (wpAny_pyIter_list hl ?_)
 have hl':(s.heap.push { cls:=.type "list_iterator",data:=.fields #[.ref l,.int 0 0] }).IsList l us.toArray:=⟨_,Heap.get?_push_of_some _ eo,rfl,_,rfl⟩
 refine ⟨_,[s.heap.objs.size,l],[s.heap.objs.size],us.toArray.size,_,_,JDj ls,rfl,Walks.list (A:=A.in1) rm.hand _ l (Nat.ne_of_gt (Heap.lt_size eo)).symm us.toArray,⟨⟨_,Heap.get?_push_size _ rfl,rfl,rfl⟩,hl'⟩,?_,?_,?_,?_⟩
 ·intro b hb
  show b<(s.heap.push _).objs.size
  rw [Heap.size_push]
  exact (List.mem_cons.mp hb).elim (fun q=>q▸Nat.lt_succ_self _) fun q=>List.mem_singleton.mp q▸Nat.lt_succ_of_lt (Heap.lt_size eo)
 ·rw [List.size_toArray,hlen]; exact h0
 ·intro i j vi vj s' Q E hi hj hQ
  obtain ⟨t,rfl⟩:=at_ hi
  obtain ⟨u,rfl⟩:=at_ hj
  exact PySem.P.gt_str hQ
 ·intro v h' tk hP hk
  rw [List.size_toArray,hlen] at hP
  obtain ⟨t,rfl⟩:=at_ hP
  exact ⟨.of h' tk fun b o e=>hk b o (fun q=>nos (Ja8 s.heap) (List.mem_singleton.mp q▸e)) (Heap.get?_push_of_some _ e),.str _ t⟩⟩
theorem Jrh (hg:Glb g f (.builtin "max")):ClV prog w g T n f [.int a,.int b] (.int (if b>a then b else a)):=⟨_,hg,.bi _,fun A s av vs rm hg hav hv=>by
 cases hv.i1 with | mk ra rb =>
 cases rb.i1 with | mk rc rd =>
 cases rd.i0
 obtain ⟨t,rfl⟩:=ra.i4
 obtain ⟨u,rfl⟩:=rc.i4
 refine max_two_ints rm.hand fun h' tk hk=>⟨.of h' tk hk,?_⟩
 by_cases c:b>a
 ·rw [if_pos c,if_pos c]; exact .int _ u
 ·rw [if_neg c,if_neg c]; exact .int _ t⟩
theorem Jta {α:Type}(l:List α) {k m:Nat}(h:k<=l.length):Jls l (some (k:Int)) (some ((k+m:Nat):Int)) none=(l.drop k).take m:=by
 have e:Jbl l.length (some (k:Int)) (some ((k+m:Nat):Int)) none=(List.range (min m (l.length - k))).map (k + ·):=by
  unfold Jbl
  rw [show sliceBounds (some (k:Int)) (some ((k+m:Nat):Int)) none l.length=((k:Int),((k+min m (l.length - k):Nat):Int),1) from by
   unfold sliceBounds
   simp only [Option.getD_none,show ((1:Int)>0)=True by decide,if_true,if_neg (Int.not_lt.mpr (Int.natCast_nonneg _))]
   exact Prod.ext (Jkz h) (Prod.ext (Jre h) rfl)]
  exact (sliceRange_one k _).trans (by rw [Nat.add_sub_cancel_left])
 unfold Jls
 rw [e,Jke l (by lia)]
 rw [List.take_eq_take_min (l:=l.drop k) (i:=m),List.length_drop]
end
end
noncomputable abbrev Jd7 (u:List Nat):List Int:=u.map fun x:Nat=>(x:Int)
noncomputable abbrev Fig (u:List Nat):Prop:=∀ x∈u,x<16
noncomputable abbrev wdL (u:List Nat):List Nat:=u.map (65 + ·)
noncomputable def Jg7 (u:List Nat):Nat:=u.foldl (fun a d=>16*a+d) 1
theorem Je7 (u:List Nat) (d:Nat):Jg7 (u++[d])=16*Jg7 u+d:=by rw [Jg7,List.foldl_append]; rfl
theorem Jtk (u:List Nat):∀ a,1<=a->1<=u.foldl (fun a d=>16*a+d) a:=by
 induction u with
 | nil=>exact fun a h=>h
 | cons d u ih=>exact fun a h=>ih _ (show 1<=16*a+d by lia)
theorem Jk2 {P:List Nat->Prop}(h0:P []) (h1:∀ u d,P u->P (u++[d])):∀ u,P u:=fun u=>by
 have:∀ r:List Nat,P r.reverse:=fun r=>by
  induction r with
  | nil=>exact h0
  | cons d r ih=>rw [List.reverse_cons]; exact h1 _ _ ih
 have h:=this u.reverse
 rwa [List.reverse_reverse] at h
theorem JD4 (d:Int):dN [d]=d:=by show d+0*2 ^ 4=d; lia
theorem Jf3:∀ u:List Nat,((Jg7 u:Nat):Int)=16 ^ u.length+dN (Jd7 u):=by
 refine Jk2 rfl fun u d ih=>?_
 rw [Je7,List.length_append,List.length_singleton,Jd7,List.map_append,Jgs,List.map_singleton,List.length_singleton,JD4,Int.pow_succ,Int.pow_succ,Int.pow_zero,Int.one_mul]
 have:dN (Jd7 u)=dN (List.map (fun x:Nat=>(x:Int)) u):=rfl
 lia
noncomputable abbrev Je0 (u:List Nat):List Nat:=u.map (15 - ·)
theorem Jtl:∀ u:List Nat,Fig u->Jg7 u+Jg7 (Je0 u)+1=3*16 ^ u.length:=by
 refine Jk2 (fun V=>rfl) fun u d ih h=>?_
 have i:=ih fun x hx=>h x (List.mem_append_left _ hx)
 have hd:=h d (List.mem_append_right _ (.head _))
 rw [Je0,List.map_append,List.map_singleton,Je7,Je7,List.length_append,List.length_singleton,Nat.pow_succ]
 have:Jg7 (Je0 u)=Jg7 (List.map (15 - ·) u):=rfl
 lia
theorem JAo:∀ u:List Nat,Fig u->∀ (f:Nat) (acc:List UInt8),u.length+1<=f->apL f (Jg7 u) acc=(Jbm 1::u.map Jbm)++acc:=by
 refine Jk2 (fun V f acc hf=>?_) fun u d ih h f acc hf=>?_
 ·obtain ⟨k,rfl⟩:∃ k,f=k+1:=⟨f - 1,by simp at hf; lia⟩
  show (if (1:Nat)=0 then acc else apL k (1 / 16) (Jbm (1 % 16)::acc))=_
  rw [if_neg (by decide)]
  cases k with
  | zero=>rfl
  | succ k=>exact if_pos rfl
 ·rw [List.length_append,List.length_singleton] at hf
  obtain ⟨k,rfl⟩:∃ k,f=k+1:=⟨f - 1,by lia⟩
  have hd:=h d (List.mem_append_right _ (.head _))
  have hp:=Jtk u 1 (Nat.le_refl 1)
  have hp:1<=Jg7 u:=hp
  rw [Je7]
  show (if 16*Jg7 u+d=0 then acc else apL k ((16*Jg7 u+d) / 16) (Jbm ((16*Jg7 u+d) % 16)::acc))=_
  rw [if_neg (by lia),show (16*Jg7 u+d) / 16=Jg7 u by lia,show (16*Jg7 u+d) % 16=d by lia,ih (fun x hx=>h x (List.mem_append_left _ hx)) k _ (by lia),List.map_append]
  simp only [List.map_cons,List.map_nil,List.cons_append,List.append_assoc,List.nil_append]
theorem Jne {m:Nat}(h:m<16):(Jbm m).toNat=65+m:=(by decide:∀ m:Fin 16,(Jbm m).toNat=65+m.val) ⟨m,h⟩
theorem JAn {u:List Nat}(h:Fig u) (hl:u.length<=100):apS (Jg7 u)=sOf (66::wdL u):=by
 unfold apS Jgh apB
 rw [JAo u h 200 [] (by lia),List.append_nil]
 refine congrArg Str.mk (Array.ext' ?_)
 rw [Array.toList_map]
 show (Jbm 1).toNat::(u.map Jbm).map (·.toNat)=66::u.map (65 + ·)
 rw [List.map_map]
 exact congrArg (66 :: ·) (List.map_congr_left fun x hx=>Jne (h x hx))
section
noncomputable abbrev lwB:List Stmt:=Ja5 (fn1 "law")
noncomputable abbrev Jdw:Scope:=Ja2 (fn1 "law")
structure LwS (prog:Program) (w:World) (g:Heap) (T:Ja3) (n:Nat):Prop where
 figs:∀ {script:List Int},script.length<=1000->ClV prog w g T n "_law_figures" [.lst (script.map .int)] (.lst ((Jht (cel script)).map .int))
 d2i:∀ {l:List Int},l.length<=100->Fgs l->ClV prog w g T n "_digits2int" [.lst (l.map .int),.int 4] (.int (Jdz 4 l))
 ap:∀ i:Int,i.natAbs<16 ^ 200->ClV prog w g T n "Int2AP" [.int i] (.bytes (apB i.natAbs))
 len:Glb g "len" (.builtin "len")
 ran:Glb g "range" (.type "range")
 max:Glb g "max" (.builtin "max")
noncomputable def Jqq (c:Nat->Int):List Nat:=(List.range (szN c)).map fun p=>(Jzr c p).toNat
theorem Jqr (c:Nat->Int) (p:Nat):0<=Jzr c p/\Jzr c p<16:=⟨Int.fmod_nonneg_of_pos _ (by decide),Int.fmod_lt_of_pos _ (by decide)⟩
theorem Jv0 (c:Nat->Int):Jht c=Jd7 (Jqq c):=by
 rw [Jht,Jqq,Jd7,List.map_map]
 exact List.map_congr_left fun p V=>(Int.toNat_of_nonneg (Jqr c p).1).symm
theorem Jv1 (c:Nat->Int):Fig (Jqq c):=fun x hx=>by
 obtain ⟨p,_,rfl⟩:=List.mem_map.mp hx
 have:=Jqr c p
 lia
theorem Jft {u:List Nat}(h:Fig u):Fgs (Jd7 u):=fun d hd=>by
 obtain ⟨x,hx,rfl⟩:=List.mem_map.mp hd
 have:=h x hx
 lia
theorem Jyq {u:List Nat}(h:Fig u):Fig (Je0 u):=fun x hx=>by
 obtain ⟨y,hy,rfl⟩:=List.mem_map.mp hx
 omega
noncomputable abbrev σL3 (u:List Nat):Sto:=[(Str.ofString "number",.val (.int (dN (Jd7 u)))),(Str.ofString "size",.val (Jb9 u.length)),(Str.ofString "figures",.val (.lst (u.map Jb9)))]
noncomputable abbrev σL5 (u:List Nat):Sto:=(Str.ofString "mirror",.val (.str (sOf (wdL (Je0 u)))))::(Str.ofString "word",.val (.str (sOf (wdL u))))::σL3 u
section
variable {prog:Program}{w:World}{g:Heap}{T:Ja3}{n:Nat}{u:List Nat}{σ:Sto}
theorem Jqv (k:LwS prog w g T n) {e:Expr}{i:Int}{p1 p2 p3 p4 p5 p6 p7 p8:Pos}{k1 k2:Nat}(h:Fig u) (hl:u.length<=7) (hi:i.natAbs=Jg7 u) (he:Ev prog w g T n Jdw σ e (.int i)) (hst:∀ env,starEach [e] env=[(false,eval e env)]) (hln:(p4.endLine==p6.line)=true) :
  Ev prog w g T n Jdw σ (.Subscript (.Call (.Attribute (.Call (.Name "Int2AP" p1) [e] [] p2) "decode" p4) [.Constant (.str (Str.ofString "ascii")) k1 p5] [] p6) (.Slice (some (.Constant (.int 1) k2 p7)) none none p8) p3) (.str (sOf (wdL u))):=by
 have hv:Jg7 u<16 ^ 200:=by
  have:=Jf3 u
  have b:=Jhx (Jft h)
  rw [List.length_map] at b
  have c:=p16 hl
  have:Jg7 u<2 ^ 30:=by omega
  exact Nat.lt_trans this (by decide)
 have ha:=k.ap i (hi▸hv)
 rw [hi] at ha
 have t:=JAn h (Nat.le_trans hl (by decide))
 have t:Jgh (apB (Jg7 u))=sOf (66::wdL u):=t
 have e1:Jfh (sOf (66::wdL u)) (some ((1:Nat):Int)) none none=sOf (wdL u):=Jax (66::wdL u) 1
 refine e1▸Ev.slice (t▸Ev.methG (fun V=>rfl) hln (by decide) (Ev.call rfl (EvL.more hst he EvL.nil) ha) (EvL.more (fun V=>rfl) Ev.str EvL.nil) (Jps (Jvr _) (Nat.le_trans (Jvq _) (by decide)))) (.some' Ev.int) .none' .none' (Jbg rfl ?_)
 show (Jfh (sOf (66::wdL u)) (some ((1:Nat):Int)) none none).length<=lim
 rw [e1,Ja7,List.length_map]
 exact Nat.le_trans hl (by decide)
end
end
section
section
variable {prog:Program}{w:World}{g:Heap}{T:Ja3}{n:Nat}{u:List Nat}{script:List Int}{φ:Nat->Nat}
theorem Jux (φ:Nat->Nat) (u:List Nat):((u.map fun x=>[φ x]).flatten)=u.map φ:=by
 induction u with
 | nil=>rfl
 | cons x u ih=>rw [List.map_cons,List.flatten_cons,ih]; rfl
theorem Jq2 (φ:Nat->Nat) (u:List Nat):Str.join es0 (u.map fun x=>sOf [φ x])=sOf (u.map φ):=by
 have:=JC9 (l:=u.map fun x=>[φ x])
 rw [List.map_map,Jux] at this
 exact this
theorem JBx (hl:u.length<=7):MtV prog w g T n "join" (.str es0) [.lst (u.map fun x=>.str (sOf [φ x]))] (.str (sOf (u.map φ))):=by
 have:=Jyo (prog:=prog) (w:=w) (g:=g) (T:=T) (n:=n) (sep:=es0) (ls:=u.map fun x=>sOf [φ x]) (Nat.le_trans (Jij (B:=1) fun x hx=>by obtain ⟨y,_,rfl⟩:=List.mem_map.mp hx; exact Nat.le_refl 1) (by rw [List.length_map,Nat.mul_one]; exact Nat.le_trans hl (by decide))) (by rw [Jq2,Ja7,List.length_map]; exact Nat.le_trans hl (by decide))
 rw [Jq2,List.map_map] at this
 exact this
theorem Jq8 (u:List Nat):(Jd7 u).map D.int=u.map Jb9:=List.map_map ..
theorem JC6 (m:Fin 16):(seqIndex? ((m.val:Nat):Int) (Str.ofString "ABCDEFGHIJKLMNOP").length).bind ((Str.ofString "ABCDEFGHIJKLMNOP").cps[·]?)=some (65+m.val):=(by decide +kernel:∀ m:Fin 16,(seqIndex? ((m.val:Nat):Int) (Str.ofString "ABCDEFGHIJKLMNOP").length).bind ((Str.ofString "ABCDEFGHIJKLMNOP").cps[·]?)=some (65+m.val)) m
theorem JC7 (m:Fin 16):(seqIndex? ((m.val:Nat):Int) (Str.ofString "PONMLKJIHGFEDCBA").length).bind ((Str.ofString "PONMLKJIHGFEDCBA").cps[·]?)=some (65+(15 - m.val)):=(by decide +kernel:∀ m:Fin 16,(seqIndex? ((m.val:Nat):Int) (Str.ofString "PONMLKJIHGFEDCBA").length).bind ((Str.ofString "PONMLKJIHGFEDCBA").cps[·]?)=some (65+(15 - m.val))) m
theorem Jy1 (u:List Nat):u.reverse.map Jb9=(Jd7 u).reverse.map D.int:=by rw [<- List.map_reverse,List.map_map]; rfl
noncomputable abbrev σL0 (u:List Nat):Sto:=[(Str.ofString "figures",.val (.lst (u.map Jb9)))]
noncomputable abbrev σL1 (u:List Nat):Sto:=(Str.ofString "size",.val (Jb9 u.length))::σL0 u
noncomputable abbrev σL4 (u:List Nat):Sto:=(Str.ofString "word",.val (.str (sOf (wdL u))))::σL3 u
theorem lw0 (k:LwS prog w g T (n+1)) (hs:script.length<=1000) (hu:Jht (cel script)=Jd7 u):Sx prog w g T (n+1) Jdw (params ["script"] [.lst (script.map .int)]) (nth lwB 0) (.next ((Str.ofString "figures",.val (.lst (u.map Jb9)))::params ["script"] [.lst (script.map .int)])):=by
 have c0:=k.figs hs
 rw [hu,Jq8] at c0
 exact Sx.assign (Ev.call rfl (EvL.more (fun V=>rfl) (Ev.name rfl) EvL.nil) c0) (fun V V V=>rfl) rfl
theorem lw1 (k:LwS prog w g T (n+1)) (hl:u.length<=7):Sx prog w g T (n+1) Jdw (σL0 u) (nth lwB 1) (.next (σL1 u)):=by
 have hz:(u.map Jb9).length<=lim:=by rw [List.length_map]; exact Nat.le_trans hl (by decide)
 have c:=Jbb (prog:=prog) (w:=w) (T:=T) (n:=n+1) k.len hz
 rw [List.length_map] at c
 exact Sx.assign (Ev.call rfl (EvL.more (fun V=>rfl) (Ev.name rfl) EvL.nil) c) (fun V V V=>rfl) rfl
theorem lw2 (k:LwS prog w g T (n+1)) (h:Fig u) (hl:u.length<=7):Sx prog w g T (n+1) Jdw (σL1 u) (nth lwB 2) (.next ((Str.ofString "number",.val (.int (dN (Jd7 u))))::σL1 u)):=by
 have c:=k.d2i (l:=(Jd7 u).reverse) (by rw [List.length_reverse,List.length_map]; exact Nat.le_trans hl (by decide)) (Jkv (Jft h))
 rw [<- Jy1, <- Jhd] at c
 exact Sx.assign (Ev.call rfl (EvL.more (fun V=>rfl) (Ev.slice (Ev.name rfl) .none' .none' (.some' (Ev.neg Ev.int)) (Jbt rfl (Nat.le_trans hl (by decide)))) (EvL.more (fun V=>rfl) Ev.int EvL.nil)) c) (fun V V V=>rfl) rfl
theorem lw3 (k:LwS prog w g T (n+1)) (h:Fig u) (hl:u.length<=7):Sx prog w g T (n+1) Jdw (σL3 u) (nth lwB 3) (.next (σL4 u)):=by
 have hN:=Jhx (Jft h)
 have ev:=Jf3 u
 have b16:=p16 hl
 refine Sx.assign (Jqv k h hl ?_ (Ev.bin (Ev.bin Ev.int (Ev.name rfl) (Jnu hl)) (Ev.name rfl) Jag) (fun V=>rfl) rfl) (fun V V V=>rfl) rfl
 omega
theorem lw4 (k:LwS prog w g T (n+1)) (h:Fig u) (hl:u.length<=7):Sx prog w g T (n+1) Jdw (σL4 u) (nth lwB 4) (.next (σL5 u)):=by
 have hN:=Jhx (Jft h)
 have ev:=Jf3 u
 have em:=Jf3 (Je0 u)
 have esum:=Jtl u h
 have b16:=p16 hl
 have c3:((3*16 ^ u.length:Nat):Int)=3*16 ^ u.length:=by rw [Int.natCast_mul,Int.natCast_pow]; rfl
 rw [List.length_map] at em hN
 refine Sx.assign (Jqv k (Jyq h) (by rw [List.length_map]; exact hl) ?_ (Ev.bin (Ev.bin (Ev.name rfl) Ev.int Jag) (Ev.bin Ev.int (Ev.bin Ev.int (Ev.name rfl) (Jnu hl)) (Jbw rfl (Jfe ?_))) Jap) (fun V=>rfl) rfl) (fun V V V=>rfl) rfl
 ·lia
 ·lia
theorem lw5 (h:Fig u) (hl:u.length<=7):Sx prog w g T (n+1) Jdw (σL5 u) (nth lwB 5) (.next (σL5 u)):=by
 have hz':u.length<=lim:=Nat.le_trans hl (by decide)
 have e:(sOf (wdL u) != sOf (u.map (65 + ·)))=false:=bne_self_eq_false _
 refine Sx.ite (b:=false) (e▸EvT.cmp (Ev.name rfl) (Ev.methG (fun V=>rfl) rfl (by decide) Ev.str (EvL.more (fun V=>rfl) (EvO.ev (EvO.each (enc:=Jb9) (xs:=u) (f:=fun x=>D.str (sOf [65+x])) rfl rfl (fun V V=>rfl) (EvI.list (Ev.name rfl)) hz' fun x hx=>⟨[(Str.ofString "figure",Jb9 x)],.name,Jaa rfl,rfl,Ev.item Ev.str (Ev.name rfl) (fun V V=>rfl) (Jwj (Jc8 ?_) (JC6 ⟨x,h x hx⟩))⟩)) EvL.nil) (JBx hl)) rfl Jrc) SxL.nil
 have:=h x hx
 lia
theorem lw6 (h:Fig u) (hl:u.length<=7):Sx prog w g T (n+1) Jdw (σL5 u) (nth lwB 6) (.next (σL5 u)):=by
 have hz':u.length<=lim:=Nat.le_trans hl (by decide)
 have e:(sOf (wdL (Je0 u)) != sOf (u.map fun x=>65+(15 - x)))=false:=by rw [wdL,Je0,List.map_map]; exact bne_self_eq_false _
 refine Sx.ite (b:=false) (e▸EvT.cmp (Ev.name rfl) (Ev.methG (fun V=>rfl) rfl (by decide) Ev.str (EvL.more (fun V=>rfl) (EvO.ev (EvO.each (enc:=Jb9) (xs:=u) (f:=fun x=>D.str (sOf [65+(15 - x)])) rfl rfl (fun V V=>rfl) (EvI.list (Ev.name rfl)) hz' fun x hx=>⟨[(Str.ofString "figure",Jb9 x)],.name,Jaa rfl,rfl,Ev.item Ev.str (Ev.name rfl) (fun V V=>rfl) (Jwj (Jc8 ?_) (JC7 ⟨x,h x hx⟩))⟩)) EvL.nil) (JBx (φ:=fun x=>65+(15 - x)) hl)) rfl Jrc) SxL.nil
 have:=h x hx
 lia
theorem Jtq (k:LwS prog w g T (n+1)) (hs:script.length<=1000) (hu:Jht (cel script)=Jd7 u) (h:Fig u) (hl:u.length<=7):SxL prog w g T (n+1) Jdw (params ["script"] [.lst (script.map .int)]) [nth lwB 0,nth lwB 1,nth lwB 2,nth lwB 3,nth lwB 4,nth lwB 5,nth lwB 6] (.next (σL5 u)) :=
 SxL.cons (lw0 k hs hu) (SxL.pre (.cons rfl .nil) (SxL.cons (lw1 k hl) (SxL.cons (lw2 k h hl) (SxL.pre (.cons rfl (.cons rfl (.cons rfl .nil))) (SxL.cons (lw3 k h hl) (SxL.cons (lw4 k h hl) (SxL.cons (lw5 h hl) (SxL.cons (lw6 h hl) SxL.nil))))))))
end
end
section
noncomputable abbrev Jd3 (wl:List Nat):List Str:=(List.range wl.length).map fun k=>sOf (wl.drop k)
noncomputable abbrev Je1 (ps:List Nat):Nat:=ps.getD 0 0
noncomputable def Jk1 (m:Nat):Nat:=if m - 1>1 then m - 1 else 1
noncomputable def ctN (a b:Nat):Nat:=if b>a then b else a
structure Jg3 (u ps:List Nat) (loc:List Int):Prop where
 n2:2<=u.length
 n7:u.length<=7
 p0:0<ps.length
 p7:ps.length<=7
 lo:1<=Je1 ps
 hi:Je1 ps<=u.length
 len:loc.length=u.length - 1
 win:∀ f,f<u.length - Jk1 (Je1 ps)->((loc.drop f).take (Jk1 (Je1 ps))).contains ((Je1 ps:Nat):Int)=true
 cut:(ctN (Jet (Jd3 (wdL u))) (Jet (Jd3 (wdL (Je0 u))))=0/\Je1 ps=1)\/(0<ctN (Jet (Jd3 (wdL u))) (Jet (Jd3 (wdL (Je0 u))))/\ctN (Jet (Jd3 (wdL u))) (Jet (Jd3 (wdL (Je0 u))))<Je1 ps/\loc.getD (ctN (Jet (Jd3 (wdL u))) (Jet (Jd3 (wdL (Je0 u)))) - 1) 0=((Je1 ps:Nat):Int))
noncomputable abbrev σL9 (u ps:List Nat) (loc:List Int):Sto:=[(Str.ofString "right",.val (.bool true)),(Str.ofString "local",.val (.lst (loc.map .int))),(Str.ofString "periods",.val (.lst (ps.map Jb9))),(Str.ofString "mirror",.val (.str (sOf (wdL (Je0 u))))),(Str.ofString "word",.val (.str (sOf (wdL u)))),(Str.ofString "size",.val (Jb9 u.length))]
noncomputable abbrev Jxd (u ps:List Nat) (loc:List Int):Sto:=(Str.ofString "least",.val (Jb9 (Je1 ps)))::σL9 u ps loc
noncomputable abbrev Jif (u ps:List Nat) (loc:List Int):Sto:=(Str.ofString "span",.val (Jb9 (Jk1 (Je1 ps))))::Jxd u ps loc
section
variable {prog:Program}{w:World}{g:Heap}{T:Ja3}{n:Nat}{u ps:List Nat}{loc:List Int}{σ:Sto}
theorem lw8 (hp:0<ps.length) (h7:ps.length<=7) (hs:(froz σ).lookup (Str.ofString "periods")=some (.val (.lst (ps.map Jb9)))):Sx prog w g T (n+1) Jdw σ (nth lwB 8) (.next σ):=by
 have e:(!!((ps.map Jb9).isEmpty))=false:=by
  cases ps with
  | nil=>exact absurd hp (Nat.lt_irrefl 0)
  | cons p ps=>rfl
 exact Sx.ite (b:=false) (e▸EvT.not (EvT.val (Ev.name hs) (fun V V=>rfl) (Jon (by rw [List.length_map]; exact Nat.le_trans h7 (by decide))))) SxL.nil
theorem JHq (k:Jg3 u ps loc):Sx prog w g T (n+1) Jdw (σL9 u ps loc) (nth lwB 10) (.next (Jxd u ps loc)) :=
 Sx.assign (Ev.item (Ev.name rfl) Ev.int (fun V V=>rfl) (Jdx (k:=0) rfl rfl (by rw [List.getElem?_map,Je1,List.getD_eq_getElem?_getD,List.getElem?_eq_getElem k.p0]; rfl))) (fun V V V=>rfl) rfl
theorem JHp (kk:LwS prog w g T (n+1)) (k:Jg3 u ps loc):Sx prog w g T (n+1) Jdw (Jxd u ps loc) (nth lwB 11) (.next (Jif u ps loc)):=by
 have e:((Jk1 (Je1 ps):Nat):Int)=if ((Je1 ps:Nat):Int) - 1>1 then ((Je1 ps:Nat):Int) - 1 else 1:=by
  have:=k.lo
  unfold Jk1
  by_cases c:Je1 ps - 1>1
  ·rw [if_pos c,if_pos (by omega)]; omega
  ·rw [if_neg c,if_neg (by omega)]; rfl
 have c:=Jrh (prog:=prog) (w:=w) (T:=T) (n:=n+1) (a:=1) (b:=((Je1 ps:Nat):Int) - 1) kk.max
 rw [<- e] at c
 exact Sx.assign (Ev.call rfl (EvL.more (fun V=>rfl) Ev.int (EvL.more (fun V=>rfl) (Ev.bin (Ev.name rfl) Ev.int Jap) EvL.nil)) c) (fun V V V=>rfl) rfl
theorem JAq (l:List Int) (k:Int):((l.map PyData.int).any fun y=>y.eqv (.int k))=l.contains k:=by
 induction l with
 | nil=>rfl
 | cons x l ih =>
  rw [List.map_cons,List.any_cons,List.contains_cons,ih]
  congr 1
  show (x==k)=(k==x)
  exact BEq.comm
theorem JHo (kk:LwS prog w g T (n+1)) (k:Jg3 u ps loc):Sx prog w g T (n+1) Jdw (Jif u ps loc) (nth lwB 12) (.next (Jif u ps loc)):=by
 have n7:=k.n7
 have hsp:Jk1 (Je1 ps)<=u.length - 1/\1<=Jk1 (Je1 ps):=by
  have:=k.n2
  have:=k.hi
  unfold Jk1
  by_cases c:Je1 ps - 1>1
  ·rw [if_pos c]; lia
  ·rw [if_neg c]; lia
 have e:((u.length:Nat):Int) - ((Jk1 (Je1 ps):Nat):Int)=((u.length - Jk1 (Je1 ps):Nat):Int):=by lia
 have go:∀ {xs:List Nat},(∀ f∈xs,f<u.length - Jk1 (Je1 ps))->Jie prog w g T (n+1) Jdw (stP (nth lwB 12)).test (stP (nth lwB 12)).body (xs.map Jb9) (Jif u ps loc) (.next (Jif u ps loc)):=by
  intro xs
  induction xs with
  | nil=>exact fun V=>.nil
  | cons f xs ih =>
   intro hf
   have hlt:=hf f (.head _)
   have hw:=k.win f hlt
   have hlen:=k.len
   have t:EvT prog w g T (n+1) Jdw (froz ((Str.ofString "first",.val (Jb9 f))::Jif u ps loc)) (stP (nth (stP (nth lwB 12)).body 0)).test (!((loc.drop f).take (Jk1 (Je1 ps))).contains ((Je1 ps:Nat):Int)):=by
    rw [<- JAq, <- Jta loc (by lia)]
    exact EvT.cmp (Ev.name rfl) (Ev.slice (Ev.name rfl) (.some' (Ev.name rfl)) (.some' (Int.natCast_add _ _▸Ev.bin (Ev.name rfl) (Ev.name rfl) Jag)) .none' (Jbt rfl (by rw [hlen]; exact Nat.le_trans (show u.length - 1<=7 by lia) (by decide)))) rfl (JA3 .int (Dps.map fun x hx=>.int))
   rw [hw] at t
   exact Jie.step (b:=[(Str.ofString "first",Jb9 f)]) .name (Jaa rfl) (SxL.post (SxL.cons (Sx.ite (b:=false) t SxL.nil) SxL.nil) (.next (Sub.push (x:=Str.ofString "first") rfl))) (ih fun y hy=>hf y (.tail _ hy))
 exact Sx.for (Jfg (u.length - Jk1 (Je1 ps))▸e▸EvI.range1 rfl kk.ran (fun V V=>rfl) (Ev.bin (Ev.name rfl) (Ev.name rfl) Jap) (Jar.mpr (by lia))) (fun V V=>rfl) (go fun f hf=>List.mem_range.mp hf)
end
end
section
noncomputable abbrev foN (u:List Nat):Nat:=Jet (Jd3 (wdL u))
noncomputable abbrev cuN (u:List Nat):Nat:=ctN (foN u) (foN (Je0 u))
noncomputable abbrev Jsj (u ps:List Nat) (loc:List Int):Sto:=(Str.ofString "forth",.val (Jb9 (foN u)))::Jif u ps loc
noncomputable abbrev Jsi (u ps:List Nat) (loc:List Int):Sto:=(Str.ofString "back",.val (Jb9 (foN (Je0 u))))::Jsj u ps loc
noncomputable abbrev Jxc (u ps:List Nat) (loc:List Int):Sto:=(Str.ofString "cut",.val (Jb9 (cuN u)))::Jsi u ps loc
section
variable {prog:Program}{w:World}{g:Heap}{T:Ja3}{n:Nat}{u ps wl:List Nat}{loc:List Int}
theorem Jk0 (wl:List Nat):(Jd3 wl).length=wl.length:=by rw [List.length_map,List.length_range]
theorem JDh (h:1<=wl.length):Jet (Jd3 wl)<wl.length:=by
 have:=JAm (JDj (Jd3 wl)) ((Jd3 wl).length - 1)
 have e:=Jk0 wl
 show argBest (JDj (Jd3 wl)) ((Jd3 wl).length - 1)<wl.length
 omega
theorem JAl (h:1<=wl.length):(((Jd3 wl).getD (Jet (Jd3 wl)) es0).length:Int)=(wl.length:Int) - (Jet (Jd3 wl):Int):=by
 have hk:=JDh h
 rw [List.getD_eq_getElem?_getD,List.getElem?_map,List.getElem?_range hk]
 show ((sOf (wl.drop (Jet (Jd3 wl)))).length:Int)=_
 rw [Ja7,List.length_drop]; lia
theorem Jwz (kk:LwS prog w g T n) (h:1<=wl.length) (hl:wl.length<=7):ClV prog w g T n "max" [.lst ((List.range wl.length).map fun k=>.str (sOf (wl.drop k)))] (.str ((Jd3 wl).getD (Jet (Jd3 wl)) es0))/\ClV prog w g T n "len" [.str ((Jd3 wl).getD (Jet (Jd3 wl)) es0)] (.int ((wl.length:Int) - (Jet (Jd3 wl):Int))):=by
 have c:=JAb (prog:=prog) (w:=w) (T:=T) (n:=n) (ls:=Jd3 wl) kk.max (fun e=>by have:=Jk0 wl; rw [e,List.length_nil] at this; lia)
 rw [show (Jd3 wl).map D.str=(List.range wl.length).map fun k=>D.str (sOf (wl.drop k)) from List.map_map ..] at c
 have b:=JAl h
 have d:=Jce (prog:=prog) (w:=w) (T:=T) (n:=n) (x:=(Jd3 wl).getD (Jet (Jd3 wl)) es0) kk.len (Nat.le_trans (show _<=7 by lia) (by decide))
 rw [b] at d
 exact ⟨c,d⟩
theorem JDi (wl:List Nat) (m:Nat) (h:wl.length=m):Jb9 (Jet (Jd3 wl))=.int ((m:Int) - ((wl.length:Int) - (Jet (Jd3 wl):Int))):=congrArg D.int (by lia)
theorem JHn (kk:LwS prog w g T (n+1)) (k:Jg3 u ps loc):Sx prog w g T (n+1) Jdw (Jif u ps loc) (nth lwB 13) (.next (Jsj u ps loc)):=by
 have e:(wdL u).length=u.length:=List.length_map ..
 have n2:=k.n2
 have n7:=k.n7
 have c:=Jwz (wl:=wdL u) kk (by lia) (by lia)
 rw [Jsj,foN,JDi (wdL u) u.length e]
 refine Sx.assign (Ev.bin (Ev.name rfl) (Ev.call rfl (EvL.more (fun V=>rfl) (Ev.call rfl (EvL.more (fun V=>rfl) (EvO.ev (EvO.each (enc:=Jb9) (xs:=List.range (wdL u).length) rfl rfl (fun V V=>rfl) (Jfg (wdL u).length▸e.symm▸EvI.range1 rfl kk.ran (fun V V=>rfl) (Ev.name rfl) (Jar.mpr (by lia))) (by rw [List.length_range,e]; exact Nat.le_trans n7 (by decide)) fun p hp=>⟨[(Str.ofString "place",Jb9 p)],.name,Jaa rfl,rfl,Jax (wdL u) p▸Ev.slice (Ev.name rfl) (.some' (Ev.name rfl)) .none' .none' (Jbg rfl ?_)⟩)) EvL.nil) c.1) EvL.nil) c.2) Jap) (fun V V V=>rfl) rfl
 rw [Jax,Ja7,List.length_drop]
 exact Nat.le_trans (show (wdL u).length - p<=7 by lia) (by decide)
theorem JHm (kk:LwS prog w g T (n+1)) (k:Jg3 u ps loc):Sx prog w g T (n+1) Jdw (Jsj u ps loc) (nth lwB 14) (.next (Jsi u ps loc)):=by
 have e:(wdL (Je0 u)).length=u.length:=by rw [List.length_map,List.length_map]
 have n2:=k.n2
 have n7:=k.n7
 have c:=Jwz (wl:=wdL (Je0 u)) kk (by lia) (by lia)
 rw [Jsi,foN,JDi (wdL (Je0 u)) u.length e]
 refine Sx.assign (Ev.bin (Ev.name rfl) (Ev.call rfl (EvL.more (fun V=>rfl) (Ev.call rfl (EvL.more (fun V=>rfl) (EvO.ev (EvO.each (enc:=Jb9) (xs:=List.range (wdL (Je0 u)).length) rfl rfl (fun V V=>rfl) (Jfg (wdL (Je0 u)).length▸e.symm▸EvI.range1 rfl kk.ran (fun V V=>rfl) (Ev.name rfl) (Jar.mpr (by lia))) (by rw [List.length_range,e]; exact Nat.le_trans n7 (by decide)) fun p hp=>⟨[(Str.ofString "place",Jb9 p)],.name,Jaa rfl,rfl,Jax (wdL (Je0 u)) p▸Ev.slice (Ev.name rfl) (.some' (Ev.name rfl)) .none' .none' (Jbg rfl ?_)⟩)) EvL.nil) c.1) EvL.nil) c.2) Jap) (fun V V V=>rfl) rfl
 rw [Jax,Ja7,List.length_drop]
 exact Nat.le_trans (show (wdL (Je0 u)).length - p<=7 by lia) (by decide)
theorem JHl (kk:LwS prog w g T (n+1)):Sx prog w g T (n+1) Jdw (Jsi u ps loc) (nth lwB 15) (.next (Jxc u ps loc)):=by
 have e:((cuN u:Nat):Int)=if ((foN (Je0 u):Nat):Int)>((foN u:Nat):Int) then ((foN (Je0 u):Nat):Int) else ((foN u:Nat):Int):=by
  unfold cuN ctN
  by_cases c:foN (Je0 u)>foN u
  ·rw [if_pos c,if_pos (by omega)]
  ·rw [if_neg c,if_neg (by omega)]
 have c:=Jrh (prog:=prog) (w:=w) (T:=T) (n:=n+1) (a:=((foN u:Nat):Int)) (b:=((foN (Je0 u):Nat):Int)) kk.max
 rw [<- e] at c
 exact Sx.assign (Ev.call rfl (EvL.more (fun V=>rfl) (Ev.name rfl) (EvL.more (fun V=>rfl) (Ev.name rfl) EvL.nil)) c) (fun V V V=>rfl) rfl
theorem JHk (k:Jg3 u ps loc):Sx prog w g T (n+1) Jdw (Jxc u ps loc) (nth lwB 16) (.next (Jxc u ps loc)):=by
 have hc:(ctN (Jet (Jd3 (wdL u))) (Jet (Jd3 (wdL (Je0 u)))))=cuN u:=rfl
 have hk:=k.cut
 rw [hc] at hk
 have hi:=k.hi
 have hlen:=k.len
 have n7:=k.n7
 have e:(!(((cuN u:Int)==0&&((((Je1 ps:Nat):Int)==1)&&true))||(((decide ((0:Int)<(cuN u:Int))&&decide ((cuN u:Int)<((Je1 ps:Nat):Int)))&&((loc.getD (cuN u - 1) 0==((Je1 ps:Nat):Int))&&true))||false)))=false:=by
  rcases hk with ⟨q1,q2⟩ | ⟨q1,q2,q3⟩
  ·rw [q1,q2]; rfl
  ·rw [q3,beq_self_eq_true,decide_eq_true (by omega),decide_eq_true (by omega),Bool.or_false]
   cases (((cuN u:Int)==0)&&((((Je1 ps:Nat):Int)==1)&&true)) <;> rfl
 refine Sx.ite (b:=false) (e▸EvT.not (EvT.bool (EvA.or_cons (EvT.bool (EvA.and_cons (EvT.cmp (Ev.name rfl) Ev.int rfl Jcd) fun V=>EvA.and_cons (EvT.cmp (Ev.name rfl) Ev.int rfl Jcd) fun V=>EvA.and_nil)) fun V=>EvA.or_cons (EvT.bool (EvA.and_cons (EvT.cmp2 Ev.int (Ev.name rfl) (Ev.name rfl) rfl Jgu Jgu) fun h=>EvA.and_cons (EvT.cmp (Ev.item (Ev.name rfl) (Ev.bin (Ev.name rfl) Ev.int Jap) (fun V V=>rfl) (Jdx (k:=cuN u - 1) ?_ ?_ ?_)) (Ev.name rfl) rfl Jcd) fun V=>EvA.and_nil)) fun V=>EvA.or_nil))) SxL.nil
 ·obtain ⟨h1,h2⟩:=Bool.and_eq_true_iff.mp h
  have:=of_decide_eq_true h1
  omega
 ·obtain ⟨h1,h2⟩:=Bool.and_eq_true_iff.mp h
  have:=of_decide_eq_true h1
  have:=of_decide_eq_true h2
  rw [show ((cuN u:Nat):Int) - 1=((cuN u - 1:Nat):Int) by omega]
  exact Jc8 (by omega)
 ·obtain ⟨h1,h2⟩:=Bool.and_eq_true_iff.mp h
  have:=of_decide_eq_true h1
  have:=of_decide_eq_true h2
  rw [List.getElem?_map,List.getD_eq_getElem?_getD,List.getElem?_eq_getElem (show cuN u - 1<loc.length by omega)]; rfl
theorem Jys (kk:LwS prog w g T (n+1)) (k:Jg3 u ps loc):SxL prog w g T (n+1) Jdw (σL9 u ps loc) [nth lwB 10,nth lwB 11,nth lwB 12,nth lwB 13,nth lwB 14,nth lwB 15,nth lwB 16,nth lwB 17] (.ret (.bool true)) :=
 SxL.cons (JHq k) (SxL.cons (JHp kk k) (SxL.cons (JHo kk k) (SxL.cons (JHn kk k) (SxL.cons (JHm kk k) (SxL.cons (JHl kk) (SxL.cons (JHk k) (SxL.last (Sx.ret (Ev.name rfl)))))))))
end
end
section
structure LwE (A:Around) (env:Env):Prop where
 he:env.scope=Jdw
 fr:A.frames=some [env]
 hf:env.frame=some env.locals
 hc:∀ x c,env.cells.lookup x=some c->env.kindOf x=some .cell\/env.kindOf x=some .free
section
variable {prog:Program}{w:World}{K:Frag}{g:Heap}{T:Ja3}{n:Nat}{A:Around}{s s':Shared}{env:Env}{ow:Ow}{σ:Sto}{u ps:List Nat}{av:List Addr}{v:Value}{rest:List Stmt}{Q:Flow->Shared->Prop}{c:Nat}{t:List Nat}{fp fo fi:Addr}{a:Jbn}{b:Jc7}{fd ad ml fl fr:Addr}
theorem Fm.outF (E:LwE A env) (F:Fm g T av ow env σ s) (m:Mv g T (fun b=>b∈frA [env]) s s') (sl:SlK (frA [env]) s.heap s'.heap):Fm g T av ow env σ s'/\Mv g T (Wr env ow) s s':=by
 have fe:frA [env]=[env.locals]:=Jbs (l:=[]) E.hf
 rw [fe] at m sl
 have dk:∃ o,s.heap.get? env.locals=some o/\IsD o:=F.ns.elim fun V n=>n.elim fun o p=>p.elim fun es p=>p.elim fun ep p=>⟨o,p.1,es,ep,p.2.1⟩
 have hns:∀ {b o},b∈[env.locals]->s.heap.get? b=some o->Jaq o->False:=fun {b o} hb e so=>dk.elim fun o' p=>Jks (Jav p.1 (List.mem_singleton.mp hb▸e)▸p.2) so
 refine ⟨F.besideL m (fun b hb u=>(F.isl b hb).elim fun vs p=>p.elim fun k e=>hns u e ⟨_,_,.inr rfl⟩) (fun b o e so u=>(hns u e so).elim) (fun o e=>sl _ (.head _) o e) (fun x c e u=>Ji3 F (E.hc x c e) e (List.mem_singleton.mp u▸dk)) (fun b hb u=>dk.elim fun o p=>(sl _ (.head _) o p.1).elim fun sl' e=>⟨_,List.mem_singleton.mp u▸e,(Jb8 (o:={ o with slots:=sl' }) p.2).2⟩),m.sub fun b hb=>.inl (.inl (List.mem_singleton.mp hb))⟩
theorem lw7 (E:LwE A env) (kp:PdK prog w g T (n+2)) (hp:Jg4 g fp Jpk ["figures", "number"] pdB) (gpd:Glb g "_law_periods" (.ref fp)) (hi:Jg4 g fi (Ja2 (fn1 "int_divmod")) ["a", "b"] (Ja5 (fn1 "int_divmod"))) (gdm:Glb g "int_divmod" (.ref fi)) (gz:Glb g "ZeroDivisionError" (.type "ZeroDivisionError")) (glen:Glb g "len" (.builtin "len")) (gra:Glb g "range" (.type "range")) (rm:Rm (n+3) A) (hoc:ow.c=Ja1 Jdw.names) (F:Fm g T av ow env σ s) (h1:σ.lookup (Str.ofString "figures")=some (.val (.lst (u.map Jb9)))) (h2:σ.lookup (Str.ofString "number")=some (.val (.int (dN (Jd7 u))))) (hf:Fig u) (hl:u.length<=7)
  (k:∀ ow' s',ow'.c=ow.c->Fm g T av ow' env ((Str.ofString "periods",.val (.lst ((Jfi (Jd7 u)).map Jb9)))::σ) s'->Mv g T (Wr env ow) s s'->(∀ b,Wr env ow' b->Wr env ow b)->wpAny (model prog w) A (execs rest env) Q NoE s') :
  wpAny (model prog w) A (execs (nth lwB 7::rest) env) Q NoE s:=by
 refine wpAny_execs_cons (wpAny_Assign_Name (Jf1 (n:=n+3) rfl gpd hp (EvL.more (fun V=>rfl) (Ev.name h1) (EvL.more (fun V=>rfl) (Ev.name h2) EvL.nil)) E.he rm F.gk F.ec fun vs sA xA r1=>?_) rfl)
 cases r1.i1 with | mk ra rb =>
 cases rb.i1 with | mk rc rd =>
 cases rd.i0
 obtain ⟨t,rfl⟩:=rc.i4
 rw [<- Jq8] at ra
 have FA:=F.ext xA
 have FO:FrO g sA.heap [env]:=.cons (FA.frk E.hf) fun V h=>(List.not_mem_nil h).elim
 refine Ja0 (Jmp (n:=n) kp hp hi gdm gz glen gra rm FA.gk E.fr FO (by rw [List.length_map]; exact hl) (Jft hf) FA.ec.avok ra) fun v s2 h₂=>?_
 cases h₂ with | mk m sl r =>
 obtain ⟨Fb,mQ⟩:=FA.outF E m sl
 exact Ja0 (Jb1 Fb (Jd1 Fb.ec E.he (hoc.symm▸rfl)) r) fun V s3 h₃=>k (ow.drop (Str.ofString "periods")) s3 rfl h₃.F (Mv.trans (Mv.trans xA.mv mQ fun V h=>.inl h) h₃.m fun V h=>.inl h) fun b hb=>hb.drop
theorem lw9 (E:LwE A env) (P:LrK prog w K g T a b fd ad ml fl fr) (grw:Glb g "_law_rows" (.ref fr)) (kk:LoK prog w g T (n+1)) (hlo:Jg4 g fo Jeu ["word", "periods"] loB) (glo:Glb g "_law_local" (.ref fo)) (rm:Rm (n+15) A) (hoc:ow.c=Ja1 Jdw.names) (F:Fm g T av ow env σ s) (h1:σ.lookup (Str.ofString "word")=some (.val (.str (sOf (c::t))))) (h2:σ.lookup (Str.ofString "periods")=some (.val (.lst (ps.map Jb9)))) (hc:65<=c/\c<=80) (ht:Sgn t) (hl:t.length+1<=7) (hps:ps.length<=7) (hp0:1<=ps.length)
  (k:∀ ow' s',ow'.c=ow.c->Fm g T av ow' env ((Str.ofString "local",.val (.lst ((List.range t.length).map fun i=>.int ((Jcz (Jg8 (c::t) ps).2 ((i+1:Nat):Int)).getD 0))))::(Str.ofString "right",.val (.bool (Jg8 (c::t) ps).1))::σ) s'->Mv g T (Wr env ow) s s'->(∀ b,Wr env ow' b->Wr env ow b)->wpAny (model prog w) A (execs rest env) Q NoE s') :
  wpAny (model prog w) A (execs (nth lwB 9::rest) env) Q NoE s:=by
 refine wpAny_execs_cons (Assign_Tuple (Jf1 (n:=n+15) rfl glo hlo (EvL.more (fun V=>rfl) (Ev.name h1) (EvL.more (fun V=>rfl) (Ev.name h2) EvL.nil)) E.he rm F.gk F.ec fun vs sA xA r1=>?_) rfl rfl)
 cases r1.i1 with | mk ra rb =>
 cases rb.i1 with | mk rc rd =>
 cases rd.i0
 obtain ⟨tk,rfl⟩:=ra.i5
 have FA:=F.ext xA
 have FO:FrO g sA.heap [env]:=.cons (FA.frk E.hf) fun V h=>(List.not_mem_nil h).elim
 refine Ja0 (Jsp P grw kk hlo rm FA.gk E.fr FO hc ht hl hps hp0 FA.ec.avok rc) fun v s2 h₂=>?_
 cases h₂ with | mk m sl r =>
 obtain ⟨Fb,mQ⟩:=FA.outF E m sl
 refine Ja0 (Jd4 rm.hand E.he Fb (.tup (.cons (.cons .nil))) (hoc.symm▸Jaa rfl) r) fun V s3 h₃=>?_
 cases h₃ with | mk ow' c' F3 m3 w3 l3=>exact k ow' s3 c' F3 (Mv.trans (Mv.trans xA.mv mQ fun V h=>.inl h) m3 fun V h=>.inl h) w3
end
end
section
noncomputable def Jtu (u ps:List Nat):List Int:=(List.range (u.length - 1)).map fun i=>(Jcz (Jg8 (wdL u) ps).2 ((i+1:Nat):Int)).getD 0
structure JE0 (prog:Program) (w:World) (K:Frag) (g:Heap) (T:Ja3) (n:Nat) (a:Jbn) (b:Jc7) (fd ad ml fl fr fp fo fi fa:Addr):Prop where
 P:LrK prog w K g T a b fd ad ml fl fr
 grw:Glb g "_law_rows" (.ref fr)
 lo:LoK prog w g T (n+1)
 hlo:Jg4 g fo Jeu ["word", "periods"] loB
 glo:Glb g "_law_local" (.ref fo)
 pd:PdK prog w g T (n+2)
 hp:Jg4 g fp Jpk ["figures", "number"] pdB
 gpd:Glb g "_law_periods" (.ref fp)
 hi:Jg4 g fi (Ja2 (fn1 "int_divmod")) ["a", "b"] (Ja5 (fn1 "int_divmod"))
 gdm:Glb g "int_divmod" (.ref fi)
 gz:Glb g "ZeroDivisionError" (.type "ZeroDivisionError")
 kk:LwS prog w g T (n+1)
 hlaw:Jg4 g fa Jdw ["script"] lwB
theorem Jwr:FnS Jdw ["script"]:=⟨⟨rfl,rfl,rfl,by decide +kernel⟩,by decide +kernel⟩
theorem Jtr {x:Str}(h:(x,NameKind.cell)∈Jdw.names):Jdw.names.lookup x=some .cell :=
 eq_of_beq (List.all_eq_true.mp (by decide +kernel:(Jdw.names.all fun p=>p.2 != .cell||Jdw.names.lookup p.1==some .cell)=true) _ h)
theorem JHh (u ps:List Nat) (loc:List Int):Sub (σL9 u ps loc) ((Str.ofString "local",.val (.lst (loc.map .int)))::(Str.ofString "right",.val (.bool true))::(Str.ofString "periods",.val (.lst (ps.map Jb9)))::σL5 u):=Sub.cons rfl (Sub.cons rfl (Sub.cons rfl (Sub.cons rfl (Sub.cons rfl (Sub.cons rfl Sub.nil)))))
section
variable {prog:Program}{w:World}{K:Frag}{g:Heap}{T:Ja3}{n:Nat}{A:Around}{s:Shared}{a:Jbn}{b:Jc7}{fd ad ml fl fr fp fo fi fa:Addr}{v:Value}{script:List Int}{u:List Nat}{av:List Addr}
theorem Jyt (L:JE0 prog w K g T n a b fd ad ml fl fr fp fo fi fa) (rm:Rm (n+16) A) (hg:GK g T s) (hfr:A.frames=some []) (hav:Jdk av s.heap) (hv:VD av s.heap v (.lst (script.map .int))) (hs:script.length<=1000) (hu:Jht (cel script)=Jd7 u) (hf:Fig u) (hr:(Jg8 (wdL u) (Jfi (Jd7 u))).1=true) (k:Jg3 u (Jfi (Jd7 u)) (Jtu u (Jfi (Jd7 u)))) :
  wpAny (model prog w) A (call (.ref fa) [v]) (Out g T [] s (.bool true)) NoE s:=by
 have n7:=k.n7
 obtain ⟨x,u',rfl⟩:∃ x u',u=x::u':=by
  cases u with
  | nil=>exact absurd k.n2 (by decide)
  | cons x u'=>exact ⟨x,u',rfl⟩
 have hx:=hf x (.head _)
 have hsg:Sgn (wdL u'):=fun y hy=>by
  obtain ⟨z,hz,rfl⟩:=List.mem_map.mp hy
  have:=hf z (.tail _ hz)
  lia
 refine Jde (n:=n+15) L.hlaw Jwr.toFnS0 (.nil Jwr) rm hg hav (.cons hv .nil) rfl fun env ow sA N hff=>?_
 refine wpAny_mono (E:=NoE) ?_ (fun V V q=>q) fun V V f=>f.elim
 have E:LwE (A.deeper env) env:=⟨N.sc_,Around.frames_deeper hfr,hff,fun y cc e=>by
  by_cases q:(y,NameKind.cell)∈Jdw.names
  ·exact .inl (by rw [Env.kindOf,N.sc_]; exact Jtr q)
  ·exact nomatch (N.cells y q).symm.trans e⟩
 show wpAny _ _ (execs ([nth lwB 0,nth lwB 1,nth lwB 2,nth lwB 3,nth lwB 4,nth lwB 5,nth lwB 6]++[nth lwB 7,nth lwB 8,nth lwB 9,nth lwB 10,nth lwB 11,nth lwB 12,nth lwB 13,nth lwB 14,nth lwB 15,nth lwB 16,nth lwB 17]) env) _ NoE sA
 rw [Jc4]
 refine wpAny_bind (Ja0 (Jtq L.kk hs hu hf n7 _ sA _ ow env N.sc_ N.c (N.rm.le (by lia)) N.F) fun fw s2 h₂=>?_)
 cases h₂ with | next nx =>
 cases nx with | mk ow2 cB Fb mQ wB =>
 refine lw7 E L.pd L.hp L.gpd L.hi L.gdm L.gz L.kk.len L.kk.ran (N.rm.le (by lia)) (cB.trans N.c) Fb rfl rfl hf n7 fun ow3 s3 cC F3 m3 w3=>?_
 refine wpAny_execs_cons (Ja0 (lw8 (n:=n) k.p0 k.p7 rfl _ s3 _ ow3 env N.sc_ (cC.trans (cB.trans N.c)) (N.rm.le (by lia)) F3) fun fw s4 h₄=>?_)
 cases h₄ with | next nx =>
 cases nx with | mk ow4 cD F4 m4 w4 =>
 refine lw9 (c:=65+x) (t:=wdL u') E L.P L.grw L.lo L.hlo L.glo N.rm (cD.trans (cC.trans (cB.trans N.c))) F4 rfl rfl (by lia) hsg (by rw [List.length_map]; exact n7) k.p7 k.p0 fun ow5 s5 cE F5 m5 w5=>?_
 have e:((List.range (wdL u').length).map fun i=>D.int ((Jcz (Jg8 ((65+x)::wdL u') (Jfi (Jd7 (x::u')))).2 ((i+1:Nat):Int)).getD 0))=(Jtu (x::u') (Jfi (Jd7 (x::u')))).map D.int:=by
  rw [Jtu,List.map_map,List.length_cons,Nat.add_sub_cancel,List.length_map]; rfl
 have hr:(Jg8 ((65+x)::wdL u') (Jfi (Jd7 (x::u')))).1=true:=hr
 rw [e,hr] at F5
 have F6:Fm g T av ow5 env (σL9 (x::u') (Jfi (Jd7 (x::u'))) (Jtu (x::u') (Jfi (Jd7 (x::u'))))) s5:=F5.weak (JHh _ _ _)
 have gA:=N.F.gk
 have bb:∀ y,Wr env ow2 y->s.heap.get? y=none:=fun y hy=>(wB y hy).elim (N.w y) (N.x.none hg)
 have xB:Ext g T s s2:=(Mv.trans N.x.mv mQ fun y hy=>.inr (N.w y hy)).ext (W:=fun V=>False) fun y f=>f.elim
 have bc:∀ y,Wr env ow3 y->s.heap.get? y=none:=fun y hy=>bb y (w3 y hy)
 have x3:Ext g T s s3:=(Mv.trans xB.mv m3 fun y hy=>.inr (bb y hy)).ext (W:=fun V=>False) fun y f=>f.elim
 have bS:∀ y,Wr env ow4 y->s.heap.get? y=none:=fun y hy=>(w4 y hy).elim (bc y) (x3.none hg)
 have xD:Ext g T s s4:=(Mv.trans x3.mv m4 fun y hy=>.inr (bc y hy)).ext (W:=fun V=>False) fun y f=>f.elim
 have bE:∀ y,Wr env ow5 y->s.heap.get? y=none:=fun y hy=>bS y (w5 y hy)
 have x5:Ext g T s s5:=(Mv.trans xD.mv m5 fun y hy=>.inr (bS y hy)).ext (W:=fun V=>False) fun y f=>f.elim
 refine Ja0 (Jys L.kk k _ s5 _ ow5 env N.sc_ (cE.trans (cD.trans (cC.trans (cB.trans N.c)))) (N.rm.le (by lia)) F6) fun fw s6 h₆=>?_
 cases h₆ with | ret r m=>exact ⟨(Mv.trans x5.mv m fun y hy=>.inr (bE y hy)).ext (W:=fun V=>False) fun y f=>f.elim,VD.sub (av':=[]) nofun r⟩
end
end
section
section
variable {α β:Type}{f:α->β}{S:α->Prop}
noncomputable abbrev Jo1 (S:α->Prop) (f:α->β):Prop:=∀ x y,S x->S y->f x=f y->x=y
theorem Jto (hf:Jo1 S f):∀ {a b:List α},(∀ x∈a,S x)->(∀ x∈b,S x)->a.map f=b.map f->a=b:=by
 intro a
 induction a with
 | nil=>intro b _ _ h; exact (List.map_eq_nil_iff.mp h.symm).symm
 | cons x a ih =>
  intro b ha hb h
  cases b with
  | nil=>exact nomatch h
  | cons y b =>
   obtain ⟨h1,h2⟩:=List.cons.inj h
   rw [hf x y (ha x (.head _)) (hb y (.head _)) h1,ih (fun z hz=>ha z (.tail _ hz)) (fun z hz=>hb z (.tail _ hz)) h2]
end
section
variable {φ:Nat->Nat}{S:Nat->Prop}{v:List Nat}
theorem Jya {F:Nat->Int}(hf:Jo1 S F) (hv:∀ x∈v,S x):Jfi (v.map F)=((List.range v.length).map (· + 1)).filter fun p=>decide (v.take (v.length - p)=v.drop p):=by
 unfold Jfi
 rw [List.length_map]
 refine List.filter_congr fun p V=>?_
 unfold Jlt
 rw [List.length_map, <- List.map_take, <- List.map_drop]
 refine decide_eq_decide.mpr ⟨fun h=>Jto hf (fun x hx=>hv x (List.take_subset _ _ hx)) (fun x hx=>hv x (List.drop_subset _ _ hx)) h,fun h=>congrArg _ h⟩
theorem JAi (wd:Nat) (l:List Nat):chk wd (l.map φ)=(chk wd l).map (List.map φ):=by
 unfold chk
 rw [List.length_map,List.map_map]
 exact List.map_congr_left fun i V=>by rw [<- List.map_drop, <- List.map_take]; rfl
theorem JAr (hf:Jo1 S φ) (h32:φ 32=32) (hs:S 32):∀ {a b:List Nat},(∀ x∈a,S x)->(∀ x∈b,S x)->agB (a.map φ) (b.map φ)=agB a b:=by
 have eqb:∀ x y,S x->S y->(φ x==φ y)=(x==y):=fun x y hx hy=>by
  rw [Bool.eq_iff_iff,beq_iff_eq,beq_iff_eq]
  exact ⟨hf x y hx hy,fun h=>congrArg φ h⟩
 intro a
 induction a with
 | nil=>exact fun V V=>rfl
 | cons x a ih =>
  intro b ha hb
  cases b with
  | nil=>rfl
  | cons y b =>
   show ((φ x==32||φ x==φ y)&&agB (a.map φ) (b.map φ))=((x==32||x==y)&&agB a b)
   have e1:=eqb x 32 (ha x (.head _)) hs
   rw [h32] at e1
   rw [ih (fun z hz=>ha z (.tail _ hz)) (fun z hz=>hb z (.tail _ hz)),e1,eqb x y (ha x (.head _)) (hb y (.head _))]
section
variable (hf:Jo1 S φ) (h32:φ 32=32) (hs:S 32) (hv:∀ x∈v,S x)
include h32
theorem Jk7 (hd wd:Nat):rws (v.map φ) hd wd=(rws v hd wd).map (List.map φ):=by
 rw [rws,rws, <- JAi,List.map_append,List.map_replicate,h32]
theorem Jp6 (hd wd p:Nat):Jid (v.map φ) hd wd p=(Jid v hd wd p).map φ:=by
 rw [Jid,Jid,Jk7 h32,List.getD_eq_getElem?_getD,List.getD_eq_getElem?_getD,List.getElem?_map]
 cases (rws v hd wd)[p]? <;> rfl
include hf hs hv
theorem Jp5 {hd wd p:Nat}:∀ x∈Jid v hd wd p,S x:=fun x hx=>by
 rw [Jid,List.getD_eq_getElem?_getD] at hx
 cases h:(rws v hd wd)[p]? with
 | none=>rw [h] at hx; exact (List.not_mem_nil hx).elim
 | some r =>
  rw [h] at hx
  rcases List.mem_append.mp ((Jfy r (List.mem_of_getElem? h)).2 x hx) with q | q
  ·exact List.eq_of_mem_replicate q▸hs
  ·exact hv x q
theorem Jvs (hd wd p:Nat):JDm (v.map φ) hd wd p=JDm v hd wd p:=by
 unfold JDm
 rw [Jp6 h32,Jp6 h32]
 have:=JAr (S:=S) (φ:=φ) hf h32 hs (a:=32::Jid v hd wd (p - 1)) (b:=32::Jid v hd wd p) (fun x hx=>(List.mem_cons.mp hx).elim (fun q=>q▸hs) (Jp5 hf h32 hs hv x)) fun x hx=>(List.mem_cons.mp hx).elim (fun q=>q▸hs) (Jp5 hf h32 hs hv x)
 rw [List.map_cons,List.map_cons,h32] at this
 exact this
theorem Jry (hd wd:Nat):alk (v.map φ) hd wd=alk v hd wd:=by
 unfold alk JEe
 rw [Jk7 h32,List.length_map]
 exact congrArg _ (List.filter_congr fun p V=>Jvs hf h32 hs hv hd wd p)
theorem Jyh (ps:List Nat) (hd wd:Nat):okT (v.map φ) ps hd wd=okT v ps hd wd:=by
 unfold okT
 rw [Jry hf h32 hs hv,Jk7 h32,List.length_map]
theorem Jtt (ps:List Nat):Jg8 (v.map φ) ps=Jg8 v ps:=by
 have e1:∀ wd,Jfc (v.map φ) ps wd=Jfc v ps wd:=fun wd=>funext fun j=>funext fun hd=>by
  unfold Jfc
  rw [Jyh hf h32 hs hv,Jry hf h32 hs hv]
 have e2:Jik (v.map φ) ps=Jik v ps:=funext fun j=>funext fun wd=>by
  unfold Jik
  rw [e1]
 unfold Jg8
 rw [e2,List.length_map]
end
theorem JBz {h:Nat->Nat}(hm:∀ x y,S x->S y->x<y->h x<h y):∀ {a b:List Nat},(∀ x∈a,S x)->(∀ x∈b,S x)->(a.map h<b.map h↔a<b):=by
 have hi:∀ x y,S x->S y->(h x=h y↔x=y):=fun x y hx hy=>⟨fun e=>by
  rcases Nat.lt_trichotomy x y with q | q | q
  ·have:=hm x y hx hy q; lia
  ·exact q
  ·have:=hm y x hy hx q; lia,fun e=>congrArg h e⟩
 have hl:∀ x y,S x->S y->(h x<h y↔x<y):=fun x y hx hy=>⟨fun e=>by
  rcases Nat.lt_trichotomy x y with q | q | q
  ·exact q
  ·rw [q] at e; lia
  ·have:=hm y x hy hx q; lia,hm x y hx hy⟩
 intro a
 induction a with
 | nil =>
  intro b _ _
  cases b with
  | nil=>exact Iff.rfl
  | cons y b=>exact ⟨fun V=>List.nil_lt_cons _ _,fun V=>List.nil_lt_cons _ _⟩
 | cons x a ih =>
  intro b ha hb
  cases b with
  | nil=>exact ⟨fun q=>(List.not_lt_nil _ q).elim,fun q=>(List.not_lt_nil _ q).elim⟩
  | cons y b =>
   rw [List.map_cons,List.map_cons,List.cons_lt_cons_iff,List.cons_lt_cons_iff,ih (fun z hz=>ha z (.tail _ hz)) (fun z hz=>hb z (.tail _ hz)),hl x y (ha x (.head _)) (hb y (.head _)),hi x y (ha x (.head _)) (hb y (.head _))]
theorem Jwb (w:List Nat) (i:Nat):((Jd3 w).getD i es0).cps.toList=w.drop i:=by
 rw [List.getD_eq_getElem?_getD,List.getElem?_map]
 by_cases h:i<w.length
 ·rw [List.getElem?_range h]; rfl
 ·rw [List.getElem?_eq_none (by rw [List.length_range]; lia),List.drop_of_length_le (by lia)]; rfl
theorem Jpv {h:Nat->Nat}(hm:∀ x y,S x->S y->x<y->h x<h y) (hv:∀ x∈v,S x):Jet (Jd3 (v.map h))=argBest (fun i j=>decide (v.drop j<v.drop i)) (v.length - 1):=by
 unfold Jet
 rw [Jk0,List.length_map]
 refine congrArg (argBest · _) (funext fun i=>funext fun j=>?_)
 unfold JDj
 rw [Jwb,Jwb, <- List.map_drop, <- List.map_drop]
 exact decide_eq_decide.mpr (JBz hm (fun x hx=>hv x (List.drop_subset _ _ hx)) fun x hx=>hv x (List.drop_subset _ _ hx))
end
end
noncomputable def JE7 (v:List Nat):List Nat:=((List.range v.length).map (· + 1)).filter fun p=>decide (v.take (v.length - p)=v.drop p)
noncomputable def mxL (w:List Nat):Nat:=argBest (fun i j=>decide (w.drop j<w.drop i)) (w.length - 1)
noncomputable def agR (a:List Nat):List Nat->Bool:=List.rec (fun V=>true) (fun x V ih b=>List.rec true (fun y t V=>Bool.rec false (ih t) (Bool.rec (Nat.beq x y) true (Nat.beq x 32))) b) a
noncomputable def JEs (v:List Nat) (hd m wd:Nat):List Nat:=((List.replicate hd 32++v).drop m).take wd
noncomputable def JGn (n:Nat) (ps:List Nat) (al:Nat->Nat->List Int) (rl:Nat->Nat->Nat):Bool×Loc:=((List.range n).map (· + 1)).foldl (fun j wd=>(List.range (Jsf ps wd)).foldl (fun j hd=>(j.1&&((((al hd wd).length:Int)==(rl hd wd:Int) - 1)==ps.contains wd),(al hd wd).foldl (Jr7 wd) j.2)) j) (true,[])
noncomputable def rlF (n hd wd:Nat):Nat:=(hd+n+(wd - 1)) / wd
noncomputable def alF (v:List Nat) (hd wd:Nat):List Int:=(((List.range (rlF v.length hd wd - 1)).map (· + 1)).filter fun p=>agR (JEs v hd ((p - 1)*wd) wd) (JEs v hd (p*wd) wd)).map fun p:Nat=>((p:Int)*wd - hd)
noncomputable def JE9 (v ps:List Nat):Bool×Loc:=JGn v.length ps (alF v) (rlF v.length)
noncomputable abbrev JGm (v ps:List Nat):List Int:=(List.range (v.length - 1)).map fun i=>(Jcz (JE9 v ps).2 ((i+1:Nat):Int)).getD 0
noncomputable abbrev rn (r:List Nat) (x:Nat):Nat:=r.getD x 0
noncomputable abbrev JGs (v r t:List Nat):Nat:=ctN (mxL (v.map (rn r))) (mxL (v.map (rn t)))
noncomputable def fo (n:Nat) (f:Nat->Bool):Bool:=n.rec (f 0) fun k V=>f (k+1)
theorem JCs (n:Nat) (f:Nat->Bool):fo n f=f n:=by cases n <;> rfl
noncomputable def JFi (v r t:List Nat) (m:Nat) (loc:List Int):Bool:=fo (JGs v r t) fun c=>(c==0&&m==1)||(decide (0<c)&&decide (c<m)&&(loc.getD (c - 1) 0==((m:Nat):Int)))
noncomputable abbrev Jis:List (List Nat):=[[0,1,2],[0,2,1],[1,0,2],[1,2,0],[2,0,1],[2,1,0]]
noncomputable abbrev JBj:List (List Nat×List Nat):=[([0,1,2],[2,1,0]),([2,1,0],[0,1,2]),([0,2,1],[2,0,1]),([2,0,1],[0,2,1]),([1,0,2],[1,2,0]),([1,2,0],[1,0,2])]
noncomputable abbrev mir (r:List Nat):List Nat:=r.map fun x=>2 - x
noncomputable def JGt (v ps:List Nat) (loc:List Int):Bool:=decide (0<ps.length)&&decide (ps.length<=7)&&fo (Je1 ps) fun m=>decide (1<=m)&&decide (m<=v.length)&&((List.range (v.length - Jk1 m)).all fun f=>((loc.drop f).take (Jk1 m)).contains ((m:Nat):Int))&&JBj.all fun p=>p.rec fun r t=>JFi v r t m loc
noncomputable def JFl (v:List Nat):Bool:=(JE9 v (JE7 v)).1&&JGt v (JE7 v) (JGm v (JE7 v))
noncomputable def Jq7 (v:List Nat):Bool:=(v.getD 0 0==0)&&((v.find? fun x=>x != 0).getD 1==1)
noncomputable def Jxn (n:Nat):List (List Nat):=n.rec [[]] fun V ih=>ih.flatMap fun w=>[0::w,1::w,2::w]
noncomputable abbrev JDk (n:Nat) (f:List Nat->Bool):Prop:=(Jxn n).all f=true
noncomputable abbrev JGu (v:List Nat):Bool := !Jq7 v||JFl v
noncomputable abbrev Jeo (n x:Nat):Prop:=JDk n fun w=>JGu (0::x::w)
theorem Jcu {n:Nat}{f:List Nat->Bool}(h0:JDk n fun w=>f (0::w)) (h1:JDk n fun w=>f (1::w)) (h2:JDk n fun w=>f (2::w)):JDk (n+1) f:=by
 show ((Jxn n).flatMap fun w=>[0::w,1::w,2::w]).all f=true
 rw [List.all_flatMap]
 refine List.all_eq_true.mpr fun w hw=>?_
 show (f (0::w)&&(f (1::w)&&(f (2::w)&&true)))=true
 rw [List.all_eq_true.mp h0 w hw,List.all_eq_true.mp h1 w hw,List.all_eq_true.mp h2 w hw]; rfl
theorem JFx:Jeo 0 0:=by decide +kernel
theorem JFw:Jeo 0 1:=by decide +kernel
theorem JFv:Jeo 1 0:=by decide +kernel
theorem JFu:Jeo 1 1:=by decide +kernel
theorem JFt:Jeo 2 0:=by decide +kernel
theorem JFs:Jeo 2 1:=by decide +kernel
theorem JFr:Jeo 3 0:=by decide +kernel
theorem JFq:Jeo 3 1:=by decide +kernel
theorem JFp:Jeo 4 0:=by decide +kernel
theorem JFo:Jeo 4 1:=Jcu (by decide +kernel) (by decide +kernel) (by decide +kernel)
theorem JFn:Jeo 5 0:=Jcu (by decide +kernel) (Jcu (by decide +kernel) (by decide +kernel) (by decide +kernel)) (by decide +kernel)
theorem JFm:Jeo 5 1:=Jcu (Jcu (by decide +kernel) (by decide +kernel) (by decide +kernel)) (Jcu (by decide +kernel) (by decide +kernel) (by decide +kernel)) (Jcu (by decide +kernel) (by decide +kernel) (by decide +kernel))
section
theorem Jru (x y:Nat):(x==y)=Nat.beq x y:=by
 rw [Bool.eq_iff_iff,beq_iff_eq]
 exact ⟨fun h=>h▸Nat.beq_refl x,Nat.eq_of_beq_eq_true⟩
theorem JDn (a:List Nat):∀ b,agB a b=agR a b:=by
 induction a with
 | nil=>exact fun b=>rfl
 | cons x a ih =>
  intro b
  cases b with
  | nil=>rfl
  | cons y b =>
   show ((x==32||x==y)&&agB a b)=_
   rw [ih b,Jru,Jru]
   show _ = @Bool.rec (fun V=>Bool) false (agR a b) (@Bool.rec (fun V=>Bool) (Nat.beq x y) true (Nat.beq x 32))
   cases Nat.beq x 32 <;> cases Nat.beq x y <;> rfl
section
variable {v:List Nat}{hd wd i:Nat}
theorem JGk (v:List Nat) (hd wd:Nat):(rws v hd wd).length=rlF v.length hd wd:=by
 unfold rws chk
 rw [List.length_map,List.length_range,List.length_append,List.length_replicate]; rfl
theorem Jp4 (hi:i<(rws v hd wd).length):Jid v hd wd i=JEs v hd (i*wd) wd:=by
 unfold rws chk at hi
 rw [List.length_map,List.length_range] at hi
 unfold Jid rws chk
 rw [List.getD_eq_getElem?_getD,List.getElem?_map,List.getElem?_range hi]; rfl
theorem JDl (v:List Nat) (hd wd:Nat):alk v hd wd=alF v hd wd:=by
 unfold alk alF JEe
 rw [<- JGk]
 refine congrArg _ (List.filter_congr fun p hp=>?_)
 obtain ⟨i,hi,rfl⟩:=List.mem_map.mp hp
 have hi:=Nat.add_lt_of_lt_sub (List.mem_range.mp hi)
 rw [<- Jp4 hi, <- JDn,Nat.add_sub_cancel, <- Jp4 (Nat.lt_of_succ_lt hi)]; rfl
end
theorem Jyz (v ps:List Nat):Jg8 v ps=JE9 v ps:=by
 show JGn v.length ps (alk v) (fun hd wd=>(rws v hd wd).length)=_
 rw [show alk v=alF v from funext fun hd=>funext fun wd=>JDl v hd wd,show (fun hd wd=>(rws v hd wd).length)=rlF v.length from funext fun hd=>funext fun wd=>JGk v hd wd]; rfl
theorem JBf {r:List Nat}(hr:r∈Jis) {x:Nat}(hx:x<3):rn r x<3:=(by decide +kernel:∀ r∈Jis,∀ x,x<3->rn r x<3) r hr x hx
theorem lt3 {P:Nat->Prop}(h0:P 0) (h1:P 1) (h2:P 2):∀ x,x<3->P x:=fun x hx=>by
 rcases Nat.lt_or_ge x 1 with q | q
 ·rwa [show x=0 by lia]
 rcases Nat.lt_or_ge x 2 with q' | q'
 ·rwa [show x=1 by lia]
 ·rwa [show x=2 by lia]
section
variable {v r:List Nat}{f g:Nat->Nat}
noncomputable abbrev JE8 (f:Nat->Nat) (x:Nat):Nat:=if x=32 then 32 else 65+f x
theorem Jyg (hf:Jo1 (· < 3) f):Jo1 (fun x=>x<3\/x=32) (JE8 f):=fun x y hx hy h=>by
 unfold JE8 at h
 by_cases a:x=32
 ·by_cases b:y=32
  ·rw [a,b]
  ·rw [if_pos a,if_neg b] at h; lia
 ·by_cases b:y=32
  ·rw [if_neg a,if_pos b] at h; lia
  ·rw [if_neg a,if_neg b] at h
   exact hf x y (hx.resolve_right a) (hy.resolve_right b) (Nat.add_left_cancel h)
theorem Jyy (hv:∀ x∈v,x<3) (hf:Jo1 (· < 3) f) (ps:List Nat):Jg8 (v.map (JE8 f)) ps=Jg8 v ps:=Jtt (Jyg hf) rfl (Or.inr rfl) (fun x hx=>Or.inl (hv x hx)) ps
theorem JBq (hv:∀ x∈v,x<3) (n2:2<=v.length) (n7:v.length<=7) (hc:JFl v=true) (hr:r∈Jis) (he:∀ x,x<3->f x=g (rn r x)) (hf:Jo1 (· < 3) f) (g1:g 0<g 1) (g2:g 1<g 2) (g3:g 2<=15) :
  (Jg8 (wdL (v.map f)) (Jfi (Jd7 (v.map f)))).1=true/\Jg3 (v.map f) (Jfi (Jd7 (v.map f))) (Jtu (v.map f) (Jfi (Jd7 (v.map f)))):=by
 have gm:∀ x y,x<3->y<3->x<y->g x<g y:=fun x y hx hy h=>by
  rcases (show (x=0/\y=1)\/(x=0/\y=2)\/(x=1/\y=2) by lia) with ⟨rfl,rfl⟩ | ⟨rfl,rfl⟩ | ⟨rfl,rfl⟩ <;> lia
 have g15:∀ x,x<3->g x<=15:=lt3 (by lia) (by lia) g3
 have eper:Jfi (Jd7 (v.map f))=JE7 v:=by
  rw [Jd7,List.map_map]
  exact Jya (S:=(· < 3)) (fun x y hx hy h=>hf x y hx hy (Int.ofNat.inj h)) hv
 have ewd:wdL (v.map f)=v.map (JE8 f):=by
  rw [wdL,List.map_map]
  exact List.map_congr_left fun x hx=>by
   have:=hv x hx
   exact (if_neg (show ¬ x=32 by lia)).symm
 have eloc:∀ ps,Jg8 (wdL (v.map f)) ps=JE9 v ps:=fun ps=>((congrArg (Jg8 · ps) ewd).trans (Jyy hv hf ps)).trans (Jyz v ps)
 have eL:∀ ps,Jtu (v.map f) ps=JGm v ps:=fun ps=>by
  unfold Jtu
  rw [eloc,List.length_map]
 have em:Jet (Jd3 (wdL (v.map f)))=mxL (v.map (rn r)):=by
  have e:wdL (v.map f)=(v.map (rn r)).map fun y=>65+g y:=by
   rw [wdL,List.map_map,List.map_map]
   exact List.map_congr_left fun x hx=>congrArg (65 + ·) (he x (hv x hx))
  rw [e]
  exact Jpv (S:=(· < 3)) (fun x y hx hy h=>by have:=gm x y hx hy h; lia) fun x hx=>by
   obtain ⟨z,hz,rfl⟩:=List.mem_map.mp hx
   exact JBf hr (hv z hz)
 have em2:Jet (Jd3 (wdL (Je0 (v.map f))))=mxL (v.map fun x=>2 - rn r x):=by
  have e:wdL (Je0 (v.map f))=(v.map fun x=>2 - rn r x).map fun y=>65+(15 - g (2 - y)):=by
   rw [wdL,Je0,List.map_map,List.map_map,List.map_map]
   refine List.map_congr_left fun x hx=>?_
   have:=JBf hr (hv x hx)
   show 65+(15 - f x)=65+(15 - g (2 - (2 - rn r x)))
   rw [he x (hv x hx),show 2 - (2 - rn r x)=rn r x by lia]
  rw [e]
  exact Jpv (S:=(· < 3)) (fun x y hx hy h=>by
   have:=gm (2 - y) (2 - x) (by lia) (by lia) (by lia)
   have:=g15 (2 - x) (by lia)
   lia) fun x hx=>by
    obtain ⟨z,hz,rfl⟩:=List.mem_map.mp hx
    lia
 obtain ⟨c1,c2⟩:=Bool.and_eq_true_iff.mp hc
 rw [eper,eloc,eL]
 refine ⟨c1,?_⟩
 unfold JGt at c2
 rw [JCs] at c2
 simp only [Bool.and_eq_true,decide_eq_true_eq] at c2
 obtain ⟨⟨k1,k2⟩,⟨⟨k3,k4⟩,k5⟩,k6⟩:=c2
 have q:JFi v r (mir r) _ _=true:=List.all_eq_true.mp k6 (r,mir r) ((by decide +kernel:∀ r∈Jis,(r,mir r)∈JBj) r hr)
 refine ⟨by rwa [List.length_map],by rwa [List.length_map],k1,k2,k3,by rwa [List.length_map],by rw [List.length_map,List.length_map,List.length_range],fun i hi=>?_,?_⟩
 ·rw [List.length_map] at hi
  exact List.all_eq_true.mp k5 i (List.mem_range.mpr hi)
 ·rw [em,em2]
  unfold JFi at q
  rw [JCs,JGs,show v.map (rn (mir r))=v.map fun x=>2 - rn r x from List.map_congr_left fun x hx=>(by decide +kernel:∀ r∈Jis,∀ x,x<3->rn (mir r) x=2 - rn r x) r hr x (hv x hx)] at q
  simp only [Bool.or_eq_true,Bool.and_eq_true,decide_eq_true_eq,beq_iff_eq] at q
  exact q.imp id fun z=>⟨z.1.1,z.1.2,z.2⟩
end
end
theorem Jpu:∀ (n:Nat) (w:List Nat),w.length=n->(∀ x∈w,x<3)->w∈Jxn n:=by
 intro n
 induction n with
 | zero=>exact fun w h V=>by rw [List.eq_nil_of_length_eq_zero h]; exact .head _
 | succ n ih =>
  intro w h hw
  cases w with
  | nil=>exact nomatch h
  | cons x w =>
   have hm:=ih w (Nat.succ.inj h) fun y hy=>hw y (.tail _ hy)
   have hx:=hw x (.head _)
   refine List.mem_flatMap.mpr ⟨w,hm,?_⟩
   revert x
   exact fun x V hw hx=>lt3 (P:=fun x=>x::w∈[0::w,1::w,2::w]) (.head _) (.tail _ (.head _)) (.tail _ (.tail _ (.head _))) x hx
theorem JAj {n x:Nat}(hn:n<=5) (hx:x<=1):Jeo n x:=by
 rcases (show n=0\/n=1\/n=2\/n=3\/n=4\/n=5 by lia) with rfl | rfl | rfl | rfl | rfl | rfl <;> rcases (show x=0\/x=1 by lia) with rfl | rfl
 ·exact JFx
 ·exact JFw
 ·exact JFv
 ·exact JFu
 ·exact JFt
 ·exact JFs
 ·exact JFr
 ·exact JFq
 ·exact JFp
 ·exact JFo
 ·exact JFn
 ·exact JFm
theorem JDf {v:List Nat}(h2:2<=v.length) (h7:v.length<=7) (hv:∀ x∈v,x<3) (hc:Jq7 v=true):JFl v=true:=by
 obtain ⟨z,x,w,rfl⟩:∃ z x w,v=z::x::w:=by
  cases v with
  | nil=>exact absurd h2 (by decide)
  | cons z v =>
   cases v with
   | nil=>exact absurd h2 (by show ¬ 2<=1; decide)
   | cons x w=>exact ⟨z,x,w,rfl⟩
 have hc':=hc
 unfold Jq7 at hc'
 obtain ⟨c1,c2⟩:=Bool.and_eq_true_iff.mp hc'
 have hz:z=0:=eq_of_beq c1
 subst hz
 have hx3:=hv x (.tail _ (.head _))
 have hx:x<=1:=by
  refine Decidable.byContradiction fun q=>?_
  have:x=2:=by lia
  subst this
  exact nomatch c2
 rw [List.length_cons,List.length_cons] at h7
 have:=List.all_eq_true.mp (JAj (n:=w.length) (by lia) hx) w (Jpu _ w rfl fun y hy=>hv y (.tail _ (.tail _ hy)))
 rw [JGu,hc] at this
 exact this
theorem JBm {f:Nat->Nat}(h01:f 0≠f 1) (h02:f 0≠f 2) (h12:f 1≠f 2) (h0:f 0<=15) (h1:f 1<=15) (h2:f 2<=15):∃ r∈Jis,∃ g:Nat->Nat,(∀ x,x<3->f x=g (rn r x))/\g 0<g 1/\g 1<g 2/\g 2<=15:=by
 have go:∀ (r:List Nat) (a b c:Nat),r∈Jis->f 0=[a,b,c].getD (rn r 0) 0->f 1=[a,b,c].getD (rn r 1) 0->f 2=[a,b,c].getD (rn r 2) 0->a<b->b<c->c<=15->∃ r∈Jis,∃ g:Nat->Nat,(∀ x,x<3->f x=g (rn r x))/\g 0<g 1/\g 1<g 2/\g 2<=15:=fun r a b c hr e0 e1 e2 q1 q2 q3=>⟨r,hr,fun y=>[a,b,c].getD y 0,lt3 e0 e1 e2,q1,q2,q3⟩
 rcases Nat.lt_or_gt_of_ne h01 with a | a <;> rcases Nat.lt_or_gt_of_ne h02 with b | b <;> rcases Nat.lt_or_gt_of_ne h12 with c | c
 ·exact go [0,1,2] (f 0) (f 1) (f 2) (by decide) rfl rfl rfl a c h2
 ·exact go [0,2,1] (f 0) (f 2) (f 1) (by decide) rfl rfl rfl b c h1
 ·omega
 ·exact go [1,2,0] (f 2) (f 0) (f 1) (by decide) rfl rfl rfl b a h1
 ·exact go [1,0,2] (f 1) (f 0) (f 2) (by decide) rfl rfl rfl a b h2
 ·omega
 ·exact go [2,0,1] (f 1) (f 2) (f 0) (by decide) rfl rfl rfl c b h0
 ·exact go [2,1,0] (f 2) (f 1) (f 0) (by decide) rfl rfl rfl c a h0
theorem JGo {f:Nat->Nat}(h01:f 0≠f 1) (h02:f 0≠f 2) (h12:f 1≠f 2):Jo1 (· < 3) f:=fun x y hx hy h=>
 lt3 (P:=fun x=>∀ y,y<3->f x=f y->x=y) (lt3 (fun V=>rfl) (fun h=>(h01 h).elim) fun h=>(h02 h).elim) (lt3 (fun h=>(h01 h.symm).elim) (fun V=>rfl) fun h=>(h12 h).elim) (lt3 (fun h=>(h02 h.symm).elim) (fun h=>(h12 h.symm).elim) fun V=>rfl) x hx y hy h
noncomputable def toC (a b z:Nat):Nat:=if z=a then 0 else if z=b then 1 else 2
noncomputable def ofC (a b z:Nat):Nat:=if z=0 then a else if z=1 then b else 3 - a - b
theorem JEt {a b:Nat}(ha:a<3) (hb:b<3) (hab:a≠b) {z:Nat}(hz:z<3):ofC a b (toC a b z)=z :=
 (by decide +kernel:∀ a,a<3->∀ b,b<3->a≠b->∀ z,z<3->ofC a b (toC a b z)=z) a ha b hb hab z hz
theorem Jpm {a b:Nat}(ha:a<3) (hb:b<3) (hab:a≠b):∀ z,z<3->ofC a b z<3:=lt3 ha hb (show 3 - a - b<3 by omega)
theorem Jyi {a b:Nat}(ha:a<3) (hb:b<3) (hab:a≠b):Jo1 (· < 3) (ofC a b):=JGo hab (show a≠3 - a - b by omega) (show b≠3 - a - b by omega)
theorem Juz (a b:Nat) (ks:List Nat):(ks.map (toC a b)).find? (fun x=>x != 0)=(ks.find? fun z=>z != a).map (toC a b):=by
 induction ks with
 | nil=>rfl
 | cons k ks ih =>
  rw [List.map_cons,List.find?_cons,List.find?_cons,ih]
  by_cases h:k=a
  ·rw [show (k != a)=false by rw [h]; exact bne_self_eq_false _,show (toC a b k != 0)=false by rw [toC,if_pos h]; rfl]
  ·rw [show (k != a)=true from bne_iff_ne.mpr h,show (toC a b k != 0)=true by
    rw [toC,if_neg h]
    by_cases h2:k=b
    ·rw [if_pos h2]; rfl
    ·rw [if_neg h2]; rfl]
   rfl
theorem Jn7 {ks:List Nat}{f:Nat->Nat}(h2:2<=ks.length) (h7:ks.length<=7) (hk:∀ x∈ks,x<3) (hf:Jo1 (· < 3) f) (h15:∀ x,x<3->f x<=15) :
  (Jg8 (wdL (ks.map f)) (Jfi (Jd7 (ks.map f)))).1=true/\Jg3 (ks.map f) (Jfi (Jd7 (ks.map f))) (Jtu (ks.map f) (Jfi (Jd7 (ks.map f)))):=by
 obtain ⟨a,ks',rfl⟩:∃ a ks',ks=a::ks':=by
  cases ks with
  | nil=>exact absurd h2 (by decide)
  | cons a ks'=>exact ⟨a,ks',rfl⟩
 have ha:=hk a (.head _)
 obtain ⟨b,hb,hab,hfb⟩:∃ b,b<3/\a≠b/\((a::ks').find? (fun z=>z != a)=none\/(a::ks').find? (fun z=>z != a)=some b):=by
  cases h:(a::ks').find? fun z=>z != a with
  | none =>
   by_cases q:a=0
   ·exact ⟨1,by lia,by lia,.inl rfl⟩
   ·exact ⟨0,by lia,by lia,.inl rfl⟩
  | some b =>
   have hne:=List.find?_some (p:=fun z=>z != a) h
   exact ⟨b,hk b (List.mem_of_find?_eq_some h),fun q=>(bne_iff_ne.mp hne) q.symm,.inr rfl⟩
 have hto:∀ z,toC a b z<3:=fun z=>by
  unfold toC
  by_cases q:z=a
  ·rw [if_pos q]; lia
  ·rw [if_neg q]
   by_cases q2:z=b
   ·rw [if_pos q2]; lia
   ·rw [if_neg q2]; lia
 have hv:∀ x∈(a::ks').map (toC a b),x<3:=fun x hx=>by
  obtain ⟨z,_,rfl⟩:=List.mem_map.mp hx
  exact hto z
 have hcan:Jq7 ((a::ks').map (toC a b))=true:=by
  unfold Jq7
  rw [Juz]
  refine Bool.and_eq_true_iff.mpr ⟨?_,?_⟩
  ·rw [List.map_cons]
   show (toC a b a==0)=true
   rw [toC,if_pos rfl]; rfl
  ·rcases hfb with q | q
   ·rw [q]; rfl
   ·rw [q]
    show (toC a b b==1)=true
    rw [toC,if_neg hab.symm,if_pos rfl]; rfl
 have e:(a::ks').map f=((a::ks').map (toC a b)).map (fun x=>f (ofC a b x)):=by
  rw [List.map_map]
  exact List.map_congr_left fun z hz=>congrArg f (JEt ha hb hab (hk z hz)).symm
 have hF:Jo1 (· < 3) fun x=>f (ofC a b x):=fun x y hx hy h=>Jyi ha hb hab x y hx hy (hf _ _ (Jpm ha hb hab x hx) (Jpm ha hb hab y hy) h)
 have ne:∀ x y,x<3->y<3->x≠y->f (ofC a b x)≠f (ofC a b y):=fun x y hx hy q h=>q (hF x y hx hy h)
 have b15:∀ x,x<3->f (ofC a b x)<=15:=fun x hx=>h15 _ (Jpm ha hb hab x hx)
 obtain ⟨r,hr,g,he,g1,g2,g3⟩:=JBm (f:=fun x=>f (ofC a b x)) (ne 0 1 (by decide) (by decide) (by decide)) (ne 0 2 (by decide) (by decide) (by decide)) (ne 1 2 (by decide) (by decide) (by decide)) (b15 0 (by decide)) (b15 1 (by decide)) (b15 2 (by decide))
 rw [e]
 exact JBq hv (by rw [List.length_map]; exact h2) (by rw [List.length_map]; exact h7) (JDf (by rw [List.length_map]; exact h2) (by rw [List.length_map]; exact h7) hv hcan) hr he hF g1 g2 g3
noncomputable def Jz5 (c:Nat->Int) (k:Nat):Nat:=((c 2+(k:Int)*(1+(c 3).fmod 7)).fmod 16).toNat
theorem Jz4 (c:Nat->Int):Jo1 (· < 3) (Jz5 c):=by
 have h1:=Int.fmod_nonneg_of_pos (c 3) (show (0:Int)<7 by decide)
 have h2:=Int.fmod_lt_of_pos (c 3) (show (0:Int)<7 by decide)
 have e:∀ k:Nat,((Jz5 c k:Nat):Int)=(c 2+(k:Int)*(1+(c 3).fmod 7)) % 16:=fun k=>by
  rw [Jz5,Int.fmod_eq_emod_of_nonneg _ (by decide)]
  exact Int.toNat_of_nonneg (Int.emod_nonneg _ (by decide))
 have e0:=e 0
 have e1:=e 1
 have e2:=e 2
 generalize (c 3).fmod 7=t at *
 refine JGo (fun h=>?_) (fun h=>?_) fun h=>?_ <;> lia
theorem Jy8 (c:Nat->Int):(Jg8 (wdL (Jqq c)) (Jfi (Jd7 (Jqq c)))).1=true/\Jg3 (Jqq c) (Jfi (Jd7 (Jqq c))) (Jtu (Jqq c) (Jfi (Jd7 (Jqq c)))):=by
 have hb:=Jmv c
 have e:Jqq c=((List.range (szN c)).map fun p=>((Jj2 c p).fmod 3).toNat).map (Jz5 c):=by
  rw [Jqq,List.map_map]
  refine List.map_congr_left fun p V=>?_
  show (Jzr c p).toNat=Jz5 c ((Jj2 c p).fmod 3).toNat
  rw [Jzr,Jz5,Int.toNat_of_nonneg (Int.fmod_nonneg_of_pos _ (by decide))]
 rw [e]
 refine Jn7 (by rw [List.length_map,List.length_range]; exact hb.1) (by rw [List.length_map,List.length_range]; exact hb.2) (fun x hx=>?_) (Jz4 c) fun x V=>?_
 ·obtain ⟨p,_,rfl⟩:=List.mem_map.mp hx
  have h1:=Int.fmod_nonneg_of_pos (Jj2 c p) (show (0:Int)<3 by decide)
  have h2:=Int.fmod_lt_of_pos (Jj2 c p) (show (0:Int)<3 by decide)
  omega
 ·have h1:=Int.fmod_nonneg_of_pos (c 2+(x:Int)*(1+(c 3).fmod 7)) (show (0:Int)<16 by decide)
  have h2:=Int.fmod_lt_of_pos (c 2+(x:Int)*(1+(c 3).fmod 7)) (show (0:Int)<16 by decide)
  unfold Jz5
  omega
section
noncomputable def Jn9 (K:Frag) (a:Addr):Obj:=(K.lookup a).getD default
noncomputable def fdO (o:Obj):FuncData:=match o.data with
 | .func fd=>fd
 | _=>default
noncomputable def vsO (o:Obj):Array Value:=match o.data with
 | .fields vs=>vs
 | _ => #[]
noncomputable def cdO (o:Obj):ClassData:=match o.data with
 | .cls cd=>cd
 | _=>default
noncomputable def JAs (v:Value):Addr:=match v with
 | .ref a=>a
 | _=>0
noncomputable def JGj (v:Value):Tok:=match v with
 | .str _ t=>t
 | _=>default
noncomputable abbrev fdK (K:Frag) (f:Addr):FuncData:=fdO (Jn9 K f)
noncomputable abbrev cdK (K:Frag) (f:Addr):ClassData:=cdO (Jn9 K f)
noncomputable abbrev cvK (K:Frag) (f:Addr):Array Value:=vsO (Jn9 K (JAs (fdK K f).code))
structure FnK (K:Frag) (f:Addr):Prop where
 at_:K.lookup f=some (Jn9 K f)
 dat:(Jn9 K f).data=.func (fdK K f)
 glob:(fdK K f).globals=mainGlobals
 blt:(fdK K f).builtins=builtinsNs
 code:(fdK K f).code=.ref (JAs (fdK K f).code)
 cat:K.lookup (JAs (fdK K f).code)=some (Jn9 K (JAs (fdK K f).code))
 cdat:(Jn9 K (JAs (fdK K f).code)).data=.fields (cvK K f)
 q:((cvK K f)[1]?:Option Value)=some (.str (fdK K f).qualname (JGj ((cvK K f)[1]?.getD .none)))
section
variable {prog:Program}{g:Heap}{T:Ja3}{K:Frag}{f:Addr}{mg mb:Str->Option Value}{x:Str}{v:Value}{P:Value->Str->Prop}{sc:Scope}{cl:List (Str×Addr)}{xs:List Str}{body:List Stmt}{o:Obj}{fd:FuncData}
theorem Juu (X:K.In g) (lim:g.NoLimit) (h:FnK K f) (hs:(fdK K f).scope=sc) (hb:(fdK K f).body=.stmts body) (hc:(fdK K f).closure=cl) (hbd:∀ vals,vals.length=xs.length->Jjr P g (fdK K f) vals (xs.zip vals)) (hp:P (fdK K f).code ((fdK K f).qualname ++ ".<locals>.")):FnO P g f sc cl xs body :=
 ⟨Jn9 K f,fdK K f,X _ _ h.at_,h.dat,hs,hb,hc,h.glob,h.blt,⟨_,_,_,_,h.code,X _ _ h.cat,h.cdat,h.q⟩,hbd,hp,lim⟩
theorem JFe (X:K.In g) (h:FnK K f) (e:g.get? f=some o) (d:o.data=.func fd):fd=fdK K f:=by
 cases Jav e (X _ _ h.at_)
 cases d.symm.trans h.dat
 rfl
theorem JHj {C:Addr}{m:Str}{st:Stmt}(fo:FnO P g f (Ja2 st) cl xs (Ja5 st)) (find:findIn K (.ref C) m=some (some (.ref f))) (isf:isFn K (.ref f)=true) (fni:fnIn K f=true) (kee:keepIn K (.ref f)=true) (fs:FnS0 (Ja2 st) xs) (nc:Ja1 (Ja2 st).names=[])
  (ce:∀ p∈cl,∃ v,g.IsCell p.2 v) (hfr:((Ja2 st).names.all fun p=>p.2 != .free||(cl.lookup p.1).isSome)=true):MF P K g C m f st cl xs :=
 ⟨find,isf,fni,kee,fo,fs,nc,fun x c e=>ce (x,c) (PySem.mem_of_lookup e),fun x e=>(Bool.or_eq_true_iff.mp (List.all_eq_true.mp hfr (x,.free) (Jas e))).resolve_left (show ¬ (NameKind.free != .free)=true by decide)⟩
theorem Jos (X:K.In g) (h:FnK K f) (e:((cvK K f)[2]?:Option Value)=some (.str prog.main.file (JGj ((cvK K f)[2]?.getD .none)))) {q:Str}:Js5 prog g (fdK K f).code q:=⟨_,_,_,_,_,h.code,X _ _ h.cat,h.cdat,e,beq_self_eq_true _⟩
theorem Jor (X:K.In g) (h:FnK K f) (e:((fdK K f).params.posonlyargs++(fdK K f).params.args).head?.map (·.arg)=some (Str.ofString "self")):Jvw g f:=(Option.map_eq_some_iff.mp e).elim fun ar q=>⟨_,_,ar,X _ _ h.at_,h.dat,q.1,q.2⟩
theorem Juk (G:g.Ns mainGlobals mg) (hk:Jay x=true) (e:mg x=some v):Glb g x v:=.glob hk mg G e
theorem Jzk (G:g.Ns mainGlobals mg) (H:g.Ns builtinsNs mb) (hk:Jay x=true) (e:mg x=none) (e2:mb x=some v):Glb g x v:=.blt hk mg mb G e H e2
theorem Jrx {α:Type}{P:List α->Prop}(h:∀ a,P [a]):∀ l:List α,l.length=1->P l:=fun l e=>match l,e with | [a],_=>h a
theorem Jnw {α:Type}{P:List α->Prop}(h:∀ a b,P [a,b]):∀ l:List α,l.length=2->P l:=fun l e=>match l,e with | [a,b],_=>h a b
theorem JEd {α:Type}{P:List α->Prop}(h:∀ a b c,P [a,b,c]):∀ l:List α,l.length=3->P l:=fun l e=>match l,e with | [a,b,c],_=>h a b c
theorem JG1 {α:Type}{P:List α->Prop}(h:∀ a b c d e,P [a,b,c,d,e]):∀ l:List α,l.length=5->P l:=fun l e=>match l,e with | [a,b,c,d,e],_=>h a b c d e
theorem Jxs:∀ {T:List (Addr×Str)},(T.map (·.1)).Nodup->∀ {P q q'},(P,q)∈T->(P,q')∈T->q=q':=by
 intro T
 induction T with
 | nil=>exact fun V V V V h=>nomatch h
 | cons t r ih =>
  intro hn P q q' h1 h2
  rw [List.map_cons,List.nodup_cons] at hn
  rcases List.mem_cons.mp h1 with e1 | m1
  ·rcases List.mem_cons.mp h2 with e2 | m2
   ·exact (Prod.mk.inj (e1.trans e2.symm)).2
   ·exact absurd (List.mem_map.mpr ⟨_,m2,e1▸rfl⟩) hn.1
  ·rcases List.mem_cons.mp h2 with e2 | m2
   ·exact absurd (List.mem_map.mpr ⟨_,m1,e2▸rfl⟩) hn.1
   ·exact ih hn.2 m1 m2
theorem Jyr {cv:Value}{c P:Addr}{q:Str}(X:K.In g) (hc:cv=.ref c) (G:g.Ns mainGlobals mg) (e:codeHdIn K c P=true) (B:g.BuiltinsAt mg P) (hm:(P,q)∈T.tabs) (hn:(T.tabs.map (·.1)).Nodup):Jb5 g T cv q :=
 ⟨mg,c,P,hc,G,codeHd_of_K X e,B,hm,fun P q q' h1 h2=>Jxs hn h1 h2⟩
end
end
section
noncomputable abbrev KH (w:World):Frag:=hk.heap_1 w.params
noncomputable abbrev qof (w:World) (f:Addr) (sub:Str):Str:=(fdK (KH w) f).qualname ++ ".<locals>." ++ sub
noncomputable def TH (w:World):Ja3:=⟨[(213,qof w 218 "inner"),(220,qof w 225 "inner"),(155,qof w 160 "<genexpr>"),(162,qof w 167 "<genexpr>"),(260,qof w 265 "<lambda>")],[]⟩
noncomputable abbrev Jxt:List Addr:=[213,220,155,162,260]
structure Grd (w:World) (g:Heap) (mg mb:Str->Option Value):Prop where
 X:(KH w).In g
 lim:g.NoLimit
 G:g.Ns mainGlobals mg
 H:g.Ns builtinsNs mb
 hb:∀ x:Str,x ≠ "__name__" -> mb x=bootBuiltins x
 bt:∀ P∈Jxt,g.BuiltinsAt mg P
noncomputable def aF (w:World):Jbn:=⟨193,cdK (KH w) 193,[(Str.ofString "__class__",117)],130,137,145,153,160,167,175,182,190⟩
noncomputable def bF (w:World):Jc7:=⟨109,cdK (KH w) 109,50,57,71,106⟩
section
variable {w:World}{g:Heap}{mg mb:Str->Option Value}{x:Str}{v:Value}{f P:Addr}{q:Str}{C:Addr}{m:Str}{st:Stmt}{xs:List Str}{Pr:Value->Str->Prop}{cl:List (Str×Addr)}
theorem gm (R:Grd w g mg mb) (h1:Jay x=true) (h2:nsIn (KH w) mainGlobals x=some (some v)):Glb g x v:=Juk R.G h1 (mg_of R.X R.G h2)
theorem gb (R:Grd w g mg mb) (h1:Jay x=true) (h2:nsIn (KH w) mainGlobals x=some none) (h3:x ≠ "__name__") (h4:bootBuiltins x=some v):Glb g x v:=Jzk R.G R.H h1 (mg_none_of R.X R.G h2) ((R.hb x h3).trans h4)
theorem JEn:((TH w).tabs.map (·.1)).Nodup:=show (Jxt:List Nat).Nodup by decide
theorem Jyp (R:Grd w g mg mb) (h:FnK (KH w) f) (e:codeHdIn (KH w) (JAs (fdK (KH w) f).code) P=true) (hP:P∈Jxt) (hm:(P,q)∈(TH w).tabs):Jb5 g (TH w) (fdK (KH w) f).code q:=Jyr R.X h.code R.G e (R.bt P hP) hm JEn
structure MfK (w:World) (C:Addr) (m:Str) (f:Addr) (st:Stmt) (cl:List (Str×Addr)) (xs:List Str):Prop where
 find:findIn (KH w) (.ref C) m=some (some (.ref f))
 isf:isFn (KH w) (.ref f)=true
 fni:fnIn (KH w) f=true
 kee:keepIn (KH w) (.ref f)=true
 fk:FnK (KH w) f
 sc:(fdK (KH w) f).scope=Ja2 st
 bd:(fdK (KH w) f).body=.stmts (Ja5 st)
 clo:(fdK (KH w) f).closure=cl
 fs:FnS0 (Ja2 st) xs
 nc:Ja1 (Ja2 st).names=[]
 fr:((Ja2 st).names.all fun p=>p.2 != .free||(cl.lookup p.1).isSome)=true
theorem MfK.mf (M:MfK w C m f st cl xs) (R:Grd w g mg mb) (hbd:∀ vals,vals.length=xs.length->Jjr Pr g (fdK (KH w) f) vals (xs.zip vals)) (hp:Pr (fdK (KH w) f).code ((fdK (KH w) f).qualname ++ ".<locals>.")) (ce:∀ p∈cl,∃ v,g.IsCell p.2 v):MF Pr (KH w) g C m f st cl xs :=
 JHj (Juu R.X R.lim M.fk M.sc M.bd M.clo hbd hp) M.find M.isf M.fni M.kee M.fs M.nc ce M.fr
theorem Jzf:MfK w 193 "__init__" 130 (Jak "_Accumulator" "__init__") [(Str.ofString "__class__",117)] ["self", "initial_size"]:=by with_reducible exact ⟨by kernel_rfl,by kernel_rfl,by kernel_rfl,by kernel_rfl,by with_reducible exact ⟨by kernel_rfl,by kernel_rfl,by kernel_rfl,by kernel_rfl,by kernel_rfl,by kernel_rfl,by kernel_rfl,by kernel_rfl⟩,by kernel_rfl,by kernel_rfl,by kernel_rfl,⟨by kernel_rfl,by kernel_rfl,by kernel_rfl,by kernel_rfl⟩,by kernel_rfl,by kernel_rfl⟩
theorem JF6:MfK w 193 "push" 137 (Jak "_Accumulator" "push") [] ["self", "fws", "string"]:=by with_reducible exact ⟨by kernel_rfl,by kernel_rfl,by kernel_rfl,by kernel_rfl,by with_reducible exact ⟨by kernel_rfl,by kernel_rfl,by kernel_rfl,by kernel_rfl,by kernel_rfl,by kernel_rfl,by kernel_rfl,by kernel_rfl⟩,by kernel_rfl,by kernel_rfl,by kernel_rfl,⟨by kernel_rfl,by kernel_rfl,by kernel_rfl,by kernel_rfl⟩,by kernel_rfl,by kernel_rfl⟩
theorem JCb:MfK w 193 "pop_from" 145 (Jak "_Accumulator" "pop_from") [] ["self", "i"]:=by with_reducible exact ⟨by kernel_rfl,by kernel_rfl,by kernel_rfl,by kernel_rfl,by with_reducible exact ⟨by kernel_rfl,by kernel_rfl,by kernel_rfl,by kernel_rfl,by kernel_rfl,by kernel_rfl,by kernel_rfl,by kernel_rfl⟩,by kernel_rfl,by kernel_rfl,by kernel_rfl,⟨by kernel_rfl,by kernel_rfl,by kernel_rfl,by kernel_rfl⟩,by kernel_rfl,by kernel_rfl⟩
theorem Jzd:MfK w 193 "pop" 153 (Jak "_Accumulator" "pop") [(Str.ofString "__class__",117)] ["self"]:=by with_reducible exact ⟨by kernel_rfl,by kernel_rfl,by kernel_rfl,by kernel_rfl,by with_reducible exact ⟨by kernel_rfl,by kernel_rfl,by kernel_rfl,by kernel_rfl,by kernel_rfl,by kernel_rfl,by kernel_rfl,by kernel_rfl⟩,by kernel_rfl,by kernel_rfl,by kernel_rfl,⟨by kernel_rfl,by kernel_rfl,by kernel_rfl,by kernel_rfl⟩,by kernel_rfl,by kernel_rfl⟩
theorem JCd:MfK w 193 "__len__" 160 (Jak "_Accumulator" "__len__") [] ["self"]:=by with_reducible exact ⟨by kernel_rfl,by kernel_rfl,by kernel_rfl,by kernel_rfl,by with_reducible exact ⟨by kernel_rfl,by kernel_rfl,by kernel_rfl,by kernel_rfl,by kernel_rfl,by kernel_rfl,by kernel_rfl,by kernel_rfl⟩,by kernel_rfl,by kernel_rfl,by kernel_rfl,⟨by kernel_rfl,by kernel_rfl,by kernel_rfl,by kernel_rfl⟩,by kernel_rfl,by kernel_rfl⟩
theorem JCa:MfK w 193 "__str__" 167 (Jak "_Accumulator" "__str__") [] ["self"]:=by with_reducible exact ⟨by kernel_rfl,by kernel_rfl,by kernel_rfl,by kernel_rfl,by with_reducible exact ⟨by kernel_rfl,by kernel_rfl,by kernel_rfl,by kernel_rfl,by kernel_rfl,by kernel_rfl,by kernel_rfl,by kernel_rfl⟩,by kernel_rfl,by kernel_rfl,by kernel_rfl,⟨by kernel_rfl,by kernel_rfl,by kernel_rfl,by kernel_rfl⟩,by kernel_rfl,by kernel_rfl⟩
theorem Jzc:MfK w 193 "reset" 175 (Jak "_Accumulator" "reset") [] ["self", "startval"]:=by with_reducible exact ⟨by kernel_rfl,by kernel_rfl,by kernel_rfl,by kernel_rfl,by with_reducible exact ⟨by kernel_rfl,by kernel_rfl,by kernel_rfl,by kernel_rfl,by kernel_rfl,by kernel_rfl,by kernel_rfl,by kernel_rfl⟩,by kernel_rfl,by kernel_rfl,by kernel_rfl,⟨by kernel_rfl,by kernel_rfl,by kernel_rfl,by kernel_rfl⟩,by kernel_rfl,by kernel_rfl⟩
theorem JF7:MfK w 193 "is_onlyws" 182 (Jak "_Accumulator" "is_onlyws") [] ["self"]:=by with_reducible exact ⟨by kernel_rfl,by kernel_rfl,by kernel_rfl,by kernel_rfl,by with_reducible exact ⟨by kernel_rfl,by kernel_rfl,by kernel_rfl,by kernel_rfl,by kernel_rfl,by kernel_rfl,by kernel_rfl,by kernel_rfl⟩,by kernel_rfl,by kernel_rfl,by kernel_rfl,⟨by kernel_rfl,by kernel_rfl,by kernel_rfl,by kernel_rfl⟩,by kernel_rfl,by kernel_rfl⟩
theorem Jze:MfK w 193 "part_count" 190 (Jak "_Accumulator" "part_count") [(Str.ofString "__class__",117)] ["self"]:=by with_reducible exact ⟨by kernel_rfl,by kernel_rfl,by kernel_rfl,by kernel_rfl,by with_reducible exact ⟨by kernel_rfl,by kernel_rfl,by kernel_rfl,by kernel_rfl,by kernel_rfl,by kernel_rfl,by kernel_rfl,by kernel_rfl⟩,by kernel_rfl,by kernel_rfl,by kernel_rfl,⟨by kernel_rfl,by kernel_rfl,by kernel_rfl,by kernel_rfl⟩,by kernel_rfl,by kernel_rfl⟩
theorem JF1:MfK w 109 "__init__" 50 (Jak "_ValueFormatter" "__init__") [] ["self", "headerlen", "maxlen", "continuation_ws", "splitchars"]:=by with_reducible exact ⟨by kernel_rfl,by kernel_rfl,by kernel_rfl,by kernel_rfl,by with_reducible exact ⟨by kernel_rfl,by kernel_rfl,by kernel_rfl,by kernel_rfl,by kernel_rfl,by kernel_rfl,by kernel_rfl,by kernel_rfl⟩,by kernel_rfl,by kernel_rfl,by kernel_rfl,⟨by kernel_rfl,by kernel_rfl,by kernel_rfl,by kernel_rfl⟩,by kernel_rfl,by kernel_rfl⟩
theorem JEz:MfK w 109 "_str" 57 (Jak "_ValueFormatter" "_str") [] ["self", "linesep"]:=by with_reducible exact ⟨by kernel_rfl,by kernel_rfl,by kernel_rfl,by kernel_rfl,by with_reducible exact ⟨by kernel_rfl,by kernel_rfl,by kernel_rfl,by kernel_rfl,by kernel_rfl,by kernel_rfl,by kernel_rfl,by kernel_rfl⟩,by kernel_rfl,by kernel_rfl,by kernel_rfl,⟨by kernel_rfl,by kernel_rfl,by kernel_rfl,by kernel_rfl⟩,by kernel_rfl,by kernel_rfl⟩
theorem JF0:MfK w 109 "newline" 71 (Jak "_ValueFormatter" "newline") [] ["self"]:=by with_reducible exact ⟨by kernel_rfl,by kernel_rfl,by kernel_rfl,by kernel_rfl,by with_reducible exact ⟨by kernel_rfl,by kernel_rfl,by kernel_rfl,by kernel_rfl,by kernel_rfl,by kernel_rfl,by kernel_rfl,by kernel_rfl⟩,by kernel_rfl,by kernel_rfl,by kernel_rfl,⟨by kernel_rfl,by kernel_rfl,by kernel_rfl,by kernel_rfl⟩,by kernel_rfl,by kernel_rfl⟩
theorem JF4:MfK w 109 "_append_chunk" 106 (Jak "_ValueFormatter" "_append_chunk") [] ["self", "fws", "string"]:=by with_reducible exact ⟨by kernel_rfl,by kernel_rfl,by kernel_rfl,by kernel_rfl,by with_reducible exact ⟨by kernel_rfl,by kernel_rfl,by kernel_rfl,by kernel_rfl,by kernel_rfl,by kernel_rfl,by kernel_rfl,by kernel_rfl⟩,by kernel_rfl,by kernel_rfl,by kernel_rfl,⟨by kernel_rfl,by kernel_rfl,by kernel_rfl,by kernel_rfl⟩,by kernel_rfl,by kernel_rfl⟩
theorem JF2:MfK w 109 "feed" 85 fdS [] ["self", "fws", "string", "charset"]:=by with_reducible exact ⟨by kernel_rfl,by kernel_rfl,by kernel_rfl,by kernel_rfl,by with_reducible exact ⟨by kernel_rfl,by kernel_rfl,by kernel_rfl,by kernel_rfl,by kernel_rfl,by kernel_rfl,by kernel_rfl,by kernel_rfl⟩,by kernel_rfl,by kernel_rfl,by kernel_rfl,⟨by kernel_rfl,by kernel_rfl,by kernel_rfl,by kernel_rfl⟩,by kernel_rfl,by kernel_rfl⟩
theorem JF3:MfK w 109 "add_transition" 78 (Jak "_ValueFormatter" "add_transition") [] ["self"]:=by with_reducible exact ⟨by kernel_rfl,by kernel_rfl,by kernel_rfl,by kernel_rfl,by with_reducible exact ⟨by kernel_rfl,by kernel_rfl,by kernel_rfl,by kernel_rfl,by kernel_rfl,by kernel_rfl,by kernel_rfl,by kernel_rfl⟩,by kernel_rfl,by kernel_rfl,by kernel_rfl,⟨by kernel_rfl,by kernel_rfl,by kernel_rfl,by kernel_rfl⟩,by kernel_rfl,by kernel_rfl⟩
end
end
section
section
variable {w:World}{g:Heap}{mg mb:Str->Option Value}
theorem Jo3:∀ p∈([]:List (Str×Addr)),∃ v,g.IsCell p.2 v:=fun V h=>nomatch h
theorem Jm9 (X:(KH w).In g):g.IsCell 117 (some (.ref 193)):=⟨Jn9 (KH w) 117,X _ _ (by kernel_rfl),by kernel_rfl⟩
theorem JA9 (X:(KH w).In g):∀ p∈[(Str.ofString "__class__",117)],∃ v,g.IsCell p.2 v:=fun p hp=>List.mem_singleton.mp hp▸⟨_,Jm9 X⟩
theorem ncc (c:Value):¬ ∀ (c:Value) (q:Str),Js5 Jdq g c q:=fun z=>(z .none Str.empty).rec fun V V V V V e=>nomatch e
theorem JBd (X:(KH w).In g):∀ vals:List Value,vals.length=2->Jjr (fun c V=>c≠.none) g (fdK (KH w) 175) vals ([Str.ofString "self",Str.ofString "startval"].zip vals):=Jnw fun V V=>.look (fun z=>z .none Str.empty rfl) fun V=>by (with_reducible refine Looks.of_peek X ?_); kernel_rfl
theorem JBi (X:(KH w).In g):∀ vals:List Value,vals.length=2->Jjr (fun c V=>c≠.none) g (fdK (KH w) 145) vals ([Str.ofString "self",Str.ofString "i"].zip vals):=Jnw fun V V=>.look (fun z=>z .none Str.empty rfl) fun V=>by (with_reducible refine Looks.of_peek X ?_); kernel_rfl
theorem JCj (X:(KH w).In g):∀ vals:List Value,vals.length=2->Jjr (Js5 Jdq g) g (fdK (KH w) 130) vals ([Str.ofString "self",Str.ofString "initial_size"].zip vals):=Jnw fun V V=>.look (ncc .none) fun V=>by (with_reducible refine Looks.of_peek X ?_); kernel_rfl
theorem JF5 (R:Grd w g mg mb):Jvx Jdq (KH w) g 193 (cdK (KH w) 193) [(Str.ofString "__class__",117)] where
 top:=by kernel_rfl
 clo:=⟨117,rfl,Jm9 R.X⟩
 cls:=by kernel_rfl
 ob:=⟨Jn9 (KH w) 193,by kernel_rfl,by kernel_rfl⟩
 mro:=by kernel_rfl
 self:=by kernel_rfl
 opq:=by kernel_rfl
 typ:=by kernel_rfl
 modu:=by kernel_rfl
 chk:=fun x=>by kernel_rfl
 gsup:=by with_reducible exact gb (by assumption) (by decide +kernel) (by kernel_rfl) (by decide +kernel) (by decide +kernel)
theorem JFc (R:Grd w g mg mb):Jjs Jdq w (KH w) g (TH w) (aF w) where
 L:=⟨⟨by kernel_rfl,by kernel_rfl,by kernel_rfl,by kernel_rfl,by kernel_rfl,by kernel_rfl,by kernel_rfl,by kernel_rfl,by kernel_rfl,by kernel_rfl⟩,by kernel_rfl⟩
 X:=R.X
 Y:=⟨by kernel_rfl,by kernel_rfl,by kernel_rfl,by kernel_rfl,by kernel_rfl⟩
 mkL:=⟨⟨(Jn9 (KH w) 193).cls,(Jn9 (KH w) 193).dict,cdK (KH w) 193,(Jn9 (KH w) 193).slots,[.type "list",.type "object"],by kernel_rfl,by kernel_rfl,by kernel_rfl,by kernel_rfl,by kernel_rfl,by kernel_rfl⟩,by kernel_rfl,by kernel_rfl,by kernel_rfl,by kernel_rfl,by kernel_rfl,by kernel_rfl,by kernel_rfl⟩
 S:=JF5 R
 ini:=Jzf.mf R (JCj R.X) (Jos R.X Jzf.fk (by kernel_rfl)) (JA9 R.X)
 psh:=JF6.mf R (JEd fun V V V=>.pure (by kernel_rfl)) trivial Jo3
 pfr:=JCb.mf R (JBi R.X) (fun e=>nomatch JCb.fk.code.symm.trans e) Jo3
 pop:=Jzd.mf R (Jrx fun V=>.pure (by kernel_rfl)) (Jos R.X Jzd.fk (by kernel_rfl)) (JA9 R.X)
 len:=JCd.mf R (Jrx fun V=>.pure (by kernel_rfl)) (Jyp R JCd.fk (P:=155) (by kernel_rfl) (by decide) (.tail _ (.tail _ (.head _)))) Jo3
 str:=JCa.mf R (Jrx fun V=>.pure (by kernel_rfl)) (Jyp R JCa.fk (P:=162) (by kernel_rfl) (by decide) (.tail _ (.tail _ (.tail _ (.head _))))) Jo3
 rst:=Jzc.mf R (JBd R.X) (fun e=>nomatch Jzc.fk.code.symm.trans e) Jo3
 ows:=JF7.mf R (Jrx fun V=>.pure (by kernel_rfl)) trivial Jo3
 pcn:=Jze.mf R (Jrx fun V=>.pure (by kernel_rfl)) (Jos R.X Jze.fk (by kernel_rfl)) (JA9 R.X)
 pshG:=by kernel_rfl
 pshT:=by kernel_rfl
 rs0:=fun e d=>by
  cases JFe R.X Jzc.fk e d
  (with_reducible refine Looks.of_peek R.X ?_)
  kernel_rfl
 iniP:=Jor R.X Jzf.fk (by kernel_rfl)
 popP:=Jor R.X Jzd.fk (by kernel_rfl)
 pcnP:=Jor R.X Jze.fk (by kernel_rfl)
 iniA:=by kernel_rfl
 popA:=by kernel_rfl
 lenA:=by kernel_rfl
 gsum:=by with_reducible exact gb (by assumption) (by decide +kernel) (by kernel_rfl) (by decide +kernel) (by decide +kernel)
 glen:=by with_reducible exact gb (by assumption) (by decide +kernel) (by kernel_rfl) (by decide +kernel) (by decide +kernel)
 gstr:=by with_reducible exact gb (by assumption) (by decide +kernel) (by kernel_rfl) (by decide +kernel) (by decide +kernel)
 gemp:=⟨314,by with_reducible exact gm (by assumption) (by decide +kernel) (by kernel_rfl)⟩
theorem Jwd {P:Str->Prop}(h1:P "_maxlen") (h2:P "_continuation_ws") (h3:P "_continuation_ws_len") (h4:P "_splitchars") (h5:P "_lines") (h6:P "_current_line"):∀ x∈Jdr,P x:=List.forall_mem_cons.mpr ⟨h1,List.forall_mem_cons.mpr ⟨h2,List.forall_mem_cons.mpr ⟨h3,List.forall_mem_cons.mpr ⟨h4,List.forall_mem_cons.mpr ⟨h5,List.forall_mem_singleton.mpr h6⟩⟩⟩⟩⟩
theorem JFa (R:Grd w g mg mb):Jan Jdq w (KH w) g (TH w) (aF w) (bF w) where
 A:=JFc R
 V:=⟨by kernel_rfl,by kernel_rfl,by kernel_rfl,Jwd (by kernel_rfl) (by kernel_rfl) (by kernel_rfl) (by kernel_rfl) (by kernel_rfl) (by kernel_rfl)⟩
 S:=⟨by kernel_rfl,by kernel_rfl,by kernel_rfl,Jwd (by kernel_rfl) (by kernel_rfl) (by kernel_rfl) (by kernel_rfl) (by kernel_rfl) (by kernel_rfl),by kernel_rfl⟩
 mkV:=by kernel_rfl
 gacc:=by with_reducible exact gm (by assumption) (by decide +kernel) (by kernel_rfl)
 kacc:=by kernel_rfl
 gran:=by with_reducible exact gb (by assumption) (by decide +kernel) (by kernel_rfl) (by decide +kernel) (by decide +kernel)
 ini:=JF1.mf R (JG1 fun V V V V V=>.pure (by kernel_rfl)) trivial Jo3
 sfn:=JEz.mf R (Jnw fun V V=>.pure (by kernel_rfl)) trivial Jo3
 nwl:=JF0.mf R (Jrx fun V=>.pure (by kernel_rfl)) trivial Jo3
 apc:=JF4.mf R (JEd fun V V V=>.pure (by kernel_rfl)) trivial Jo3
end
end
section
structure FmK (w:World) (f:Addr) (st:Stmt):Prop where
 fk:FnK (KH w) f
 sc:(fdK (KH w) f).scope=Ja2 st
 bd:(fdK (KH w) f).body=.stmts (Ja5 st)
 clo:(fdK (KH w) f).closure=[]
section
variable {w:World}{g:Heap}{mg mb:Str->Option Value}{f P:Addr}{st:Stmt}{xs:List Str}{q:Str}{n:Nat}
theorem FmK.at_ (M:FmK w f st) (R:Grd w g mg mb) (hbd:∀ vals,vals.length=xs.length->Jjr (fun V V=>True) g (fdK (KH w) f) vals (xs.zip vals)):Jg4 g f (Ja2 st) xs (Ja5 st):=Juu R.X R.lim M.fk M.sc M.bd M.clo hbd trivial
theorem FmK.mk_ {sub:Str}(M:FmK w f st) (R:Grd w g mg mb) (hbd:∀ vals,vals.length=xs.length->Jjr (fun c q=>Jb5 g (TH w) c (q++sub)) g (fdK (KH w) f) vals (xs.zip vals)) (e:codeHdIn (KH w) (JAs (fdK (KH w) f).code) P=true) (hP:P∈Jxt) (hm:(P,qof w f sub)∈(TH w).tabs):JGc g (TH w) f (Ja2 st) xs (Ja5 st) sub:=Juu R.X R.lim M.fk M.sc M.bd M.clo hbd (Jyp R M.fk e hP hm)
theorem JD1:FmK w 204 (fn1 "_div2n1n"):=by with_reducible exact ⟨by with_reducible exact ⟨by kernel_rfl,by kernel_rfl,by kernel_rfl,by kernel_rfl,by kernel_rfl,by kernel_rfl,by kernel_rfl,by kernel_rfl⟩,by kernel_rfl,by kernel_rfl,by kernel_rfl⟩
theorem JFg:FmK w 218 (fn1 "_int2digits"):=by with_reducible exact ⟨by with_reducible exact ⟨by kernel_rfl,by kernel_rfl,by kernel_rfl,by kernel_rfl,by kernel_rfl,by kernel_rfl,by kernel_rfl,by kernel_rfl⟩,by kernel_rfl,by kernel_rfl,by kernel_rfl⟩
theorem JFh:FmK w 225 (fn1 "_digits2int"):=by with_reducible exact ⟨by with_reducible exact ⟨by kernel_rfl,by kernel_rfl,by kernel_rfl,by kernel_rfl,by kernel_rfl,by kernel_rfl,by kernel_rfl,by kernel_rfl⟩,by kernel_rfl,by kernel_rfl,by kernel_rfl⟩
theorem JHu:FmK w 232 (fn1 "_divmod_pos"):=by with_reducible exact ⟨by with_reducible exact ⟨by kernel_rfl,by kernel_rfl,by kernel_rfl,by kernel_rfl,by kernel_rfl,by kernel_rfl,by kernel_rfl,by kernel_rfl⟩,by kernel_rfl,by kernel_rfl,by kernel_rfl⟩
theorem JGr:FmK w 239 (fn1 "int_divmod"):=by with_reducible exact ⟨by with_reducible exact ⟨by kernel_rfl,by kernel_rfl,by kernel_rfl,by kernel_rfl,by kernel_rfl,by kernel_rfl,by kernel_rfl,by kernel_rfl⟩,by kernel_rfl,by kernel_rfl,by kernel_rfl⟩
theorem JHv:FmK w 246 (fn1 "Int2AP"):=by with_reducible exact ⟨by with_reducible exact ⟨by kernel_rfl,by kernel_rfl,by kernel_rfl,by kernel_rfl,by kernel_rfl,by kernel_rfl,by kernel_rfl,by kernel_rfl⟩,by kernel_rfl,by kernel_rfl,by kernel_rfl⟩
theorem JD0:FmK w 251 (fn1 "_law_figures"):=by with_reducible exact ⟨by with_reducible exact ⟨by kernel_rfl,by kernel_rfl,by kernel_rfl,by kernel_rfl,by kernel_rfl,by kernel_rfl,by kernel_rfl,by kernel_rfl⟩,by kernel_rfl,by kernel_rfl,by kernel_rfl⟩
theorem Jzw:FmK w 258 (fn1 "_law_lines"):=by with_reducible exact ⟨by with_reducible exact ⟨by kernel_rfl,by kernel_rfl,by kernel_rfl,by kernel_rfl,by kernel_rfl,by kernel_rfl,by kernel_rfl,by kernel_rfl⟩,by kernel_rfl,by kernel_rfl,by kernel_rfl⟩
theorem JCz:FmK w 265 (fn1 "_law_rows"):=by with_reducible exact ⟨by with_reducible exact ⟨by kernel_rfl,by kernel_rfl,by kernel_rfl,by kernel_rfl,by kernel_rfl,by kernel_rfl,by kernel_rfl,by kernel_rfl⟩,by kernel_rfl,by kernel_rfl,by kernel_rfl⟩
theorem Jzx:FmK w 270 (fn1 "_law_agree"):=by with_reducible exact ⟨by with_reducible exact ⟨by kernel_rfl,by kernel_rfl,by kernel_rfl,by kernel_rfl,by kernel_rfl,by kernel_rfl,by kernel_rfl,by kernel_rfl⟩,by kernel_rfl,by kernel_rfl,by kernel_rfl⟩
theorem Jqu:FmK w 277 (fn1 "_law_periods"):=by with_reducible exact ⟨by with_reducible exact ⟨by kernel_rfl,by kernel_rfl,by kernel_rfl,by kernel_rfl,by kernel_rfl,by kernel_rfl,by kernel_rfl,by kernel_rfl⟩,by kernel_rfl,by kernel_rfl,by kernel_rfl⟩
theorem Jzv:FmK w 282 (fn1 "_law_local"):=by with_reducible exact ⟨by with_reducible exact ⟨by kernel_rfl,by kernel_rfl,by kernel_rfl,by kernel_rfl,by kernel_rfl,by kernel_rfl,by kernel_rfl,by kernel_rfl⟩,by kernel_rfl,by kernel_rfl,by kernel_rfl⟩
theorem JFf:FmK w 287 (fn1 "law"):=by with_reducible exact ⟨by with_reducible exact ⟨by kernel_rfl,by kernel_rfl,by kernel_rfl,by kernel_rfl,by kernel_rfl,by kernel_rfl,by kernel_rfl,by kernel_rfl⟩,by kernel_rfl,by kernel_rfl,by kernel_rfl⟩
theorem JHs (R:Grd w g mg mb) {i:Int}(hi:i.natAbs<16 ^ 200):ClV Jdq w g (TH w) 31 "Int2AP" [.int i] (.bytes (apB i.natAbs)) :=
 Jrj (n:=30) (by with_reducible exact gb (by assumption) (by decide +kernel) (by kernel_rfl) (by decide +kernel) (by decide +kernel)) (by with_reducible exact gb (by assumption) (by decide +kernel) (by kernel_rfl) (by decide +kernel) (by decide +kernel)) (by with_reducible exact gb (by assumption) (by decide +kernel) (by kernel_rfl) (by decide +kernel) (by decide +kernel)) (JHv.at_ R (Jrx fun V=>.pure (by kernel_rfl))) (by with_reducible exact gm (by assumption) (by decide +kernel) (by kernel_rfl)) hi
theorem JCf (R:Grd w g mg mb) {l:List Int}{k:Nat}(h1:1<=k) (h2:k*l.length<=400) (h3:∀ d∈l,0<=d/\d<2 ^ k):ClV Jdq w g (TH w) 13 "_digits2int" [.lst (l.map .int),.int k] (.int (Jdz k l)) :=
 JDd (by with_reducible exact gb (by assumption) (by decide +kernel) (by kernel_rfl) (by decide +kernel) (by decide +kernel)) (JFh.mk_ R (P:=220) (Jnw fun V V=>.pure (by kernel_rfl)) (by kernel_rfl) (by decide) (.tail _ (.head _))) (by with_reducible exact gm (by assumption) (by decide +kernel) (by kernel_rfl)) h1 h2 h3
theorem JF9 (R:Grd w g mg mb) {x k:Nat}(h1:1<=k) (h2:k<=400) (h3:Jdu x k<=400) (h4:k*Jdu x k<=450):ClV Jdq w g (TH w) 13 "_int2digits" [.int x,.int k] (.lst (nsD (Jd0 k (Jdu x k) x))) :=
 JDc (by with_reducible exact gb (by assumption) (by decide +kernel) (by kernel_rfl) (by decide +kernel) (by decide +kernel)) (JFg.mk_ R (P:=213) (Jnw fun V V=>.pure (by kernel_rfl)) (by kernel_rfl) (by decide) (.head _)) (by with_reducible exact gm (by assumption) (by decide +kernel) (by kernel_rfl)) h1 h2 h3 h4
theorem JCe (R:Grd w g mg mb):JEl Jdq w g (TH w) 13:=fun h0 h1 h2=>JAd (n:=11) (tk:=528) (by with_reducible exact gb (by assumption) (by decide +kernel) (by kernel_rfl) (by decide +kernel) (by decide +kernel)) (by with_reducible exact gm (by assumption) (by decide +kernel) (by kernel_rfl)) (JD1.at_ R (JEd fun V V V=>.pure (by kernel_rfl))) (by with_reducible exact gm (by assumption) (by decide +kernel) (by kernel_rfl)) h0 h1 h2
theorem JHr (R:Grd w g mg mb) {a b:Int}(h0:b≠0) (h1:a.natAbs<=2 ^ 148) (h2:b.natAbs<2 ^ 149):ClV Jdq w g (TH w) 17 "int_divmod" [.int a,.int b] (quo a b) :=
 JFj (n:=13) (JGr.at_ R (Jnw fun V V=>.pure (by kernel_rfl))) (by with_reducible exact gm (by assumption) (by decide +kernel) (by kernel_rfl)) (fun hx h1 hy=>JFk (JCe R) (JF9 R) (JCf R) (by with_reducible exact gb (by assumption) (by decide +kernel) (by kernel_rfl) (by decide +kernel) (by decide +kernel)) (JHu.at_ R (Jnw fun V V=>.pure (by kernel_rfl))) (by with_reducible exact gm (by assumption) (by decide +kernel) (by kernel_rfl)) hx h1 hy) h0 h1 h2
theorem JCc (R:Grd w g mg mb):MG (KH w) g 109 "_maxlengths" 92 mxS ["self"] where
 find:=by kernel_rfl
 isf:=by kernel_rfl
 kee:=by kernel_rfl
 fo:=Juu R.X R.lim (by with_reducible exact ⟨by kernel_rfl,by kernel_rfl,by kernel_rfl,by kernel_rfl,by kernel_rfl,by kernel_rfl,by kernel_rfl,by kernel_rfl⟩) (by kernel_rfl) (by kernel_rfl) (by kernel_rfl) (Jrx fun V=>.pure (by kernel_rfl)) trivial
 fs:=⟨by kernel_rfl,by kernel_rfl,by kernel_rfl,by kernel_rfl⟩
theorem JHw {α:Type}{P:List α->Prop}(h:∀ a b c d,P [a,b,c,d]):∀ l:List α,l.length=4->P l:=fun l e=>match l,e with | [a,b,c,d],_=>h a b c d
theorem JF8 (R:Grd w g mg mb):LrK Jdq w (KH w) g (TH w) (aF w) (bF w) 85 78 92 258 265 where
 B:=JFa R
 gfmt:=by with_reducible exact gm (by assumption) (by decide +kernel) (by kernel_rfl)
 kfmt:=by kernel_rfl
 fed:=JF2.mf R (JHw fun V V V V=>.pure (by kernel_rfl)) trivial Jo3
 add:=JF3.mf R (Jrx fun V=>.pure (by kernel_rfl)) trivial Jo3
 mxl:=JCc R
 hfl:=Jzw.at_ R (Jnw fun V V=>.pure (by kernel_rfl))
 gll:=by with_reducible exact gm (by assumption) (by decide +kernel) (by kernel_rfl)
 gix:=by with_reducible exact gb (by assumption) (by decide +kernel) (by kernel_rfl) (by decide +kernel) (by decide +kernel)
 gra:=by with_reducible exact gb (by assumption) (by decide +kernel) (by kernel_rfl) (by decide +kernel) (by decide +kernel)
 hf:=JCz.mk_ R (P:=260) (JEd fun V V V=>.pure (by kernel_rfl)) (by kernel_rfl) (by decide) (.tail _ (.tail _ (.tail _ (.tail _ (.head _)))))
theorem Jwi (R:Grd w g mg mb) {l:List Int}(h1:l.length<=100) (h2:Fgs l):ClV Jdq w g (TH w) 13 "_digits2int" [.lst (l.map .int),.int 4] (.int (Jdz 4 l)):=JCf R (k:=4) (by decide) (by lia) h2
theorem JFb (R:Grd w g mg mb):JE0 Jdq w (KH w) g (TH w) 54 (aF w) (bF w) 85 78 92 258 265 277 282 239 287 where
 P:=JF8 R
 grw:=by with_reducible exact gm (by assumption) (by decide +kernel) (by kernel_rfl)
 lo:=⟨fun h1 h2 h3=>(Jvf (n:=30) (by with_reducible exact gm (by assumption) (by decide +kernel) (by kernel_rfl)) (Jzx.at_ R (Jnw fun V V=>.pure (by kernel_rfl))) (by with_reducible exact gb (by assumption) (by decide +kernel) (by kernel_rfl) (by decide +kernel) (by decide +kernel)) h1 h2 h3).mono (by decide),by with_reducible exact gb (by assumption) (by decide +kernel) (by kernel_rfl) (by decide +kernel) (by decide +kernel),by with_reducible exact gb (by assumption) (by decide +kernel) (by kernel_rfl) (by decide +kernel) (by decide +kernel)⟩
 hlo:=Jzv.at_ R (Jnw fun V V=>.pure (by kernel_rfl))
 glo:=by with_reducible exact gm (by assumption) (by decide +kernel) (by kernel_rfl)
 pd:=⟨fun h0 h1 h2=>(JHr R h0 h1 h2).mono (by decide),fun h1 h2=>(Jwi R h1 h2).mono (by decide)⟩
 hp:=Jqu.at_ R (Jnw fun V V=>.pure (by kernel_rfl))
 gpd:=by with_reducible exact gm (by assumption) (by decide +kernel) (by kernel_rfl)
 hi:=JGr.at_ R (Jnw fun V V=>.pure (by kernel_rfl))
 gdm:=by with_reducible exact gm (by assumption) (by decide +kernel) (by kernel_rfl)
 gz:=by with_reducible exact gb (by assumption) (by decide +kernel) (by kernel_rfl) (by decide +kernel) (by decide +kernel)
 kk:=⟨fun h=>(Jnq (n:=30) (by with_reducible exact gb (by assumption) (by decide +kernel) (by kernel_rfl) (by decide +kernel) (by decide +kernel)) (by with_reducible exact gb (by assumption) (by decide +kernel) (by kernel_rfl) (by decide +kernel) (by decide +kernel)) (by with_reducible exact gb (by assumption) (by decide +kernel) (by kernel_rfl) (by decide +kernel) (by decide +kernel)) (by with_reducible exact gb (by assumption) (by decide +kernel) (by kernel_rfl) (by decide +kernel) (by decide +kernel)) (JD0.at_ R (Jrx fun V=>.pure (by kernel_rfl))) (by with_reducible exact gm (by assumption) (by decide +kernel) (by kernel_rfl)) h).mono (by decide),fun h1 h2=>(Jwi R h1 h2).mono (by decide),fun i hi=>(JHs R hi).mono (by decide),by with_reducible exact gb (by assumption) (by decide +kernel) (by kernel_rfl) (by decide +kernel) (by decide +kernel),by with_reducible exact gb (by assumption) (by decide +kernel) (by kernel_rfl) (by decide +kernel) (by decide +kernel),by with_reducible exact gb (by assumption) (by decide +kernel) (by kernel_rfl) (by decide +kernel) (by decide +kernel)⟩
 hlaw:=JFf.at_ R (Jrx fun V=>.pure (by kernel_rfl))
end
end
section
noncomputable abbrev Jmu:List (Addr×Addr):=[(217,213),(224,220),(159,155),(166,162),(264,260)]
section
variable {w:World}{sA s':Shared}{mg mb:Str->Option Value}{p:Program}{loose:List Str}{mean:ExcName->Option Value}{P:Addr}
theorem Jxq:(TH w).gens=[]:=rfl
theorem Jxr (X:(KH w).In sA.heap) (hT:∀ P∈Jxt,sA.heap.get? P=some (tabObj #[])):TabsAt Jmu sA.heap :=
 List.forall_mem_cons.mpr ⟨⟨codeHd_of_K X (by kernel_rfl),hT 213 (by decide)⟩,List.forall_mem_cons.mpr ⟨⟨codeHd_of_K X (by kernel_rfl),hT 220 (by decide)⟩,List.forall_mem_cons.mpr ⟨⟨codeHd_of_K X (by kernel_rfl),hT 155 (by decide)⟩,List.forall_mem_cons.mpr ⟨⟨codeHd_of_K X (by kernel_rfl),hT 162 (by decide)⟩,List.forall_mem_singleton.mpr ⟨codeHd_of_K X (by kernel_rfl),hT 260 (by decide)⟩⟩⟩⟩⟩
variable (hT:∀ P∈Jxt,sA.heap.get? P=some (tabObj #[])) (hA:TabsAt Jmu sA.heap)
include hT hA
theorem JCm (X:(KH w).In sA.heap) (T:Top p loose mean mg mb sA.heap):Grd w (ghostOf sA.heap Jmu) mg mb where
 X:=ghost_K hA X (by kernel_rfl)
 lim:=let ⟨mc,a,r⟩:=T.nolimit; ⟨mc,ghost_ns hA a,r⟩
 G:=ghost_ns hA T.g
 H:=ghost_ns hA T.b
 hb:=T.builtins
 bt:=fun P hP=>by
  obtain ⟨bm,ob,a1,a2,a3,a4,a5,a6⟩:=T.bmain
  have hg:=ghost_get hA a3 (fun q=>by rw [q] at a4; cases a4)
  refine ⟨bm,ob,a1,a2,fun e=>?_,fun e=>?_,hg,a4,a5,a6⟩
  ·obtain ⟨o,es,ep,ho,hd,_⟩:=T.g
   cases Jav (e▸a3) ho
   cases a6.symm.trans hd
  ·cases Jav (e▸a3) (hT P hP)
   cases a4
theorem JCn (hg:sA.gens = #[]):GK (ghostOf sA.heap Jmu) (TH w) sA where
 keep:=fun b o e=>of_hideAll _ e
 tabs:=fun q hq=>⟨#[],hT _ (List.mem_map.mpr ⟨q,hq,rfl⟩:q.1∈(TH w).tabs.map (·.1)),trivial,fun pos cv e=>nomatch e⟩
 off:=fun q hq=>hideAll_none _ (show q.1∈(TH w).tabs.map (·.1) from List.mem_map.mpr ⟨q,hq,rfl⟩)
 bare:=⟨by rw [hg]; exact .of_eq rfl,fun i st h=>(List.not_mem_nil (Jxq (w:=w)▸h)).elim⟩
theorem JBn (hg:sA.gens = #[]) (x:Ext (ghostOf sA.heap Jmu) (TH w) sA s'):OldK sA.heap s'.heap/\s'.os=sA.os/\AllBare s'.gens:=by
 have G':=x.gk (JCn (w:=w) hT hA hg)
 have grown:∀ b o,sA.heap.get? b=some o->¬ Off (TH w) b->isCodeTable sA.heap b/\o=tabObj #[]/\∃ ps,s'.heap.get? b=some (tabObj ps):=fun b o e hn=>by
  have hP:∃ p∈(TH w).tabs,p.1=b:=Decidable.byContradiction fun h=>hn fun p hp he=>h ⟨p,hp,he⟩
  obtain ⟨p,hp,rfl⟩:=hP
  have hm:p.1∈Jmu.map (·.2):=show p.1∈(TH w).tabs.map (·.1) from List.mem_map.mpr ⟨p,hp,rfl⟩
  obtain ⟨r,hr,e1⟩:=List.mem_map.mp hm
  have hr:=hA r hr
  rw [e1] at hr
  exact ⟨(hr.1.tab hr.2).isCodeTable,Jav e hr.2,(G'.tabs p hp).imp fun V q=>q.1⟩
 refine ⟨⟨fun b o e=>?_,fun b o e=>?_⟩,x.os,G'.bare.bare⟩
 ·by_cases hb:Off (TH w) b
  ·exact .inl (x.keep b o e hb)
  ·obtain ⟨ht,rfl,ps,hP⟩:=grown b o e hb
   exact .inr (.inl ⟨ht,rfl, #[],ps,rfl,by rw [Array.empty_append]; exact hP⟩)
 ·by_cases hb:Off (TH w) b
  ·exact ⟨o,x.keep b o e hb⟩
  ·exact (grown b o e hb).2.2.elim fun V q=>⟨_,q⟩
end
end
section
section
variable {w:World}{sA s':Shared}{mg mb:Str->Option Value}{p:Program}{loose:List Str}{mean:ExcName->Option Value}{P:Addr}
theorem VDs.ints {av:List Addr}{h:Heap}{vs:List Value}{ns:List Int}(i:IntsAre vs ns):VDs av h vs (ns.map .int):=by
 induction i with
 | nil=>exact .nil
 | cons n t _ ih=>exact .cons (.int n t) ih
theorem Jp9:Rm (54+16) callerA:=⟨by decide +kernel,by decide +kernel,rfl⟩
theorem Juc {fa l:Addr}{vs:List Value}{script:List Int}{Q:Value->Shared->Prop}{E:Value->Shared->Prop}(X:(KH w).In sA.heap) (hT:∀ P∈Jxt,sA.heap.get? P=some (tabObj #[])) (T:Top p loose mean mg mb sA.heap) (hg:sA.gens = #[])
  (hm:mg (Str.ofString "law")=some (.ref fa)) (hl:sA.heap.get? l=some (Jb0 vs 0)) (hI:IntsAre vs script) (h63:script.length<=63)
  (hQ:∀ s',OldK sA.heap s'.heap/\s'.os=sA.os/\AllBare s'.gens->Q (.bool true) s'):wpAny (model Jdq w) callerA (call (.ref fa) [.ref l]) Q E sA:=by
 have hA:=Jxr X hT
 have R:=JCm hT hA X T
 cases hm.symm.trans (mg_of X T.g (by kernel_rfl):mg (Str.ofString "law")=some (.ref 287))
 obtain ⟨h1,h2⟩:=Jy8 (cel script)
 refine wpAny_mono (Jyt (n:=54) (JFb R) Jp9 (JCn hT hA hg) rfl (av:=[]) nofun (.lst List.not_mem_nil hl (VDs.ints hI)) (Nat.le_trans h63 (by decide)) (Jv0 (cel script)) (Jv1 (cel script)) h1 h2) (fun v s' h=>?_) fun V V f=>f.elim
 cases h.2.i3
 exact hQ s' (JBn hT hA hg h.1)
end
set_option tactic.hygienic true in
set_option maxHeartbeats 8000000 in
theorem law02:PySem.Challenge.rw_wz0031_02.Holds:=by
 refine hk (PySem.W.holds_open (q:=JBa) (loose:=[Str.ofString "_twin_re_1",Str.ofString "_Accumulator"]) (Xt:=fun s=>xlAt JBa [] s&&recOk (RowW.records PySem.Challenge.rw_wz0031_02.row.toRowW) s) (XP:=XL JBa []) (Yf:=Jzi.obs) (Ya:=Jzi.val) (YP:=Jzi.says) (N:=3298) JEy Jzi.of Jzi.keeps (fun s e=>xl_of s (Bool.and_eq_true_iff.mp e).1) XL.keeps (by rfl) (by rfl) (by rfl) (fun s e=>recFacts_of (Bool.and_eq_true_iff.mp e).2) (by rfl) (row_said lwS) (by kernel_rfl) ⟨rfl,rfl,rfl,rfl,rfl,by decide +kernel⟩ (by w_witness2) ?_)
 k_fill
 intro w s0 sA mg mb G Y fa o pm cd doc dV kV ho hd' hcd hD hmg hg args vals as hpre hlay hrd hwl hlo
 have KX:=km_in_of Y
 have hT8:=km_tabs_of Y
 refine Ground.open G ?_
 intro T B D TE TW
 wrow_args hpre hlay hrd hwl hlo
 rename_i script _ _ _ _ _ _ _ l vs _ hL ra w1 r0 hI hr hcnd hcnd'
 have hl:sA.heap.get? l=some (Jb0 vs 0):=by
  obtain ⟨o,ho,hc,n,hd2⟩:=hL
  have w2:Well w.params sA.heap (Value.ref l) (.list (ofPys (List.map PyData.int script))):=w1
  cases w2 with
  | list h1 h2 =>
   rw [ho] at h1
   cases h1
   cases hd2
   exact ho
 refine Juc KX hT8 T hg hmg hl hI (by lia) fun s' hs'=>⟨.inl ⟨.bool true,.bool true,[],rfl,fun V=>rfl,.bool true,by wrow_post,fun h=>⟨List.nodup_nil,fun a ha=>by cases ha⟩⟩,hs'⟩
end
end
end Mine
theorem PySem.Challenge.cw_wz0031_02_holds : PySem.Challenge.rw_wz0031_02.Holds := by
 exact Mine.law02
