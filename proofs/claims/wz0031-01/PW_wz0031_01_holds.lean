import PyProof.Rows.All
import Wide.All
import OpenK.AllK
import Wide.FinOn
import Lean
import PySem.Challenge.RW_wz0031_01
set_option Elab.async false
set_option maxRecDepth 100000
set_option linter.all false
set_option exponentiation.threshold 600
set_option genSizeOf false
set_option genInjectivity false
set_option bootstrap.genMatcherCode false
set_option compiler.extract_closed false
namespace Mine
section
open PySem PySem.W PyProof.Rows
section
set_option maxHeartbeats 8000000
theorem two {a b:Prop}(_:a) (h:b):b:=h
noncomputable def P1:Program:=PySem.Challenge.rw_wz0031_01.row.toRowW.prog
noncomputable def view:Program:={ P1 with main:={ P1.main with body:=[0,2,3,4,5,7,8,9,10,11,12,13,15,17,18,19,20,21,22,23,24].filterMap fun i=>P1.main.body[i]? } }
theorem left_of_boot {p q:Program}{loose:List Str}{Xt:Shared→Bool}{α:Type}{Yf:Shared→α}{Ya:World→α}{N:Nat}{g0:Bool}{H₀:Params→Heap}{gs₀:Array GenState}{d₀:Drawn}{k₀:Nat}
  (open_:∀ w:World,(fencedOpening treeTable p w N).map (fun s=>(s.heap,s.gens,s.drawn,s.toks))=some (H₀ w.params,gs₀,d₀,k₀))
  (h:∀ w:World,(fun os=>(topFrom treeTable p w N ⟨H₀ w.params,gs₀,d₀,k₀,os⟩).map (fun s=>(openSeen q loose (importedModules p.main.body) Xt g0 s,Yf s)))=fun _=>some (openGood q loose,Ya w)) :
  LeftO p q loose Xt Yf Ya N g0:=fun w=>by
 obtain ⟨⟨hh,gs,d,k,os⟩,e,e'⟩:=Option.map_eq_some_iff.mp (open_ w)
 obtain ⟨rfl,rfl,rfl,rfl⟩:hh=H₀ w.params∧gs=gs₀∧d=d₀∧k=k₀:=by simpa using e'
 unfold openEnds
 rw [e]
 exact congrFun (h w) os
theorem boot1:∀ w:World,(fencedOpening treeTable P1 w 3254).map (fun s=>(s.heap,s.gens,s.drawn,s.toks))=some (boot_heap w.params, #[],boot_drawn,boot_toks) :=
 boot_open (by kernel_rfl) (by decide) (fun _=>by kernel_rfl)
end
section
set_option maxHeartbeats 0
theorem lwS:PySem.Challenge.rw_wz0031_01.wellSaid=true:=by kernel_rfl
section
local macro_rules | `(tactic| o_law) => `(tactic| refine holds_law Mine.lwS fun said => ?_)
local macro_rules | `(tactic| o_head (kmHook $K $as $e $ts)) => do
 match ts with
 | `($_ :: $_) =>
  let hw:=Lean.mkIdent `hw
  let hc:=Lean.mkIdent `hc
  `(tactic| refine two (a:=RowW.promised (OpenRow.toRowW PySem.Challenge.rw_wz0031_01.row)) ?$hw ?$hc)
 | _=>Lean.Macro.throwUnsupported
open_top hk for PySem.Challenge.rw_wz0031_01
end
noncomputable abbrev hook:Hook:=kmHook hk.heap_1 [2,3,15,17,18,20,21,29,31,32,34,35,36,38,39,41,42,43,45,46,48,49,50,52,53,55,56,57,59,60,62,63,64,66,67,69,70,71,73,74,76,77,78,80,81,83,84,85,87,88,90,91,92,93,94,95,96,99,102,107,108,109,111,112,114,115,116,118,119,121,122,123,124,126,127,129,130,131,132,134,135,137,138,139,141,142,144,145,146,148,149,151,152,153,154,156,157,159,160,161,163,164,166,167,168,169,171,172,174,175,176,177,178,179,180,183,185,186,188,189,190,192,193,195,196,197,199,200,202,203,204,206,207,209,210,211,213,214,216,217,218,220,221,223,224,225,227,228,230,231,232,235,236,237,239,240,242,243,244,247,248,249,251,252,254,255,256,258,259,261,262,263,266,267,268,271,272,273,276,277] (fun _=>by kernel_rfl) [198,205,140,147]
theorem left1:LeftO P1 view [Str.ofString "_Accumulator"] (fun s=>xlAt view [] s&&recOk (RowW.records PySem.Challenge.rw_wz0031_01.row.toRowW) s) hook.obs hook.val 3254:=left_of_boot boot1 fun w=>by kernel_rfl
end
end
section
open PySem PySem.Spec PySem.Calls PyProof.Rows PySem.W
section
inductive D where
 | any | adr (a:Addr) | none | bool (b:Bool) | int (i:Int) | str (s:Str) | bytes (b:Array UInt8) | tup (l:List D) | lst (l:List D)
 deriving Inhabited
noncomputable abbrev tupO (vs:List Value) (n:Nat):Obj:={ cls:=.type "tuple",data:=.seq vs.toArray n }
noncomputable abbrev lstO (vs:List Value) (n:Nat):Obj:={ cls:=.type "list",data:=.seq vs.toArray n }
mutual
inductive VD (av:List Addr) (h:Heap):Value→D→Prop
 | any (a:Addr):VD av h (.ref a) .any
 | adr (a:Addr):VD av h (.ref a) (.adr a)
 | none:VD av h .none .none
 | bool (b:Bool):VD av h (.bool b) (.bool b)
 | int (i:Int) (t:Tok):VD av h (.int i t) (.int i)
 | str (s:Str) (t:Tok):VD av h (.str s t) (.str s)
 | bytes (b:Array UInt8) (t:Tok):VD av h (.bytes b t) (.bytes b)
 | tup {a:Addr}{vs:List Value}{n:Nat}{ds:List D}:a∉av→h.get? a=some (tupO vs n)→VDs av h vs ds→VD av h (.ref a) (.tup ds)
 | lst {a:Addr}{vs:List Value}{n:Nat}{ds:List D}:a∉av→h.get? a=some (lstO vs n)→VDs av h vs ds→VD av h (.ref a) (.lst ds)
inductive VDs (av:List Addr) (h:Heap):List Value→List D→Prop
 | nil:VDs av h [] []
 | cons {v:Value}{vs:List Value}{d:D}{ds:List D}:VD av h v d→VDs av h vs ds→VDs av h (v::vs) (d::ds)
end
noncomputable def SeqObj (o:Obj):Prop:=∃ vs n,o=tupO vs n∨o=lstO vs n
noncomputable def KeepSeq (av:List Addr) (h h':Heap):Prop:=∀ b o,h.get? b=some o→SeqObj o→b∉av→h'.get? b=some o
theorem KeepSeq.of_keeps {av:List Addr}{h h':Heap}(k:∀ b o,h.get? b=some o→h'.get? b=some o):KeepSeq av h h':=fun b o e _ _=>k b o e
theorem VD.mono {av av':List Addr}{h h':Heap}(k:KeepSeq av h h') (ha:∀ b o,h.get? b=some o→SeqObj o→b∉av→b∉av') {v:Value}{d:D}(x:VD av h v d):VD av' h' v d :=
 VD.rec (motive_1:=fun v d _=>VD av' h' v d) (motive_2:=fun vs ds _=>VDs av' h' vs ds) .any .adr .none .bool .int .str .bytes
  (fun n e _ r=>.tup (ha _ _ e ⟨_,_,.inl rfl⟩ n) (k _ _ e ⟨_,_,.inl rfl⟩ n) r) (fun n e _ r=>.lst (ha _ _ e ⟨_,_,.inr rfl⟩ n) (k _ _ e ⟨_,_,.inr rfl⟩ n) r) .nil (fun _ _ a r=>.cons a r) x
theorem VDs.ind {av:List Addr}{h:Heap}{P:List Value→List D→Prop}(h0:P [] []) (h1:∀ {v vs d ds},VD av h v d→VDs av h vs ds→P vs ds→P (v::vs) (d::ds)) {vs:List Value}{ds:List D}(x:VDs av h vs ds):P vs ds :=
 VDs.rec (motive_1:=fun _ _ _=>True) (motive_2:=fun vs ds _=>P vs ds) (fun _=>⟨⟩) (fun _=>⟨⟩) ⟨⟩ (fun _=>⟨⟩) (fun _ _=>⟨⟩) (fun _ _=>⟨⟩) (fun _ _=>⟨⟩) (fun _ _ _ _=>⟨⟩) (fun _ _ _ _=>⟨⟩) h0 (fun a r _ p=>h1 a r p) x
theorem VDs.mono {av av':List Addr}{h h':Heap}(k:KeepSeq av h h') (ha:∀ b o,h.get? b=some o→SeqObj o→b∉av→b∉av') {vs:List Value}{ds:List D}(x:VDs av h vs ds):VDs av' h' vs ds :=
 x.ind (P:=VDs av' h') .nil fun a _ r=>.cons (a.mono k ha) r
theorem VD.keep {av:List Addr}{h h':Heap}(k:KeepSeq av h h') {v:Value}{d:D}(x:VD av h v d):VD av h' v d:=x.mono k fun _ _ _ _ n=>n
theorem VDs.keep {av:List Addr}{h h':Heap}(k:KeepSeq av h h') {vs:List Value}{ds:List D}(x:VDs av h vs ds):VDs av h' vs ds:=x.mono k fun _ _ _ _ n=>n
theorem VDs.avoid {av:List Addr}{h:Heap}{a:Addr}(hn:h.get? a=Option.none) {vs:List Value}{ds:List D}(x:VDs av h vs ds):VDs (a::av) h vs ds :=
 x.mono (fun _ _ e _ _=>e) fun b o e _ n hm=>(List.mem_cons.mp hm).elim (fun q=>by subst q; rw [hn] at e; cases e) n
theorem VD.sub {av av':List Addr}{h:Heap}(hs:∀ a∈av',a∈av) {v:Value}{d:D}(x:VD av h v d):VD av' h v d :=
 x.mono (fun _ _ e _ _=>e) fun _ _ _ _ n hm=>n (hs _ hm)
theorem VDs.sub {av av':List Addr}{h:Heap}(hs:∀ a∈av',a∈av) {vs:List Value}{ds:List D}(x:VDs av h vs ds):VDs av' h vs ds :=
 x.mono (fun _ _ e _ _=>e) fun _ _ _ _ n hm=>n (hs _ hm)
section
variable {av:List Addr}{h:Heap}{v:Value}{d:D}{vs ws:List Value}{ds es:List D}
theorem VDs.length (x:VDs av h vs ds):vs.length=ds.length:=x.ind (P:=fun vs ds=>vs.length=ds.length) rfl fun _ _ e=>congrArg (· + 1) e
theorem VDs.append (x:VDs av h vs ds) (y:VDs av h ws es):VDs av h (vs++ws) (ds++es):=x.ind (P:=fun vs ds=>VDs av h (vs++ws) (ds++es)) y fun a _ r=>.cons a r
theorem VDs.one (x:VD av h v d):VDs av h [v] [d]:=.cons x .nil
theorem VDs.get (x:VDs av h vs ds):∀ (k:Nat) (v:Value),vs[k]?=some v→∃ d,ds[k]?=some d∧VD av h v d :=
 x.ind (P:=fun vs ds=>∀ (k:Nat) (v:Value),vs[k]?=some v→∃ d,ds[k]?=some d∧VD av h v d) (fun _ _ e=>nomatch e)
  fun a _ ih k v e=>k.casesOn (motive:=fun k=>(_::_)[k]?=some v→∃ d,(_::_)[k]?=some d∧VD av h v d) (fun e=>⟨_,rfl,Option.some.inj e▸a⟩) (fun k e=>ih k v e) e
theorem VDs.get' (x:VDs av h vs ds):∀ (k:Nat) (d:D),ds[k]?=some d→∃ v,vs[k]?=some v∧VD av h v d :=
 x.ind (P:=fun vs ds=>∀ (k:Nat) (d:D),ds[k]?=some d→∃ v,vs[k]?=some v∧VD av h v d) (fun _ _ e=>nomatch e)
  fun a _ ih k d e=>k.casesOn (motive:=fun k=>(_::_)[k]?=some d→∃ v,(_::_)[k]?=some v∧VD av h v d) (fun e=>⟨_,rfl,Option.some.inj e▸a⟩) (fun k e=>ih k d e) e
theorem VDs.reverse (x:VDs av h vs ds):VDs av h vs.reverse ds.reverse :=
 x.ind (P:=fun vs ds=>VDs av h vs.reverse ds.reverse) .nil fun a _ r=>by rw [List.reverse_cons,List.reverse_cons]; exact r.append (.one a)
end
end
section
theorem disc {α:Type}(f:α→Nat) {a b:α}(e:a=b) (h:Nat.beq (f a) (f b)=false):False:=by
 subst e
 exact absurd rfl (Nat.ne_of_beq_eq_false h)
theorem nos {α:Type}{x:Option α}{o:α}(a:x=none) (b:x=some o):False:=nomatch a.symm.trans b
theorem sinj {α:Type}{x:Option α}{o o':α}(a:x=some o) (b:x=some o'):o=o':=Option.some.inj (a.symm.trans b)
noncomputable def tgT (t:String):Nat:=if t == "list" then 1 else if t == "tuple" then 2 else if t == "code" then 3 else 4
noncomputable def tgV:Value→Nat
 | .none=>1 | .bool true=>2 | .bool false=>3 | .int .. => 4 | .str .. => 5 | .bytes .. => 6 | .ref _=>7 | .builtin _=>8 | .type t=>10+tgT t | _=>0
noncomputable def tgB:Data→Nat
 | .seq .. => 1 | .fields .. => 2 | .dict .. => 3 | .cell .. => 4 | .func .. => 5 | _=>6
noncomputable def tgO (o:Obj):Nat:=100*tgB o.data+tgV o.cls
noncomputable def tgP:Option Obj→Nat
 | .none=>0 | .some o=>1+tgO o
noncomputable def tgN {α:Type}:Option α→Nat
 | .none=>0 | .some _=>1
noncomputable def tgS:Bool→Nat
 | false=>0 | true=>1
section
variable {av:List Addr}{h:Heap}{v:Value}{vs:List Value}{c:Addr}{b:Bool}{i:Int}{x:Str}{y:Array UInt8}{l:List D}
theorem VD.i1 (r:VD av h v (.adr c)):v=.ref c:=by cases r; rfl
theorem VD.i2 (r:VD av h v .none):v=.none:=by cases r; rfl
theorem VD.i3 (r:VD av h v (.bool b)):v=.bool b:=by cases r; rfl
theorem VD.i4 (r:VD av h v (.int i)):∃ t,v=.int i t:=by cases r; exact ⟨_,rfl⟩
theorem VD.i5 (r:VD av h v (.str x)):∃ t,v=.str x t:=by cases r; exact ⟨_,rfl⟩
theorem VD.i6 (r:VD av h v (.bytes y)):∃ t,v=.bytes y t:=by cases r; exact ⟨_,rfl⟩
inductive VTup (av:List Addr) (h:Heap) (l:List D):Value→Prop
 | mk {a:Addr}{vs:List Value}{n:Nat}(na:a∉av) (e:h.get? a=some (tupO vs n)) (r:VDs av h vs l):VTup av h l (.ref a)
inductive VLst (av:List Addr) (h:Heap) (l:List D):Value→Prop
 | mk {a:Addr}{vs:List Value}{n:Nat}(na:a∉av) (e:h.get? a=some (lstO vs n)) (r:VDs av h vs l):VLst av h l (.ref a)
theorem VD.i7 (r:VD av h v (.tup l)):VTup av h l v:=by cases r with | tup na e r=>exact ⟨na,e,r⟩
theorem VD.i8 (r:VD av h v (.lst l)):VLst av h l v:=by cases r with | lst na e r=>exact ⟨na,e,r⟩
theorem VDs.i0 (r:VDs av h vs []):vs=[]:=by cases r; rfl
inductive VCons (av:List Addr) (h:Heap) (d:D) (l:List D):List Value→Prop
 | mk {v:Value}{vs:List Value}(x:VD av h v d) (r:VDs av h vs l):VCons av h d l (v::vs)
theorem VDs.i1 {d:D}(r:VDs av h vs (d::l)):VCons av h d l vs:=by cases r with | cons x r=>exact ⟨x,r⟩
end
end
section
noncomputable abbrev Tabs:=List (Addr×Str)
noncomputable def TabOk (h:Heap) (P:Addr) (q:Str):Prop :=
 ∃ ps,h.get? P=some (tabObj ps)∧TriplesOk ps.toList∧∀ pos cv,codeAmong pos ps.toList=some cv→h.CodeRec cv q
structure GK (g:Heap) (T:Tabs) (s:Shared):Prop where
 keep:∀ b o,g.get? b=some o→s.heap.get? b=some o
 tabs:∀ p∈T,TabOk s.heap p.1 p.2
 off:∀ p∈T,g.get? p.1=Option.none
 bare:AllBare s.gens
theorem TabOk.keeps {h h':Heap}{P:Addr}{q:Str}(x:TabOk h P q) (k:∀ b o,h.get? b=some o→h'.get? b=some o):TabOk h' P q :=
 let ⟨ps,e,t,c⟩:=x; ⟨ps,k _ _ e,t,fun pos cv hc=>(c pos cv hc).keeps k⟩
noncomputable def Off (T:Tabs) (b:Addr):Prop:=∀ p∈T,p.1≠b
structure Ext (g:Heap) (T:Tabs) (s s':Shared):Prop where
 dr:s'.drawn=s.drawn
 os:s'.os=s.os
 keep:∀ b o,s.heap.get? b=some o→Off T b→s'.heap.get? b=some o
 gk:GK g T s→GK g T s'
noncomputable abbrev NT (o:Obj):Prop:=∀ ps,o≠tabObj ps
section
variable {g:Heap}{T:Tabs}{s s' s'':Shared}
theorem Ext.refl:Ext g T s s:=⟨rfl,rfl,fun _ _ e _=>e,id⟩
theorem Ext.trans (x:Ext g T s s') (y:Ext g T s' s''):Ext g T s s'':=⟨y.dr.trans x.dr,y.os.trans x.os,fun b o e n=>y.keep b o (x.keep b o e n) n,fun q=>y.gk (x.gk q)⟩
theorem GK.up (q:GK g T s) (k:∀ b o,s.heap.get? b=some o→s'.heap.get? b=some o) (e:s'.gens=s.gens):GK g T s':=⟨fun b o e=>k b o (q.keep b o e),fun p hp=>(q.tabs p hp).keeps k,q.off,e▸q.bare⟩
theorem Ext.of (h':Heap) (tk:Nat) (k:∀ b o,s.heap.get? b=some o→h'.get? b=some o):Ext g T s { s with heap:=h',toks:=tk }:=⟨rfl,rfl,fun b o e _=>k b o e,fun q=>q.up k rfl⟩
theorem Ext.tok (tk:Nat):Ext g T s { s with toks:=tk }:=.of s.heap tk fun _ _ e=>e
theorem Ext.push (o:Obj):Ext g T s { s with heap:=s.heap.push o }:=.of (s.heap.push o) s.toks fun _ _ e=>Heap.get?_push_of_some _ e
theorem GK.away (q:GK g T s) {b:Addr}{o:Obj}(e:s.heap.get? b=some o) (n:NT o):Off T b:=fun p hp h=>by
 obtain ⟨ps,e',_⟩:=q.tabs p hp
 exact n ps (Option.some.inj (e.symm.trans (h▸e')))
theorem Ext.get' (x:Ext g T s s') (q:GK g T s) {b:Addr}{o:Obj}(e:s.heap.get? b=some o) (n:NT o):s'.heap.get? b=some o:=x.keep b o e (q.away e n)
theorem nt_tup (vs:List Value) (n:Nat):NT (tupO vs n):=fun _ h=>disc tgO h rfl
theorem nt_lst (vs:List Value) (n:Nat):NT (lstO vs n):=fun _ h=>disc tgO h rfl
theorem SeqObj.nt {o:Obj}(h:SeqObj o):NT o:=let ⟨vs,n,h⟩:=h; h.elim (fun e=>e▸nt_tup vs n) fun e=>e▸nt_lst vs n
theorem Ext.seq (x:Ext g T s s') (q:GK g T s) (av:List Addr):KeepSeq av s.heap s'.heap:=fun _ _ e ho _=>x.get' q e ho.nt
theorem Ext.vd (x:Ext g T s s') (q:GK g T s) {av:List Addr}{v:Value}{d:D}(r:VD av s.heap v d):VD av s'.heap v d:=r.keep (x.seq q av)
theorem Ext.vds (x:Ext g T s s') (q:GK g T s) {av:List Addr}{vs:List Value}{ds:List D}(r:VDs av s.heap vs ds):VDs av s'.heap vs ds:=r.keep (x.seq q av)
theorem ns_get {h h':Heap}{L:Addr}{m:Str→Option Value}(r:h.Ns L m) (k:∀ o,h.get? L=some o→NT o→h'.get? L=some o):h'.Ns L m:=by
 obtain ⟨o,es,ep,e,hd,rest⟩:=r
 exact ⟨o,es,ep,k o e (by rintro ps rfl; cases hd),hd,rest⟩
theorem cell_get {h h':Heap}{c:Addr}{v:Option Value}(r:h.IsCell c v) (k:∀ o,h.get? c=some o→NT o→h'.get? c=some o):h'.IsCell c v:=by
 obtain ⟨o,e,hd⟩:=r
 exact ⟨o,k o e (by rintro ps rfl; cases hd),hd⟩
theorem Ext.ns (x:Ext g T s s') (q:GK g T s) {L:Addr}{m:Str→Option Value}(r:s.heap.Ns L m):s'.heap.Ns L m:=ns_get r fun _ e n=>x.get' q e n
theorem Ext.cell (x:Ext g T s s') (q:GK g T s) {c:Addr}{v:Option Value}(r:s.heap.IsCell c v):s'.heap.IsCell c v:=cell_get r fun _ e n=>x.get' q e n
end
noncomputable def AvOk (av:List Addr) (h:Heap):Prop:=∀ a∈av,∃ o,h.get? a=some o∧NT o
theorem AvOk.ext {g:Heap}{T:Tabs}{s s':Shared}{av:List Addr}(x:Ext g T s s') (q:GK g T s) (r:AvOk av s.heap):AvOk av s'.heap:=fun a ha=>(r a ha).imp fun _ e=>⟨x.get' q e.1 e.2,e.2⟩
structure Rm (n:Nat) (A:Around):Prop where
 depth:A.depth+n<recursionLimit
 units:A.units+100*n<cLine
 hand:A.handled=Option.none
theorem Rm.le {n m:Nat}{A:Around}(r:Rm n A) (h:m≤n):Rm m A:=⟨Nat.lt_of_le_of_lt (Nat.add_le_add_left h _) r.depth,Nat.lt_of_le_of_lt (Nat.add_le_add_left (Nat.mul_le_mul_left _ h) _) r.units,r.hand⟩
theorem Rm.deeper {n:Nat}{A:Around}{env:Env}(r:Rm (n+1) A):Rm n (A.deeper env):=⟨by have:=r.depth; show A.depth+1+n<_; lia,by have:=r.units; show A.units+3+100*n<_; lia,r.hand⟩
theorem Rm.in1 {n:Nat}{A:Around}(r:Rm (n+1) A):Rm n A.in1:=⟨by have:=r.depth; show A.depth+n<_; lia,by have:=r.units; show A.units+1+100*n<_; lia,r.hand⟩
noncomputable def okName (x:Str):Bool := !(x==("__debug__" : Str)) && !(x==("__classdict__" : Str))
inductive Loads (env:Env) (h:Heap) (x:Str) (v:Value):Prop
 | loc (o:okName x=true) (k:env.kindOf x=some .local) (m:Str→Option Value) (n:h.Ns env.locals m) (e:m x=some v)
 | cel (o:okName x=true) (k:env.kindOf x=some .cell∨env.kindOf x=some .free) (c:Addr) (e:env.cells.lookup x=some c) (n:h.IsCell c (some v))
theorem Loads.ok {env:Env}{h:Heap}{x:Str}{v:Value}:Loads env h x v→okName x=true
 | .loc o .. => o
 | .cel o .. => o
theorem Loads.to {env:Env}{h h':Heap}{x:Str}{v:Value}(l:Loads env h x v) (kn:∀ {m},h.Ns env.locals m→h'.Ns env.locals m) (kc:∀ {c u},env.cells.lookup x=some c→h.IsCell c u→h'.IsCell c u):Loads env h' x v:=by
 cases l with
 | loc o k m n e=>exact .loc o k m (kn n) e
 | cel o k c e n=>exact .cel o k c e (kc e n)
inductive Sl where
 | val (d:D)
 | own (ds:List D)
 deriving Inhabited
noncomputable abbrev Sto:=List (Str×Sl)
inductive OwnV (av:List Addr) (h:Heap) (ds:List D):Value→Prop
 | mk {a:Addr}{vs:List Value}{n:Nat}(m:a∈av) (e:h.get? a=some (lstO vs n)) (r:VDs av h vs ds):OwnV av h ds (.ref a)
noncomputable def SlotV (av:List Addr) (h:Heap) (v:Value):Sl→Prop
 | .val d=>VD av h v d
 | .own ds=>OwnV av h ds v
inductive VarV (av:List Addr) (env:Env) (h:Heap) (x:Str) (sl:Sl):Prop
 | mk (v:Value) (l:Loads env h x v) (r:SlotV av h v sl)
structure EC (av:List Addr) (env:Env) (σ:Sto) (h:Heap):Prop where
 kind:env.scope.kind=.function
 glob:env.globals=mainGlobals
 blt:env.builtins=builtinsNs
 avok:AvOk av h
 vars:∀ x sl,σ.lookup x=some sl→VarV av env h x sl
 cells:∀ x,env.kindOf x=some .cell∨env.kindOf x=some .free→∃ c,env.cells.lookup x=some c∧∃ v,h.IsCell c v
section
variable {g:Heap}{T:Tabs}{s s':Shared}{av:List Addr}{env:Env}{σ:Sto}{x:Str}{v:Value}{sl:Sl}
theorem Loads.ext (e:Ext g T s s') (q:GK g T s) (r:Loads env s.heap x v):Loads env s'.heap x v:=r.to (e.ns q) fun _=>e.cell q
theorem SlotV.ext (e:Ext g T s s') (q:GK g T s) (r:SlotV av s.heap v sl):SlotV av s'.heap v sl:=by
 cases sl with
 | val d=>exact e.vd q r
 | own ds=>cases r with | mk ha ho hd=>exact ⟨ha,e.get' q ho (nt_lst _ _),e.vds q hd⟩
theorem EC.ext (c:EC av env σ s.heap) (e:Ext g T s s') (q:GK g T s):EC av env σ s'.heap :=
 ⟨c.kind,c.glob,c.blt,c.avok.ext e q,fun x sl h=>(c.vars x sl h).rec fun v l r=>⟨v,l.ext e q,r.ext e q⟩,fun x h=>(c.cells x h).imp fun _ p=>⟨p.1,p.2.imp fun _ hv=>e.cell q hv⟩⟩
theorem EC.adr {h:Heap}(c:EC av env σ h) {a:Addr}(e:σ.lookup x=some (.val (.adr a))):Loads env h x (.ref a):=(c.vars x _ e).rec fun _ l r=>VD.i1 r▸l
end
section
variable {M:Model}{A:Around}{E:Value→Shared→Prop}{s:Shared}{env:Env}{x:Str}{v:Value}
theorem ok_name (o:okName x=true):(x==("__debug__" : Str))=false∧(x==("__classdict__" : Str))=false :=
 ⟨(Bool.not_eq_true' _).mp (Bool.and_eq_true_iff.mp o).1,(Bool.not_eq_true' _).mp (Bool.and_eq_true_iff.mp o).2⟩
theorem wp_load {pos:Pos}{Q:Value→Shared→Prop}(hk:env.scope.kind=.function) (l:Loads env s.heap x v) (h:Q v s):wpAny M A (eval (.Name x pos) env) Q E s:=by
 refine wpAny_Name ?_ (ok_name l.ok).1
 cases l with
 | loc o k m n hv=>exact wpAny_loadName_local hk k n hv h
 | cel o k c hc hv=>exact k.elim (fun k=>wpAny_loadName_cell hk k hc hv h) fun k=>wpAny_loadName_free hk k hc hv h (ok_name o).2
end
inductive Glb (g:Heap) (x:Str) (v:Value):Prop
 | glob (o:okName x=true) (m:Str→Option Value) (n:g.Ns mainGlobals m) (e:m x=some v)
 | blt (o:okName x=true) (m b:Str→Option Value) (n:g.Ns mainGlobals m) (e:m x=Option.none) (n':g.Ns builtinsNs b) (e':b x=some v)
theorem wp_glob {M:Model}{A:Around}{E:Value→Shared→Prop}{s:Shared}{env:Env}{x:Str}{v:Value}{g:Heap}{pos:Pos}{Q:Value→Shared→Prop}(hk:env.scope.kind=.function)
  (hg:env.globals=mainGlobals) (hb:env.builtins=builtinsNs) (hx:env.kindOf x=some .globalImplicit) (k:∀ b o,g.get? b=some o→s.heap.get? b=some o) (l:Glb g x v) (h:Q v s) :
  wpAny M A (eval (.Name x pos) env) Q E s:=by
 cases l with
 | glob o m n e=>exact Name_function_global hk hx (loadGlobal_global (env:=env) (hg▸n.keeps k) e h) (ok_name o).1
 | blt o m b n e n' e'=>exact Name_function_global hk hx (loadGlobal_builtin (env:=env) (hg▸n.keeps k) e (hb▸n'.keeps k) e' h) (ok_name o).1
end
section
noncomputable def Out (g:Heap) (T:Tabs) (av:List Addr) (s:Shared) (d:D) (v:Value) (s':Shared):Prop:=Ext g T s s'∧VD av s'.heap v d
noncomputable def NoE (_:Value) (_:Shared):Prop:=False
noncomputable def sm (i:Int):Bool:=decide (i.natAbs<2 ^ 500)
noncomputable def lim:Nat:=1048576
theorem lim_le:lim+lim≤sizeLine:=by decide
section
variable {g:Heap}{T:Tabs}{av:List Addr}{s:Shared}
theorem out_int {i:Int}{tk t:Tok}:Out g T av s (.int i) (.int i t) { s with toks:=tk }:=⟨.tok tk,.int i t⟩
theorem out_bool {b:Bool}:Out g T av s (.bool b) (.bool b) s:=⟨.refl,.bool b⟩
theorem out_str {x:Str}{tk t:Tok}:Out g T av s (.str x) (.str x t) { s with toks:=tk }:=⟨.tok tk,.str x t⟩
theorem out_bytes {x:Array UInt8}{tk t:Tok}:Out g T av s (.bytes x) (.bytes x t) { s with toks:=tk }:=⟨.tok tk,.bytes x t⟩
theorem push_keeps (s:Shared) (o:Obj):∀ b o',s.heap.get? b=some o'→(s.heap.push o).get? b=some o':=fun _ _ e=>Heap.get?_push_of_some _ e
theorem size_fresh (h:Heap):h.get? h.objs.size=Option.none:=by
 cases e:h.get? h.objs.size with
 | none=>rfl
 | some o=>exact absurd (Heap.lt_size e) (Nat.lt_irrefl _)
theorem av_fresh (a:AvOk av s.heap):s.heap.objs.size∉av:=fun hm=>by
 obtain ⟨o,e,_⟩:=a _ hm
 rw [size_fresh] at e; exact (disc tgN e rfl).elim
theorem out_lst {vs:List Value}{ds:List D}{n:Nat}{tk:Tok}(a:AvOk av s.heap) (r:VDs av s.heap vs ds):Out g T av s (.lst ds) (.ref s.heap.objs.size) { s with heap:=s.heap.push (lstO vs n),toks:=tk } :=
 ⟨.of _ tk (push_keeps s _),.lst (av_fresh a) (Heap.get?_push_size _ rfl) (r.keep (.of_keeps (push_keeps s _)))⟩
theorem out_tup {vs:List Value}{ds:List D}{n:Nat}{tk:Tok}(a:AvOk av s.heap) (r:VDs av s.heap vs ds):Out g T av s (.tup ds) (.ref s.heap.objs.size) { s with heap:=s.heap.push (tupO vs n),toks:=tk } :=
 ⟨.of _ tk (push_keeps s _),.tup (av_fresh a) (Heap.get?_push_size _ rfl) (r.keep (.of_keeps (push_keeps s _)))⟩
end
theorem bits_small {a:Int}(h:sm a=true):Builtin.Int.intBits a≤500:=by
 unfold Builtin.Int.intBits
 have ha:a.natAbs<2 ^ 500:=of_decide_eq_true h
 by_cases z:a=0
 ·subst z; decide
 ·have:(a==0)=false:=by simpa using z
  rw [this]
  simp only [Bool.false_eq_true,if_false]
  have:a.natAbs≠0:=by lia
  exact (Nat.log2_lt this).mpr ha
theorem mulOk {a b:Int}(ha:sm a=true) (hb:sm b=true):IntMulOk a b :=
 IntMulOk.of_bits (Nat.le_trans (bits_small ha) (by decide)) (Nat.le_trans (bits_small hb) (by decide))
theorem no_pylong {a b:Int}(hb:sm b=true):¬ (Builtin.divisionGoesByPylong a b)=true:=by
 have h:=bits_small hb
 unfold Builtin.Int.intBits at h
 intro q
 simp only [Builtin.divisionGoesByPylong,Bool.and_eq_true,decide_eq_true_eq] at q
 have q1:=q.1
 by_cases z:b=0
 ·subst z; simp at q1
 ·have e:(b==0)=false:=by simpa using z
  rw [e] at q1 h
  simp only [Bool.false_eq_true,if_false] at q1 h
  omega
theorem neg_one_pow (n:Nat):(-1:Int) ^ n=if n % 2=0 then 1 else -1:=by
 induction n with
 | zero=>rfl
 | succ n ih=>rw [Int.pow_succ,ih]; split <;> split <;> lia
theorem lstO_append (a b:List Value) (n:Nat):lstO (a++b) n={ cls:=.type "list",data:=.seq (a.toArray++b.toArray) n }:=by simp [lstO]
section
variable (prog:Program) (w:World) (g:Heap) (T:Tabs)
noncomputable def BinV (op:Operator) (a b d:D):Prop :=
 ∀ (A:Around) (s:Shared) (av:List Addr) (u v:Value),AvOk av s.heap→VD av s.heap u a→VD av s.heap v b→wpAny (model prog w) A (binaryOp op u v) (Out g T av s d) NoE s
end
section
variable {prog:Program}{w:World}{g:Heap}{T:Tabs}{a b:Int}{d:D}{op:Operator}
theorem BinV.ints (h:∀ (A:Around) (s:Shared) (av:List Addr) (t t':Tok),wpAny (model prog w) A (binaryOp op (.int a t) (.int b t')) (Out g T av s d) NoE s):BinV prog w g T op (.int a) (.int b) d:=fun A s av u v _ hu hv=>by
 obtain ⟨t,rfl⟩:=hu.i4
 obtain ⟨t',rfl⟩:=hv.i4
 exact h A s av t t'
theorem bin_add:BinV prog w g T .Add (.int a) (.int b) (.int (a+b)):=.ints fun A s av t t'=>add_int out_int
theorem bin_sub:BinV prog w g T .Sub (.int a) (.int b) (.int (a - b)):=.ints fun A s av t t'=>sub_int out_int
theorem bin_xor:BinV prog w g T .BitXor (.int a) (.int b) (.int (Builtin.bitXor a b)):=.ints fun A s av t t'=>xor_int out_int
theorem bin_mul (ha:sm a=true) (hb:sm b=true):BinV prog w g T .Mult (.int a) (.int b) (.int (a*b)):=.ints fun A s av t t'=>mul_int out_int (mulOk ha hb)
theorem bin_mod (h:b≠0):BinV prog w g T .Mod (.int a) (.int b) (.int (a.fmod b)):=.ints fun A s av t t'=>AutoIntOps.mod_1 (by simpa using h) out_int
theorem bin_div (h:b≠0) (hb:sm b=true):BinV prog w g T .FloorDiv (.int a) (.int b) (.int (a.fdiv b)):=.ints fun A s av t t'=>AutoIntOps.floordiv_1 (by simpa using h) (no_pylong hb) out_int
theorem bin_shl (h0:0≤b) (h1:b≤500) (ha:sm a=true):BinV prog w g T .LShift (.int a) (.int b) (.int (a*2 ^ b.toNat)):=.ints fun A s av t t'=>lshift_int h0 (by have:=bits_small ha; lia) out_int
theorem bin_shr {b:Nat}:BinV prog w g T .RShift (.int a) (.int (b:Int)) (.int (a.fdiv (2 ^ b))):=.ints fun A s av t t'=>rshift_int (Int.natCast_nonneg b) out_int
theorem pow_one (c:(a==0||a==1)=true):∀ n:Nat,n≠0→a ^ n=a
 | 0,h=>absurd rfl h
 | n+1,_=>by
  rcases (Bool.or_eq_true _ _).mp c with c | c
  ·rw [eq_of_beq c,Int.pow_succ,Int.mul_zero]
  ·rw [eq_of_beq c]; exact Int.one_pow
theorem bin_pow (h0:0≤b) (h1:b≤500) (ha:sm a=true):BinV prog w g T .Pow (.int a) (.int b) (.int (a ^ b.toNat)):=.ints fun A s av t t'=>by
 by_cases c1:b=0
 ·subst c1; refine AutoIntOps.pow_0 (Int.le_refl 0) rfl ?_; rw [show a ^ (0:Int).toNat=1 from Int.pow_zero a]; exact out_int
 ·have c1':¬ (b==0)=true:=fun q=>c1 (eq_of_beq q)
  by_cases c2:(a==0||a==1)=true
  ·refine AutoIntOps.pow_1 h0 c1' c2 ?_
   rw [pow_one c2 _ (by lia)]; exact out_int
  ·by_cases c3:(a == -1)=true
   ·refine AutoIntOps.pow_2 h0 c1' c2 c3 ?_
    rw [eq_of_beq c3,neg_one_pow]
    have:(b % 2==0)=decide (b.toNat % 2=0):=by rw [Bool.eq_iff_iff,beq_iff_eq,decide_eq_true_eq]; lia
    rw [this]
    by_cases q:b.toNat % 2=0
    ·rw [decide_eq_true q,if_pos q]; exact out_int
    ·rw [decide_eq_false q,if_neg q]; exact out_int
   ·refine AutoIntOps.pow_4 h0 c1' c2 c3 ?_ out_int
    have hb:=bits_small ha
    refine fun q=>?_
    have q:=of_decide_eq_true q
    have:((Builtin.Int.intBits a:Nat):Int)*b≤500*500:=Int.mul_le_mul (by lia) h1 h0 (by lia)
    have h27:(bitsLine:Int)=134217728:=by decide
    lia
theorem bin_str {a b:Str}(ha:a.length≤lim) (hb:b.length≤lim):BinV prog w g T .Add (.str a) (.str b) (.str (a++b)):=fun A s av u v _ hu hv=>by
 obtain ⟨t,rfl⟩:=hu.i5
 obtain ⟨t',rfl⟩:=hv.i5
 exact KXadd.add ha hb lim_le fun t' k _=>out_str
theorem bin_bytes {a b:Array UInt8}(ha:a.size≤lim) (hb:b.size≤lim):BinV prog w g T .Add (.bytes a) (.bytes b) (.bytes (a++b)):=fun A s av u v _ hu hv=>by
 obtain ⟨t,rfl⟩:=hu.i6
 obtain ⟨t',rfl⟩:=hv.i6
 refine KBy.add_bytes ?_ fun t' k=>out_bytes
 have:=lim_le
 have h2:sizeLine=16777216:=by decide
 lia
theorem bin_lst {a b:List D}(ha:a.length≤lim) (hb:b.length≤lim):BinV prog w g T .Add (.lst a) (.lst b) (.lst (a++b)):=fun A s av u v hav hu hv=>by
 cases hu.i8 with | mk na ea ra =>
 cases hv.i8 with | mk nb eb rb =>
 have hla:=ra.length
 have hlb:=rb.length
 refine P.add_list ea eb ?_ (by rw [List.size_toArray,List.size_toArray]; have:=lim_le; lia)
 have:=out_lst (g:=g) (T:=T) (tk:=s.toks) (n:=0) hav (ra.append rb)
 rw [lstO_append] at this
 exact this
end
end
end
section
open PySem PySem.Spec PySem.Calls PyProof.Rows PyProof.V PySem.W
section
mutual
inductive Dp:Nat→D→PyData→Prop
 | none {k:Nat}:Dp k .none .none
 | int {k:Nat}{i:Int}:Dp k (.int i) (.int i)
 | str {k:Nat}{x:Str}:PyData.strOk x=true→Dp k (.str x) (.str x)
 | tup {k:Nat}{ds:List D}{ps:List PyData}:Dps k ds ps→Dp (k+1) (.tup ds) (.tuple ps)
 | lst {k:Nat}{ds:List D}{ps:List PyData}:Dps k ds ps→Dp (k+1) (.lst ds) (.list ps)
inductive Dps:Nat→List D→List PyData→Prop
 | nil {k:Nat}:Dps k [] []
 | cons {k:Nat}{d:D}{p:PyData}{ds:List D}{ps:List PyData}:Dp k d p→Dps k ds ps→Dps k (d::ds) (p::ps)
end
theorem Dp.reads {av:List Addr}{h:Heap}{k:Nat}{d:D}{p:PyData}{v:Value}(a:Dp k d p) (x:VD av h v d):∃ as,Reads h v p as:=by
 refine Dp.rec (motive_1:=fun _ d p _=>∀ v,VD av h v d→∃ as,Reads h v p as) (motive_2:=fun _ ds ps _=>∀ vs,VDs av h vs ds→∃ as,ReadsAll h vs ps as)
  (fun v x=>?_) (fun v x=>?_) (fun _ v x=>?_) (fun _ ih v x=>?_) (fun _ ih v x=>?_) (fun vs x=>?_) (fun _ _ i1 i2 vs x=>?_) a v x
 ·rw [x.i2]; exact ⟨_,Reads.none⟩
 ·obtain ⟨t,rfl⟩:=x.i4; exact ⟨_,Reads.int _ t⟩
 ·obtain ⟨t,rfl⟩:=x.i5; exact ⟨_,Reads.str _ t⟩
 ·cases x.i7 with | mk _ e r=>exact (ih _ r).imp fun _ q=>reads_tuple_at e rfl rfl q
 ·cases x.i8 with | mk _ e r=>exact (ih _ r).elim fun _ q=>⟨_,reads_list_at e rfl rfl q⟩
 ·rw [x.i0]; exact ⟨_,ReadsAll.nil⟩
 ·cases x.i1 with | mk x1 y1=>exact (i1 _ x1).elim fun _ p=>(i2 _ y1).elim fun _ q=>⟨_,ReadsAll.cons p q⟩
theorem Dp.lay {k:Nat}{d:D}{p:PyData}(a:Dp k d p):p.canLay0=true∧p.depth≤k :=
 Dp.rec (motive_1:=fun k _ p _=>p.canLay0=true∧p.depth≤k) (motive_2:=fun k _ ps _=>PyData.canLayAll0 ps=true∧PyData.depthAll ps≤k)
  ⟨rfl,Nat.zero_le _⟩ ⟨rfl,Nat.zero_le _⟩ (fun h=>⟨h,Nat.zero_le _⟩) (fun _ r=>⟨r.1,Nat.succ_le_succ r.2⟩) (fun _ r=>⟨r.1,Nat.succ_le_succ r.2⟩) ⟨rfl,Nat.zero_le _⟩
  (fun _ _ a r=>⟨Bool.and_eq_true_iff.mpr ⟨a.1,r.1⟩,Nat.max_le.mpr ⟨a.2,r.2⟩⟩) a
theorem Dps.lay {k:Nat}{ds:List D}{ps:List PyData}(a:Dps k ds ps):PyData.canLayAll0 ps=true∧PyData.depthAll ps≤k:=⟨(Dp.lst a).lay.1,Nat.le_of_succ_le_succ (Dp.lst a).lay.2⟩
theorem Dp.shaped {k:Nat}{d:D}{p:PyData}(h:Dp k d p) (hk:k≤64):SeqAt.shaped p=true:=Bool.and_eq_true_iff.mpr ⟨h.lay.1,decide_eq_true (Nat.le_trans h.lay.2 hk)⟩
section
variable (prog:Program) (w:World) (g:Heap) (T:Tabs)
noncomputable def CmpV (op:CmpOp) (a b:D) (c:Bool):Prop :=
 ∀ (A:Around) (s:Shared) (av:List Addr) (u v:Value),Rm 1 A→VD av s.heap u a→VD av s.heap v b→wpAny (model prog w) A (compareOp op u v) (Out g T av s (.bool c)) NoE s
end
section
variable {prog:Program}{w:World}{g:Heap}{T:Tabs}{op:CmpOp}{a b:Int}{x y:Str}{l:List D}{d e:D}{p q:PyData}{ps:List PyData}{c:Bool}{k m:Nat}
theorem CmpV.ints (h:∀ (A:Around) (s:Shared) (av:List Addr) (t t':Tok),wpAny (model prog w) A (compareOp op (.int a t) (.int b t')) (Out g T av s (.bool c)) NoE s):CmpV prog w g T op (.int a) (.int b) c:=fun A s av u v _ hu hv=>by
 obtain ⟨t,rfl⟩:=hu.i4
 obtain ⟨t',rfl⟩:=hv.i4
 exact h A s av t t'
theorem cmp_eq:CmpV prog w g T .Eq (.int a) (.int b) (a==b):=.ints fun _ _ _ _ _=>eq_int out_bool
theorem cmp_lt:CmpV prog w g T .Lt (.int a) (.int b) (decide (a<b)):=.ints fun _ _ _ _ _=>lt_int out_bool
theorem cmp_le:CmpV prog w g T .LtE (.int a) (.int b) (decide (a≤b)):=.ints fun _ _ _ _ _=>le_int out_bool
theorem cmp_gt:CmpV prog w g T .Gt (.int a) (.int b) (decide (a>b)):=.ints fun _ _ _ _ _=>gt_int out_bool
theorem cmp_ge:CmpV prog w g T .GtE (.int a) (.int b) (decide (a≥b)):=.ints fun _ _ _ _ _=>ge_int out_bool
theorem cmp_eqS:CmpV prog w g T .Eq (.str x) (.str y) (x==y):=fun A s av u v _ hu hv=>by
 obtain ⟨t,rfl⟩:=hu.i5
 obtain ⟨t',rfl⟩:=hv.i5
 exact eq_str out_bool
theorem cmp_neS:CmpV prog w g T .NotEq (.str x) (.str y) (x != y):=fun A s av u v _ hu hv=>by
 obtain ⟨t,rfl⟩:=hu.i5
 obtain ⟨t',rfl⟩:=hv.i5
 exact ne_str out_bool
theorem cmp_isN:CmpV prog w g T .Is .none .none true:=fun A s av u v _ hu hv=>by
 rw [hu.i2,hv.i2]; exact wpAny_is_self rfl out_bool
theorem cmp_isnN:CmpV prog w g T .IsNot .none .none false:=fun A s av u v _ hu hv=>by
 rw [hu.i2,hv.i2]; exact wpAny_isNot_self rfl out_bool
theorem cmp_isL:CmpV prog w g T .Is (.lst l) .none false:=fun A s av u v _ hu hv=>by
 rw [hv.i2]; cases hu.i8; exact wpAny_is_other rfl (by intro q; exact (disc tgV q rfl).elim) out_bool
theorem cmp_isnL:CmpV prog w g T .IsNot (.lst l) .none true:=fun A s av u v _ hu hv=>by
 rw [hv.i2]; cases hu.i8; exact wpAny_isNot_other rfl (by intro q; exact (disc tgV q rfl).elim) out_bool
theorem room1 {A:Around}(hr:Rm 1 A):A.units+64<cLine:=Nat.lt_of_le_of_lt (Nat.add_le_add_left (by decide) _) hr.units
theorem cmp_neD (hd:Dp 9 d p) (he:Dp 9 e q):CmpV prog w g T .NotEq d e (!p.eqv q):=fun A s av u v hr hu hv =>
 (hd.reads hu).elim fun _ ra=>(he.reads hv).elim fun _ rb=>ne_dataH ra rb (hd.shaped (by decide)) (he.shaped (by decide)) (room1 hr) out_bool
theorem in_room {A:Around}(hr:Rm 1 A) (hl:Dps 9 l ps):A.units+1+min (PyData.depthAll ps) p.depth<cLine:=by
 have:=hr.units
 have h1:=hl.lay.2
 have h2:=Nat.min_le_left (PyData.depthAll ps) p.depth
 lia
theorem cmp_in (hd:Dp 9 d p) (hl:Dps 9 l ps):CmpV prog w g T .In d (.lst l) (ps.any fun y=>y.eqv p):=fun A s av u v hr hu hv =>
 (hd.reads hu).elim fun _ ra=>((Dp.lst hl).reads hv).elim fun _ rb=>SeqAt.in_list_reads rb ra hl.lay.1 hd.lay.1 (in_room hr hl) out_bool
theorem cmp_nin (hd:Dp 9 d p) (hl:Dps 9 l ps):CmpV prog w g T .NotIn d (.lst l) (!ps.any fun y=>y.eqv p):=fun A s av u v hr hu hv =>
 (hd.reads hu).elim fun _ ra=>((Dp.lst hl).reads hv).elim fun _ rb=>SeqAt.notIn_list_reads rb ra hl.lay.1 hd.lay.1 (in_room hr hl) out_bool
end
end
section
section
variable (prog:Program) (w:World) (g:Heap) (T:Tabs)
noncomputable def Ev (n:Nat) (sc:Scope) (σ:Sto) (e:Expr) (d:D):Prop :=
 ∀ (A:Around) (s:Shared) (av:List Addr) (env:Env),env.scope=sc→Rm n A→GK g T s→EC av env σ s.heap→wpAny (model prog w) A (eval e env) (Out g T av s d) NoE s
noncomputable def EvT (n:Nat) (sc:Scope) (σ:Sto) (e:Expr) (b:Bool):Prop :=
 ∀ (A:Around) (s:Shared) (av:List Addr) (env:Env),env.scope=sc→Rm n A→GK g T s→EC av env σ s.heap→wpAny (model prog w) A (isTrue e env (eval e env)) (fun c s'=>c=b∧Ext g T s s') NoE s
noncomputable def Plain:List Expr→Prop
 | []=>True
 | e::es=>(∀ env,starEach (e::es) env=(false,eval e env)::starEach es env)∧Plain es
structure EvL (n:Nat) (sc:Scope) (σ:Sto) (es:List Expr) (ds:List D):Prop where
 plain:Plain es
 run:∀ (A:Around) (s:Shared) (av:List Addr) (env:Env) (pos:Pos),env.scope=sc→Rm n A→GK g T s→EC av env σ s.heap→wpAny (model prog w) A (spliced (backTo pos (starEach es env))) (fun vs s'=>Ext g T s s'∧VDs av s'.heap vs ds) NoE s
inductive Callable:Value→Prop
 | bi (id:String):Callable (.builtin id)
 | ty (t:String):Callable (.type t)
 | fn {a:Addr}{o:Obj}{fd:FuncData}(e:g.get? a=some o) (h:o.data=.func fd):Callable (.ref a)
inductive ClV (n:Nat) (x:Str) (ds:List D) (d:D):Prop
 | mk (fv:Value) (hg:Glb g x fv) (c:Callable g fv)
  (run:∀ (A:Around) (s:Shared) (av:List Addr) (vs:List Value),Rm n A→GK g T s→AvOk av s.heap→VDs av s.heap vs ds→wpAny (model prog w) A (call fv vs) (Out g T av s d) NoE s)
end
section
variable {prog:Program}{w:World}{g:Heap}{T:Tabs}{n:Nat}{sc:Scope}{σ:Sto}{av:List Addr}{s s' s'':Shared}
theorem Out.trans {d:D}{v:Value}(x:Ext g T s s') (y:Out g T av s' d v s''):Out g T av s d v s'':=⟨x.trans y.1,y.2⟩
theorem wp_to {α:Type}{A:Around}{t:Sem α}{Q Q':α→Shared→Prop}(h:wpAny (model prog w) A t Q NoE s) (k:∀ a s',Q a s'→Q' a s'):wpAny (model prog w) A t Q' NoE s:=wpAny_mono h k fun _ _ x=>x
theorem Ev.int {i:Int}{k:Nat}{pos:Pos}:Ev prog w g T n sc σ (.Constant (.int i) k pos) (.int i):=fun _ _ _ _ _ _ _ _=>wpAny_Constant_int out_int
theorem Ev.str {x:Str}{k:Nat}{pos:Pos}:Ev prog w g T n sc σ (.Constant (.str x) k pos) (.str x):=fun _ _ _ _ _ _ _ _=>wpAny_Constant_str out_str
theorem Ev.bool {b:Bool}{k:Nat}{pos:Pos}:Ev prog w g T n sc σ (.Constant (.bool b) k pos) (.bool b):=fun _ _ _ _ _ _ _ _=>wpAny_Constant_bool out_bool
theorem Ev.none {k:Nat}{pos:Pos}:Ev prog w g T n sc σ (.Constant .none k pos) .none:=fun _ _ _ _ _ _ _ _=>wpAny_Constant_none ⟨.refl,.none⟩
theorem Ev.name {x:Str}{pos:Pos}{d:D}(h:σ.lookup x=some (.val d)):Ev prog w g T n sc σ (.Name x pos) d:=fun A s av env he hr hg hc=>by
 cases hc.vars x _ h with | mk v l r=>exact wp_load hc.kind l ⟨.refl,r⟩
theorem Ev.globInt {x:Str}{pos:Pos}{i:Int}{t:Tok}(hx:sc.names.lookup x=some .globalImplicit) (h:Glb g x (.int i t)):Ev prog w g T n sc σ (.Name x pos) (.int i):=fun A s av env he hr hg hc =>
 wp_glob hc.kind hc.glob hc.blt (by show env.scope.names.lookup x=_; rw [he]; exact hx) hg.keep h ⟨.refl,.int i t⟩
section
variable {A:Around}{env:Env}{l r e:Expr}{op:Operator}{cop:CmpOp}{pos:Pos}{a b d:D}{c:Bool}{i j:Int}{es:List Expr}{ds:List D}
theorem Ev.two {Q:Value→Value→Shared→Prop}(hl:Ev prog w g T n sc σ l a) (hr:Ev prog w g T n sc σ r b) (he:env.scope=sc) (rm:Rm n A) (hg:GK g T s) (hc:EC av env σ s.heap)
  (k:∀ u v s₂,Ext g T s s₂→AvOk av s₂.heap→VD av s₂.heap u a→VD av s₂.heap v b→Q u v s₂):wpAny (model prog w) A (eval l env) (fun u s₁=>wpAny (model prog w) A (eval r env) (Q u) NoE s₁) NoE s :=
 wp_to (hl A s av env he rm hg hc) fun u s₁ h₁=>wp_to (hr A s₁ av env he rm (h₁.1.gk hg) (hc.ext h₁.1 hg)) fun v s₂ h₂=>k u v s₂ (h₁.1.trans h₂.1) ((hc.ext h₁.1 hg).avok.ext h₂.1 (h₁.1.gk hg)) (h₂.1.vd (h₁.1.gk hg) h₁.2) h₂.2
theorem Ev.bin (hl:Ev prog w g T n sc σ l a) (hr:Ev prog w g T n sc σ r b) (e:BinV prog w g T op a b d):Ev prog w g T n sc σ (.BinOp l op r pos) d:=fun A s av env he rm hg hc =>
 wpAny_BinOp (hl.two hr he rm hg hc fun u v s₂ x o hu hv=>wp_to (e A s₂ av u v o hu hv) fun _ _ h=>Out.trans x h)
theorem Ev.neg (h:Ev prog w g T n sc σ e (.int i)):Ev prog w g T n sc σ (.UnaryOp .USub e pos) (.int (-i)):=fun A s av env he rm hg hc =>
 wpAny_UnaryOp (wp_to (h A s av env he rm hg hc) fun u s₁ h₁=>by obtain ⟨_,rfl⟩:=VD.i4 h₁.2; exact neg_int (Out.trans h₁.1 out_int))
theorem Ev.inv (h:Ev prog w g T n sc σ e (.int i)):Ev prog w g T n sc σ (.UnaryOp .Invert e pos) (.int (Builtin.bitNot i)):=fun A s av env he rm hg hc =>
 wpAny_UnaryOp (wp_to (h A s av env he rm hg hc) fun u s₁ h₁=>by obtain ⟨_,rfl⟩:=VD.i4 h₁.2; exact invert_int (Out.trans h₁.1 out_int))
theorem EvL.nil:EvL prog w g T n sc σ [] []:=⟨⟨⟩,fun A s av env pos he rm hg hc=>wpAny_items_nil ⟨.refl,.nil⟩⟩
theorem EvL.more (hst:∀ env,starEach (e::es) env=(false,eval e env)::starEach es env) (h:Ev prog w g T n sc σ e d) (hs:EvL prog w g T n sc σ es ds):EvL prog w g T n sc σ (e::es) (d::ds):=⟨⟨hst,hs.plain⟩,fun A s av env pos he rm hg hc =>
 wpAny_items_cons (wp_to (h A s av env he rm hg hc) fun v s₁ h₁=>wp_to (hs.run A s₁ av env pos he rm (h₁.1.gk hg) (hc.ext h₁.1 hg)) fun vs s₂ h₂=>⟨h₁.1.trans h₂.1,.cons (h₂.1.vd (h₁.1.gk hg) h₁.2) h₂.2⟩) (hst env)⟩
theorem fits {vs:List Value}(r:VDs av s.heap vs ds) (hz:ds.length≤lim):vs.length≤sizeLine:=r.length▸Nat.le_trans hz (by decide)
theorem Ev.list (h:EvL prog w g T n sc σ es ds) (hz:ds.length≤lim):Ev prog w g T n sc σ (.List es pos) (.lst ds):=fun A s av env he rm hg hc =>
 wpAny_List (wp_to (h.run A s av env pos he rm hg hc) fun vs s₁ h₁=>⟨fits h₁.2 hz,Out.trans h₁.1 (out_lst (n:=0) (tk:=s₁.toks) (hc.ext h₁.1 hg).avok h₁.2)⟩)
theorem Ev.tup {k:Nat}(h:EvL prog w g T n sc σ es ds) (hz:ds.length≤lim):Ev prog w g T n sc σ (.Tuple es k pos) (.tup ds):=fun A s av env he rm hg hc =>
 wpAny_Tuple (wp_to (h.run A s av env pos he rm hg hc) fun vs s₁ h₁=>⟨fits h₁.2 hz,Out.trans h₁.1 (out_tup (n:=0) (tk:=s₁.toks) (hc.ext h₁.1 hg).avok h₁.2)⟩)
theorem Ev.cmp (hl:Ev prog w g T (n+1) sc σ l a) (hr:Ev prog w g T (n+1) sc σ r b) (hm:behindInMarks cop r=false) (e:CmpV prog w g T cop a b c):Ev prog w g T (n+1) sc σ (.Compare l [cop] [r] pos) (.bool c):=fun A s av env he rm hg hc =>
 wpAny_Compare1 (hl.two hr he rm hg hc fun u v s₂ x _ hu hv=>wp_to (e A s₂ av u v (rm.le (Nat.le_add_left 1 n)) hu hv) fun _ _ h=>Out.trans x h) hm
theorem EvT.cmp (hl:Ev prog w g T (n+1) sc σ l a) (hr:Ev prog w g T (n+1) sc σ r b) (hm:behindInMarks cop r=false) (e:CmpV prog w g T cop a b c):EvT prog w g T (n+1) sc σ (.Compare l [cop] [r] pos) c:=fun A s av env he rm hg hc =>
 wpAny_isTrue_Compare1 (hl.two hr he rm hg hc fun u v s₂ x _ hu hv=>wp_to (e A s₂ av u v (rm.le (Nat.le_add_left 1 n)) hu hv) fun v' s₃ h=>VD.i3 h.2▸wpAny_truthy_bool ⟨rfl,x.trans h.1⟩) hm
theorem Ev.ite {t:Expr}{x y:Expr}(ht:EvT prog w g T n sc σ t c) (h:Ev prog w g T n sc σ (if c then x else y) d):Ev prog w g T n sc σ (.IfExp t x y pos) d:=fun A s av env he rm hg hc =>
 wpAny_IfExp (wp_to (ht A s av env he rm hg hc) fun c' s₁ h₁=>by
  obtain ⟨rfl,e₁⟩:=h₁
  cases c' <;> exact wp_to (h A s₁ av env he rm (e₁.gk hg) (hc.ext e₁ hg)) fun v s₂ h₂=>Out.trans e₁ h₂)
theorem EvT.not (h:EvT prog w g T n sc σ e c):EvT prog w g T n sc σ (.UnaryOp .Not e pos) (!c):=fun A s av env he rm hg hc =>
 wpAny_isTrue_Not (wp_to (h A s av env he rm hg hc) fun c' s₁ h₁=>⟨congrArg _ h₁.1,h₁.2⟩)
end
end
end
section
noncomputable def smallI (i:Int):Bool:=decide (-(2 ^ 62)≤i)&&decide (i<2 ^ 62)
noncomputable def pickIdx (n:Nat) (lo hi st:Option Int):List Nat:=sliceRange (sliceBounds lo hi st n).1 (sliceBounds lo hi st n).2.1 (sliceBounds lo hi st n).2.2
noncomputable def pickL (ds:List D) (lo hi st:Option Int):List D:=(pickIdx ds.length lo hi st).filterMap (ds[·]?)
noncomputable def pickS (x:Str) (lo hi st:Option Int):Str :=
 if (st.getD 1==1&&(Builtin.Str.strSliceIndices lo hi (st.getD 1) x.length).length==x.length)=true then x else ⟨((Builtin.Str.strSliceIndices lo hi (st.getD 1) x.length).filterMap (x.cps[·]?)).toArray⟩
section
variable (prog:Program) (w:World) (g:Heap) (T:Tabs)
noncomputable def TruV (d:D) (b:Bool):Prop:=∀ (A:Around) (s:Shared) (av:List Addr) (v:Value),VD av s.heap v d→wpAny (model prog w) A (truthy v) (fun c s'=>c=b∧Ext g T s s') NoE s
inductive GetOk (s:Shared) (o:Value):Prop
 | mk (T id:String) (hT:s.TypeIs o T) (hl:typeLookup (.type T) "__getitem__" = pure (some (.builtin id)))
structure ItemV (dd:D) (i:Int) (d:D):Prop where
 ok:∀ (s:Shared) (av:List Addr) (o:Value),VD av s.heap o dd→GetOk s o
 run:∀ (A:Around) (s:Shared) (av:List Addr) (o:Value) (t:Tok),VD av s.heap o dd→wpAny (model prog w) A (getItem o (.int i t)) (Out g T av s d) NoE s
end
section
variable {prog:Program}{w:World}{g:Heap}{T:Tabs}{n:Nat}{sc:Scope}{σ:Sto}{av:List Addr}{s s' s'':Shared}{A:Around}{ds:List D}{d dd:D}{b:Bool}{i:Int}{x:Str}{k:Nat}{o:Value}
theorem tru_bool:TruV prog w g T (.bool b) b:=fun A s av v hv=>by rw [hv.i3]; exact wpAny_truthy_bool ⟨rfl,.refl⟩
theorem tru_int:TruV prog w g T (.int i) (i != 0):=fun A s av v hv=>by obtain ⟨_,rfl⟩:=hv.i4; exact truthy_int ⟨rfl,.refl⟩
theorem lim63 {n:Nat}(h:n≤lim):(n:Int)<2 ^ 63:=Int.lt_of_le_of_lt (Int.ofNat_le.mpr h) (by decide)
theorem tru_str (h:x.length≤lim):TruV prog w g T (.str x) ((x.length:Int) != 0):=fun A s av v hv=>by obtain ⟨_,rfl⟩:=hv.i5; exact P.truthy_str (Int.not_le.mpr (lim63 h)) ⟨rfl,.tok _⟩
theorem tru_lst (h:ds.length≤lim):TruV prog w g T (.lst ds) (!ds.isEmpty):=fun A s av v hv=>by
 cases hv.i8 with | mk _ eo r=>exact wpAny_truthy_list ⟨_,eo,rfl,_,rfl⟩ (by rw [List.size_toArray,r.length]; exact lim63 h) ⟨by cases r <;> rfl,.tok _⟩
theorem VDs.filterMap {h:Heap}{vs:List Value}{ds:List D}(r:VDs av h vs ds):∀ ks:List Nat,VDs av h (ks.filterMap (vs[·]?)) (ks.filterMap (ds[·]?))
 | []=>.nil
 | k::ks=>by
  rw [List.filterMap_cons,List.filterMap_cons]
  cases e:vs[k]? with
  | none=>rw [List.getElem?_eq_none (r.length▸List.getElem?_eq_none_iff.mp e)]; exact VDs.filterMap r ks
  | some v =>
   obtain ⟨d,ed,hd⟩:=r.get k v e
   rw [ed]; exact .cons hd (VDs.filterMap r ks)
theorem small_lt (h:smallI i=true) : -(2 ^ 63)≤i∧i<2 ^ 63:=by
 have:=Bool.and_eq_true_iff.mp h
 exact ⟨Int.le_trans (by decide) (of_decide_eq_true this.1),Int.lt_trans (of_decide_eq_true this.2) (by decide)⟩
theorem get_lst (ho:VD av s.heap o (.lst ds)):GetOk s o:=by cases ho.i8 with | mk _ eo _=>exact ⟨"list",_,⟨_,eo,rfl⟩,F.slot_list_getitem.lookup⟩
theorem get_tup (ho:VD av s.heap o (.tup ds)):GetOk s o:=by cases ho.i7 with | mk _ eo _=>exact ⟨"tuple",_,⟨_,eo,rfl⟩,F.slot_tuple_getitem.lookup⟩
theorem get_str (ho:VD av s.heap o (.str x)):GetOk s o:=by obtain ⟨_,rfl⟩:=ho.i5; exact ⟨"str",_,typeIs_str _ _ _,F.slot_str_getitem.lookup⟩
theorem get_byt {x:Array UInt8}(ho:VD av s.heap o (.bytes x)):GetOk s o:=by obtain ⟨_,rfl⟩:=ho.i6; exact ⟨"bytes",_,typeIs_bytes _ _ _,FB.slot_bytes_getitem.lookup⟩
theorem it_nat (hk:k<2 ^ 62) (hd:ds[k]?=some d):ItemV prog w g T (.lst ds) (k:Int) d:=⟨fun _ _ _=>get_lst,fun A s av o t ho=>by
 cases ho.i8 with | mk _ eo r =>
 obtain ⟨v,hv,rv⟩:=r.get' k d hd
 exact wpAny_getItem_list ⟨_,eo,rfl,_,rfl⟩ (Int.natCast_nonneg k) (Int.ofNat_lt.mpr (Nat.lt_trans hk (by decide))) (x:=v) (by simpa using hv) ⟨.refl,rv⟩⟩
theorem it_neg (h0:1≤k) (hk:k≤ds.length) (hz:k<2 ^ 62) (hd:ds[ds.length - k]?=some d):ItemV prog w g T (.lst ds) (-(k:Int)) d:=⟨fun _ _ _=>get_lst,fun A s av o t ho=>by
 cases ho.i8 with | mk _ eo r =>
 obtain ⟨v,hv,rv⟩:=r.get' _ d hd
 have hl:=r.length
 refine wpAny_getItem_list_neg ⟨_,eo,rfl,_,rfl⟩ (by lia) (by rw [List.size_toArray]; lia) (by lia) (x:=v) ?_ ⟨.refl,rv⟩
 rw [List.size_toArray,hl,show (-(k:Int)+(ds.length:Int)).toNat=ds.length - k by lia]; simpa using hv⟩
theorem it_tup (hs:smallI i=true) (hk:seqIndex? i ds.length=some k) (hd:ds[k]?=some d):ItemV prog w g T (.tup ds) i d:=⟨fun _ _ _=>get_tup,fun A s av o t ho=>by
 cases ho.i7 with | mk _ eo r =>
 obtain ⟨v,hv,rv⟩:=r.get' k d hd
 exact P.getItem_tuple eo (small_lt hs).1 (small_lt hs).2 (by rw [List.size_toArray,r.length]; exact hk) (y:=v) (by simpa using hv) ⟨.refl,rv⟩⟩
theorem it_str {c:Nat}(hs:smallI i=true) (hc:(seqIndex? i x.length).bind (x.cps[·]?)=some c):ItemV prog w g T (.str x) i (.str ⟨#[c]⟩):=⟨fun _ _ _=>get_str,fun A s av o t ho=>by
 obtain ⟨_,rfl⟩:=ho.i5
 exact P.getItem_str (by rw [Bool.or_eq_false_iff,decide_eq_false_iff_not,decide_eq_false_iff_not]; exact ⟨Int.not_lt.mpr (small_lt hs).1,Int.not_le.mpr (small_lt hs).2⟩) hc out_str⟩
noncomputable abbrev NoSl (sl:Expr):Prop:=∀ o i,subscripted sl false o i=operate [o,i] (getItem o i)
theorem Ev.item {ve se:Expr}{pos:Pos}(hv:Ev prog w g T n sc σ ve dd) (hs:Ev prog w g T n sc σ se (.int i)) (hn:NoSl se) (e:ItemV prog w g T dd i d):Ev prog w g T n sc σ (.Subscript ve se pos) d:=fun A s av env he rm hg hc =>
 Subscript_ (hv.two hs he rm hg hc fun o iv s₂ x _ ho hi=>by
  obtain ⟨t,rfl⟩:=hi.i4
  cases e.ok s₂ av o ho with | mk Ty id hT hl=>exact tail_any hT hl (wp_to (e.run A s₂ av o t ho) fun _ _ h=>Out.trans x h) (hn _ _))
end
end
section
section
variable (prog:Program) (w:World) (g:Heap) (T:Tabs)
inductive EvP (n:Nat) (sc:Scope) (σ:Sto):Option Expr→Option Int→Prop
 | none':EvP n sc σ none none
 | some' {e:Expr}{i:Int}:Ev prog w g T n sc σ e (.int i)→EvP n sc σ (some e) (some i)
inductive PartV (oi:Option Int) (s:Shared):Value→Shared→Prop
 | mk {s':Shared}(t:Option (Int×Tok)) (e:t.map (·.1)=oi) (x:Ext g T s s'):PartV oi s (partValue t) s'
structure SliV (dd:D) (l u k:Option Int) (d:D):Prop where
 ok:∀ (s:Shared) (av:List Addr) (o:Value),VD av s.heap o dd→GetOk s o
 run:∀ (A:Around) (s:Shared) (av:List Addr) (o:Value) (a:Addr) (p q r:Option (Int×Tok)),AvOk av s.heap→VD av s.heap o dd→s.heap.IsSlice a p q r→p.map (·.1)=l→q.map (·.1)=u→r.map (·.1)=k→wpAny (model prog w) A (getItem o (.ref a)) (Out g T av s d) NoE s
end
section
variable {prog:Program}{w:World}{g:Heap}{T:Tabs}{n:Nat}{sc:Scope}{σ:Sto}{av:List Addr}{s s' s'':Shared}{A:Around}{x:Str}{ds:List D}{d dd:D}{l u k:Option Int}
theorem wp_part {oe:Option Expr}{oi:Option Int}{env:Env}(h:EvP prog w g T n sc σ oe oi) (he:env.scope=sc) (rm:Rm n A) (hg:GK g T s) (hc:EC av env σ s.heap):wpAny (model prog w) A (evalPart oe env) (PartV g T oi s) NoE s:=by
 cases h with
 | none'=>exact wpAny_pure (.mk none rfl .refl)
 | some' h=>exact wp_to (h A s av env he rm hg hc) fun v s₁ h₁=>by obtain ⟨t,rfl⟩:=VD.i4 h₁.2; exact .mk (some (_,t)) rfl h₁.1
theorem part_is (t:Option (Int×Tok)):IsPart (partValue t) (t.map (·.1)):=by
 cases t with
 | none=>exact .none
 | some p=>exact .int p.1 p.2
theorem slicePick_eq (vs:List Value) (lo hi st:Option Int):slicePick vs.toArray lo hi st=((pickIdx vs.length lo hi st).filterMap (vs[·]?)).toArray:=by simp [slicePick,pickIdx]
theorem slice_lst (hs:(k==some 0)=false) (h:ds.length≤lim):SliV prog w g T (.lst ds) l u k (.lst (pickL ds l u k)):=⟨fun _ _ _=>get_lst,fun A s av o a p q r hav ho hs' e1 e2 e3=>by
 subst e1 e2 e3
 cases ho.i8 with | mk _ eo x =>
 refine wpAny_getItem_list_slice ⟨_,eo,rfl,_,rfl⟩ hs' (part_is p) (part_is q) (part_is r) (by simpa using hs) ?_ (fits x h)
 rw [slicePick_eq,x.length]
 exact out_lst (g:=g) (T:=T) (n:=0) (tk:=s.toks) hav (x.filterMap _)⟩
theorem made_str {y:Str}{t:Tok}{c:Bool}(h:(if c=true then x else y).length≤lim):(if c=true then Made.val (.str x t) else Made.str y).post (Out g T av s (.str (if c=true then x else y))) s:=by
 cases c with
 | true=>exact ⟨.refl,.str x t⟩
 | false=>exact ⟨Nat.le_trans h (by decide),out_str⟩
theorem slice_str (hs:(k==some 0)=false) (h:(pickS x l u k).length≤lim):SliV prog w g T (.str x) l u k (.str (pickS x l u k)):=⟨fun _ _ _=>get_str,fun A s av o a p q r hav ho hs' e1 e2 e3=>by
 subst e1 e2 e3
 obtain ⟨t,rfl⟩:=ho.i5
 exact wpAny_getItem_str_slice hs' (by cases r with
  | none=>rfl
  | some p=>exact hs) (made_str h)⟩
theorem slice_bytes {b:Array UInt8}(h:(KBy.picked b l u).size≤lim):SliV prog w g T (.bytes b) l u none (.bytes (KBy.picked b l u)):=⟨fun _ _ _=>get_byt,fun A s av o a p q r hav ho hs' e1 e2 e3=>by
 subst e1 e2
 obtain ⟨t,rfl⟩:=ho.i6
 cases r with
 | none=>exact getItem_meets (typeIs_bytes _ _ _) (by decide) FB.slot_bytes_getitem FB.entry_bytes_getitem (FB.args_bytes_getitem_2 _ _) (KBc.meets_slice2 b t _ (part_is p) (part_is q)) ⟨hs',Nat.le_trans h (by decide),fun t' k=>out_bytes⟩
 | some _=>cases e3⟩
theorem subscripted_slice (lo hi st:Option Expr) (p:Pos) (o i:Value):∃ ops,subscripted (.Slice lo hi st p) false o i=operate ops (getItem o i):=by cases st <;> exact ⟨_,rfl⟩
theorem Ev.slice {ve:Expr}{lo hi st:Option Expr}{p pos:Pos}(hv:Ev prog w g T n sc σ ve dd) (hl:EvP prog w g T n sc σ lo l) (hu:EvP prog w g T n sc σ hi u) (hk:EvP prog w g T n sc σ st k) (e:SliV prog w g T dd l u k d) :
  Ev prog w g T n sc σ (.Subscript ve (.Slice lo hi st p) pos) d:=fun A s av env he rm hg hc=>by
 refine Subscript_ (wp_to (hv A s av env he rm hg hc) fun o s₁ h₁=>wpAny_Slice ?_)
 have g₁:=h₁.1.gk hg
 have c₁:=hc.ext h₁.1 hg
 refine wp_to (wp_part hl he rm g₁ c₁) fun v₁ s₂ h₂=>?_
 cases h₂ with | mk t₁ e₁ x =>
 refine wp_to (wp_part hu he rm (x.gk g₁) (c₁.ext x g₁)) fun v₂ s₃ h₃=>?_
 cases h₃ with | mk t₂ e₂ y =>
 have x:=x.trans y
 refine wp_to (wp_part hk he rm (x.gk g₁) (c₁.ext x g₁)) fun v₃ s₄ h₄=>?_
 cases h₄ with | mk t₃ e₃ y =>
 have x:=(x.trans y).trans (.push { cls:=.type "slice",data:=.fields #[partValue t₁,partValue t₂,partValue t₃] })
 have ho:=x.vd g₁ h₁.2
 cases e.ok _ _ _ ho with | mk Ty id hT hl' =>
 obtain ⟨ops,hs⟩:=subscripted_slice lo hi st p o (.ref s₄.heap.objs.size)
 exact tail_any hT hl' (wp_to (e.run A _ av o _ t₁ t₂ t₃ (c₁.avok.ext x g₁) ho ⟨_,Heap.get?_push_size _ rfl,rfl,rfl⟩ e₁ e₂ e₃) fun v s₆ h₆=>Out.trans (h₁.1.trans x) h₆) hs
end
end
section
theorem Plain.any {env:Env}{pos:Pos}:∀ {es:List Expr},Plain es→(backTo pos (starEach es env)).any (·.1)=false
 | [],_=>rfl
 | e::es,h=>by rw [h.1 env]; exact Plain.any h.2
theorem Plain.all {env:Env}{pos:Pos}:∀ {es:List Expr},Plain es→(backTo pos (starEach es env)).all (fun x => !x.1)=true
 | [],_=>rfl
 | e::es,h=>by rw [h.1 env]; exact Plain.all h.2
section
variable (prog:Program) (w:World) (g:Heap) (T:Tabs)
inductive KindV (s:Shared) (ov:Value) (ty:String):Prop
 | mk (hT:s.TypeIs ov ty) (hR:∀ a,ov=.ref a→∃ ob,s.heap.get? a=some ob∧ob.dict=none)
inductive MtV (n:Nat) (m:Str) (d0:D) (ds:List D) (d:D):Prop
 | mk (ty id:String) (pa:PlainAttrs ty) (slot:Slot ty m id) (md:typeOf (.builtin id)=pure (.type "method_descriptor")) (recv:∀ (s:Shared) (av:List Addr) (ov:Value),VD av s.heap ov d0→KindV s ov ty)
  (run:∀ (A:Around) (s:Shared) (av:List Addr) (ov:Value) (vs:List Value),Rm n A→GK g T s→AvOk av s.heap→VD av s.heap ov d0→VDs av s.heap vs ds→wpAny (model prog w) A (call (.builtin id) (ov::vs)) (Out g T av s d) NoE s)
end
section
variable {prog:Program}{w:World}{g:Heap}{T:Tabs}{n:Nat}{sc:Scope}{σ:Sto}{av:List Addr}{s:Shared}{ov:Value}{e o:Expr}{es:List Expr}{d d0:D}{ds:List D}{m f:Str}{pos p apos:Pos}
theorem kind_str {x:Str}(r:VD av s.heap ov (.str x)):KindV s ov "str" := by obtain ⟨_,rfl⟩:=r.i5; exact ⟨typeIs_str _ _ _,fun a h=>nomatch h⟩
theorem kind_int {i:Int}(r:VD av s.heap ov (.int i)):KindV s ov "int" := by obtain ⟨_,rfl⟩:=r.i4; exact ⟨typeIs_int _ _ _,fun a h=>nomatch h⟩
theorem kind_byt {x:Array UInt8}(r:VD av s.heap ov (.bytes x)):KindV s ov "bytes" := by obtain ⟨_,rfl⟩:=r.i6; exact ⟨typeIs_bytes _ _ _,fun a h=>nomatch h⟩
theorem kind_lst (r:VD av s.heap ov (.lst ds)):KindV s ov "list" := by cases r.i8 with | mk _ e _=>exact ⟨⟨_,e,rfl⟩,fun a h=>by cases h; exact ⟨_,e,rfl⟩⟩
theorem ClV.mono {k:Nat}(h:ClV prog w g T n f ds d) (hk:n≤k):ClV prog w g T k f ds d:=h.rec fun fv hg c run=>.mk fv hg c fun A s av vs rm=>run A s av vs (rm.le hk)
theorem Ev.call (hx:sc.names.lookup f=some .globalImplicit) (ha:EvL prog w g T n sc σ (e::es) ds) (h:ClV prog w g T n f ds d):Ev prog w g T n sc σ (.Call (.Name f p) (e::es) [] pos) d:=fun A s av env he rm hg hc=>by
 cases h with | mk fv hgl c run =>
 refine wpAny_Call_NameR (wp_glob hc.kind hc.glob hc.blt (by rw [Env.kindOf,he]; exact hx) hg.keep hgl ?_)
 have go:=wp_to (ha.run A s av env pos he rm hg hc) (Q':=fun vs s₁=>GK g T s₁∧wpAny (model prog w) A (PySem.call fv vs) (Out g T av s d) NoE s₁) fun vs s₁ h₁=>⟨h₁.1.gk hg,wp_to (run A s₁ av vs rm (h₁.1.gk hg) (hc.ext h₁.1 hg).avok h₁.2) fun v s₂ h₂=>Out.trans h₁.1 h₂⟩
 cases c with
 | bi id=>exact callWith_builtin1 (wp_to go fun vs s₁ h=>h.2) (ha.plain.1 _) ha.plain.2.any
 | ty t=>exact PyProof.Rows.callWith_type1 (wp_to go fun vs s₁ h=>h.2) (ha.plain.1 _) ha.plain.2.any
 | fn ho hdat=>exact callWith_def hdat (wp_to go fun vs s₁ h=>⟨h.1.keep _ _ ho,h.2⟩) (ha.plain.1 _)
theorem Ev.meth0 (hb:∀ env,attributeBase o m env (eval o env)=eval o env) (hln:(apos.endLine==pos.line)=true) (ho:Ev prog w g T n sc σ o d0) (h:MtV prog w g T n m d0 [] d):Ev prog w g T n sc σ (.Call (.Attribute o m apos) [] [] pos) d:=fun A s av env he rm hg hc=>by
 cases h with | mk ty id pa slot md recv run =>
 refine wpAny_Call_method_late (hb env) rfl hln rfl (wp_to (ho A s av env he rm hg hc) fun ov s₁ h₁=>?_)
 cases recv _ _ _ h₁.2 with | mk hT hR =>
 exact ⟨ty,id,pa,slot,md,hT,hR,callWith_builtin rfl (PySem.evalArgs_none (wp_to (run A s₁ av ov [] rm (h₁.1.gk hg) (hc.ext h₁.1 hg).avok h₁.2 .nil) fun v s₂ h₂=>Out.trans h₁.1 h₂))⟩
theorem Ev.methG (hb:∀ env,attributeBase o m env (eval o env)=eval o env) (hln:(apos.endLine==pos.line)=true) (hlen:es.length<20) (ho:Ev prog w g T n sc σ o d0) (ha:EvL prog w g T n sc σ (e::es) ds) (h:MtV prog w g T n m d0 ds d) :
  Ev prog w g T n sc σ (.Call (.Attribute o m apos) (e::es) [] pos) d:=fun A s av env he rm hg hc=>by
 cases h with | mk ty id pa slot md recv run =>
 refine wpAny_Call_method_late (hb env) (Bool.and_eq_true_iff.mpr ⟨Bool.and_eq_true_iff.mpr ⟨ha.plain.all,rfl⟩,decide_eq_true (Nat.lt_of_lt_of_le (Nat.succ_lt_succ hlen) (by decide))⟩) hln rfl (wp_to (ho A s av env he rm hg hc) fun ov s₁ h₁=>?_)
 cases recv _ _ _ h₁.2 with | mk hT hR =>
 have g₁:=h₁.1.gk hg
 have c₁:=hc.ext h₁.1 hg
 exact ⟨ty,id,pa,slot,md,hT,hR,callWith_method1 (wp_to (ha.run A s₁ av env pos he rm g₁ c₁) fun vs s₂ h₂=>wp_to (run A s₂ av ov vs rm (h₂.1.gk g₁) (c₁.avok.ext h₂.1 g₁) (h₂.1.vd g₁ h₁.2) h₂.2) fun v s₃ h₃=>Out.trans (h₁.1.trans h₂.1) h₃) (ha.plain.1 _) ha.plain.2.any⟩
end
end
section
structure Ow where
 l:List (Str×Addr)
 c:List Str
noncomputable def Ow.adr (ow:Ow):List Addr:=ow.l.map (·.2)
noncomputable def Ow.drop (x:Str) (ow:Ow):Ow:=⟨ow.l.filter fun p => !(p.1==x),ow.c⟩
noncomputable def Ow.add (x:Str) (a:Addr) (ow:Ow):Ow:=⟨(x,a)::(ow.drop x).l,ow.c⟩
noncomputable def Wr (env:Env) (ow:Ow) (b:Addr):Prop:=b=env.locals∨(∃ x∈ow.c,env.kindOf x=some .cell∧env.cells.lookup x=some b)∨b∈ow.adr
structure Mv (g:Heap) (T:Tabs) (W:Addr→Prop) (s s':Shared):Prop where
 dr:s'.drawn=s.drawn
 os:s'.os=s.os
 keep:∀ b o,s.heap.get? b=some o→¬ W b→Off T b→s'.heap.get? b=some o
 gk:GK g T s→GK g T s'
noncomputable def NoCode (o:Obj):Prop:=(∀ vs q t,o.data=.fields vs→vs[1]?≠some (.str q t))∧NT o
section
variable {g:Heap}{T:Tabs}{s s' s'':Shared}{W W':Addr→Prop}{b:Addr}{o:Obj}
theorem Ext.mv (x:Ext g T s s'):Mv g T W s s':=⟨x.dr,x.os,fun b o e _ f=>x.keep b o e f,x.gk⟩
theorem Mv.refl:Mv g T W s s:=Ext.mv .refl
theorem Mv.trans (x:Mv g T W s s') (y:Mv g T W' s' s'') (h:∀ b,W' b→W b∨s.heap.get? b=none):Mv g T W s s'' :=
 ⟨y.dr.trans x.dr,y.os.trans x.os,fun b o e n f=>y.keep b o (x.keep b o e n f) (fun hw=>(h b hw).elim n fun q=>nos q e) f,fun q=>y.gk (x.gk q)⟩
theorem Mv.sub (x:Mv g T W' s s') (h:∀ b,W' b→W b∨s.heap.get? b=none):Mv g T W s s':=Mv.trans .refl x h
theorem Mv.ext (x:Mv g T W s s') (h:∀ b,W b→s.heap.get? b=none):Ext g T s s':=⟨x.dr,x.os,fun b o e f=>x.keep b o e (fun hw=>nos (h b hw) e) f,x.gk⟩
theorem Mv.get (x:Mv g T W s s') (e:s.heap.get? b=some o) (n:¬ W b) (f:Off T b):s'.heap.get? b=some o:=x.keep b o e n f
theorem Mv.get' (x:Mv g T W s s') (q:GK g T s) (e:s.heap.get? b=some o) (n:¬ W b) (nt:NT o):s'.heap.get? b=some o:=x.keep b o e n (q.away e nt)
theorem Mv.of {h':Heap}{tk:Nat}(k:∀ b o,s.heap.get? b=some o→¬ W b→h'.get? b=some o)
  (hw:∀ b,W b→g.get? b=none∧∀ o,s.heap.get? b=some o→NoCode o):Mv g T W s { s with heap:=h',toks:=tk }:=by
 refine ⟨rfl,rfl,fun b o e n _=>k b o e n,fun q=>⟨fun b o e=>k b o (q.keep b o e) fun w=>nos (hw b w).1 e,fun p hp=>?_,q.off,q.bare⟩⟩
 obtain ⟨ps,e,t,c⟩:=q.tabs p hp
 refine ⟨ps,k _ _ e fun w=>((hw _ w).2 _ e).2 ps rfl,t,fun pos cv hc=>?_⟩
 obtain ⟨c,o,vs,u,e1,e2,e3,e4⟩:=c pos cv hc
 exact ⟨c,o,vs,u,e1,k _ _ e2 fun w=>((hw _ w).2 _ e2).1 vs _ _ e3 e4,e3,e4⟩
theorem Mv.one {a:Addr}{h':Heap}{tk:Nat}(hs:Heap.SameBut a s.heap h') (ho:s.heap.get? a=some o) (hn:NoCode o) (hg:g.get? a=none) (hw:W a):Mv g T W s { s with heap:=h',toks:=tk } :=
 Mv.sub (W':=fun b=>b=a) (Mv.of (fun b o e n=>(hs.2 b n).trans e) fun b hb=>hb▸⟨hg,fun o' e=>sinj ho e▸hn⟩) fun b hb=>.inl (hb▸hw)
theorem Mv.seq (x:Mv g T W s s') (q:GK g T s) {av:List Addr}(h:∀ b o,s.heap.get? b=some o→SeqObj o→W b→b∈av):KeepSeq av s.heap s'.heap:=fun b o e ho hn=>x.get' q e (fun w=>hn (h b o e ho w)) ho.nt
end
section
variable {h:Heap}{a:Addr}{m m':Str→Option Value}{v v':Option Value}{o:Obj}{env:Env}{x:Str}
theorem ns_noc (hn:h.Ns a m) (e:h.get? a=some o):NoCode o:=by
 obtain ⟨o',es,ep,e',hd,_⟩:=hn
 cases sinj e e'
 exact ⟨fun vs q t h=>(disc tgB (hd.symm.trans h) rfl).elim,by rintro ps rfl; cases hd⟩
theorem ns_nsq (hn:h.Ns a m) (e:h.get? a=some o) (ho:SeqObj o):False:=by
 obtain ⟨o',es,ep,e',hd,_⟩:=hn
 cases sinj e e'
 obtain ⟨vs,n,rfl | rfl⟩:=ho <;> cases hd
theorem cell_noc (hn:h.IsCell a v) (e:h.get? a=some o):NoCode o:=by
 obtain ⟨o',e',hd⟩:=hn
 cases sinj e e'
 exact ⟨fun vs q t h=>(disc tgB (hd.symm.trans h) rfl).elim,by rintro ps rfl; cases hd⟩
theorem cell_nsq (hn:h.IsCell a v) (e:h.get? a=some o) (ho:SeqObj o):False:=by
 obtain ⟨o',e',hd⟩:=hn
 cases sinj e e'
 obtain ⟨vs,n,rfl | rfl⟩:=ho <;> cases hd
theorem ns_cell (hn:h.Ns a m) (hc:h.IsCell a v):False:=by
 obtain ⟨o',es,ep,e',hd,_⟩:=hn
 obtain ⟨o,e,hd'⟩:=hc
 cases sinj e e'
 exact disc tgB (hd.symm.trans hd') rfl
theorem lst_data (vs:List Value) (n:Nat):NoCode (lstO vs n):=⟨fun vs q t h=>(disc tgB h rfl).elim,nt_lst _ _⟩
theorem ns_uniq (x:h.Ns a m) (y:h.Ns a m') (z:Str):m z=m' z:=by
 obtain ⟨o,es,ep,e,hd,_,hm⟩:=x
 obtain ⟨o',es',ep',e',hd',_,hm'⟩:=y
 cases sinj e e'
 cases hd.symm.trans hd'
 rw [← hm, ← hm']
theorem cell_uniq (x:h.IsCell a v) (y:h.IsCell a v'):v=v':=by
 obtain ⟨o,e,hd⟩:=x
 obtain ⟨o',e',hd'⟩:=y
 cases sinj e e'
 cases hd.symm.trans hd'
 rfl
theorem Loads.uniq {v v':Value}(a:Loads env h x v) (b:Loads env h x v'):v=v':=by
 cases a with
 | loc _ k m n hv=>cases b with
  | loc _ k' m' n' hv'=>exact sinj ((ns_uniq n n' x).symm.trans hv) hv'
  | cel _ k' c' hc' hv'=>rw [k] at k'; rcases k' with k' | k' <;> cases k'
 | cel _ k c hc hv=>cases b with
  | loc _ k' m' n' hv'=>rw [k'] at k; rcases k with k | k <;> cases k
  | cel _ k' c' hc' hv'=>cases sinj hc hc'; exact Option.some.inj (cell_uniq hv hv')
end
structure Fm (g:Heap) (T:Tabs) (av:List Addr) (ow:Ow) (env:Env) (σ:Sto) (s:Shared):Prop where
 gk:GK g T s
 ec:EC (ow.adr++av) env σ s.heap
 ns:∃ m,s.heap.Ns env.locals m
 own:∀ x c,x∈ow.c→env.kindOf x=some .cell→env.cells.lookup x=some c→∃ v,s.heap.IsCell c v
 inj:∀ x y c,x∈ow.c→env.cells.lookup x=some c→env.cells.lookup y=some c→x=y
 off:∀ b,Wr env ow b→g.get? b=none
 reg:∀ x ds,σ.lookup x=some (.own ds)→∃ a,(x,a)∈ow.l∧Loads env s.heap x (.ref a)
 nd:ow.adr.Nodup
 apt:∀ a∈ow.adr,a∉av
 isl:∀ a∈ow.adr,∃ vs n,s.heap.get? a=some (lstO vs n)
section
variable {g:Heap}{T:Tabs}{s s' s'':Shared}{av:List Addr}{ow:Ow}{env:Env}{σ:Sto}{x:Str}{a b:Addr}{o:Obj}
theorem Fm.ext (F:Fm g T av ow env σ s) (x:Ext g T s s'):Fm g T av ow env σ s' :=
 ⟨x.gk F.gk,F.ec.ext x F.gk,F.ns.imp fun _=>x.ns F.gk,fun y c m k h=>(F.own y c m k h).imp fun _=>x.cell F.gk,F.inj,F.off,fun y ds h=>(F.reg y ds h).imp fun _ p=>⟨p.1,p.2.ext x F.gk⟩,F.nd,F.apt,
  fun a ha=>(F.isl a ha).imp fun _ p=>p.imp fun _ e=>x.get' F.gk e (nt_lst _ _)⟩
theorem Fm.wlst (F:Fm g T av ow env σ s) (e:s.heap.get? b=some o) (ho:SeqObj o) (hw:Wr env ow b):b∈ow.adr:=by
 rcases hw with rfl | ⟨x,hm,k,hx⟩ | hb
 ·exact F.ns.elim fun m n=>(ns_nsq n e ho).elim
 ·exact (F.own x b hm k hx).elim fun v hv=>(cell_nsq hv e ho).elim
 ·exact hb
theorem Fm.wseq (F:Fm g T av ow env σ s):∀ b o,s.heap.get? b=some o→SeqObj o→Wr env ow b→b∈ow.adr++av:=fun _ _ e ho hw=>List.mem_append_left _ (F.wlst e ho hw)
theorem Fm.wcode (F:Fm g T av ow env σ s):∀ b,Wr env ow b→g.get? b=none∧∀ o,s.heap.get? b=some o→NoCode o:=fun b hb=>⟨F.off b hb,fun o e=>by
 rcases hb with rfl | ⟨x,hm,k,hx⟩ | hb
 ·exact F.ns.elim fun m n=>ns_noc n e
 ·exact (F.own x b hm k hx).elim fun v hv=>cell_noc hv e
 ·obtain ⟨vs,n,e'⟩:=F.isl b hb
  exact sinj e' e▸lst_data vs n⟩
theorem Fm.weak {σ':Sto}(F:Fm g T av ow env σ s) (h:∀ x sl,σ'.lookup x=some sl→σ.lookup x=some sl):Fm g T av ow env σ' s :=
 { F with ec:={ F.ec with vars:=fun x sl e=>F.ec.vars x sl (h x sl e) },reg:=fun x ds e=>F.reg x ds (h x _ e) }
theorem Ow.adr_drop (h:a∈(Ow.drop x ow).adr):a∈ow.adr:=((List.filter_sublist).map _).subset h
theorem Ow.nd_drop (h:ow.adr.Nodup):(Ow.drop x ow).adr.Nodup:=h.sublist ((List.filter_sublist).map _)
theorem Ow.mem_drop {y:Str}(h:(y,a)∈ow.l) (n:y≠x):(y,a)∈(Ow.drop x ow).l:=List.mem_filter.mpr ⟨h,by simpa using n⟩
theorem nodup_snd {x y:Str}:∀ {l:List (Str×Addr)},(l.map (·.2)).Nodup→(x,a)∈l→(y,a)∈l→x=y
 | q::l,hn,h,h1=>by
  rw [List.map_cons,List.nodup_cons] at hn
  rcases List.mem_cons.mp h with e | e <;> rcases List.mem_cons.mp h1 with e1 | e1
  ·exact congrArg Prod.fst (e.trans e1.symm)
  ·exact (hn.1 (e▸List.mem_map.mpr ⟨_,e1,rfl⟩)).elim
  ·exact (hn.1 (e1▸List.mem_map.mpr ⟨_,e,rfl⟩)).elim
  ·exact nodup_snd hn.2 e e1
theorem Ow.drop_out (hn:ow.adr.Nodup) (h:(x,a)∈ow.l):a∉(Ow.drop x ow).adr:=fun hm=>by
 obtain ⟨⟨y,b⟩,hp,e⟩:=List.mem_map.mp hm
 obtain ⟨h1,h2⟩:=List.mem_filter.mp hp
 cases e
 rw [nodup_snd hn h1 h,beq_self_eq_true] at h2
 exact nomatch h2
theorem Wr.drop (h:Wr env (Ow.drop x ow) b):Wr env ow b:=h.imp id (Or.imp id Ow.adr_drop)
end
end
section
structure Canst (env:Env) (on:List Str) (x:Str):Prop where
 ok:okName x=true
 at_:env.kindOf x=some .local∨(env.kindOf x=some .cell∧x∈on∧∃ c,env.cells.lookup x=some c)
theorem lookup_cons' {α:Type}{x y:Str}{sl:α}{σ:List (Str×α)}:List.lookup y ((x,sl)::σ)=if y=x then some sl else σ.lookup y:=by
 rw [List.lookup_cons]
 by_cases h:y=x
 ·rw [h,beq_self_eq_true,if_pos rfl]
 ·rw [beq_eq_false_iff_ne.mpr h,if_neg h]
theorem lookup_hit {α:Type}{x y:Str}{sl sl':α}{σ:List (Str×α)}(e:List.lookup y ((x,sl)::σ)=some sl'):(y=x∧sl=sl')∨(y≠x∧σ.lookup y=some sl'):=by
 rw [lookup_cons'] at e
 by_cases h:y=x
 ·rw [if_pos h] at e; exact .inl ⟨h,Option.some.inj e⟩
 ·rw [if_neg h] at e; exact .inr ⟨h,e⟩
inductive Stored (env:Env) (ow:Ow) (x:Str) (v:Value) (h:Heap) (a:Addr) (h':Heap):Prop
 | loc (e:a=env.locals) (k:env.kindOf x=some .local) (f:∀ m,h.Ns env.locals m→h'.Ns env.locals (fun y=>if y=x then some v else m y))
 | cel (k:env.kindOf x=some .cell) (i:x∈ow.c) (c:env.cells.lookup x=some a) (n:h'.IsCell a (some v))
section
variable {prog:Program}{w:World}{A:Around}{g:Heap}{T:Tabs}{s s' s'':Shared}{av:List Addr}{ow ow':Ow}{env:Env}{σ:Sto}{x y:Str}{v u:Value}{sl:Sl}{a b c:Addr}{h':Heap}{tk:Nat}
theorem Fm.wr_ex (F:Fm g T av ow env σ s) (hw:Wr env ow a):∃ o,s.heap.get? a=some o:=by
 rcases hw with rfl | ⟨x,i,k,c⟩ | hb
 ·exact F.ns.elim fun m n=>n.imp fun o n=>n.elim fun _ n=>n.elim fun _ n=>n.1
 ·exact (F.own x a i k c).elim fun u n=>n.imp fun o e=>e.1
 ·exact (F.isl a hb).elim fun vs n=>n.elim fun _ e=>⟨_,e⟩
theorem Fm.wrote (F:Fm g T av ow env σ s) (hs:Heap.SameBut a s.heap h') (hw:Wr env ow a):Mv g T (Wr env ow) s { s with heap:=h',toks:=tk } :=
 (F.wr_ex hw).elim fun o ho=>Mv.one hs ho ((F.wcode a hw).2 o ho) (F.off a hw) hw
theorem Stored.wr (S:Stored env ow x v s.heap a h'):Wr env ow a:=S.rec (fun e _ _=>.inl e) fun k i c _=>.inr (.inl ⟨x,i,k,c⟩)
section
variable (F:Fm g T av ow env σ s) (S:Stored env ow x v s.heap a h') (hs:Heap.SameBut a s.heap h')
include F S
theorem Stored.nsq {o:Obj}(e:s.heap.get? a=some o) (ho:SeqObj o):False:=by
 cases S with
 | loc q=>exact F.ns.elim fun m n=>ns_nsq n (q▸e) ho
 | cel k i c _=>exact (F.own x a i k c).elim fun u n=>cell_nsq n e ho
theorem Stored.nt:∃ o,h'.get? a=some o∧NT o:=by
 cases S with
 | loc q _ f=>exact F.ns.elim fun m n=>let n:=f m n; n.imp fun o z=>z.elim fun _ z=>z.elim fun _ z=>⟨q▸z.1,(ns_noc n z.1).2⟩
 | cel _ _ _ n=>exact n.imp fun o z=>⟨z.1,(cell_noc n z.1).2⟩
include hs
theorem Stored.seq (av':List Addr):KeepSeq av' s.heap h':=fun b _ e ho _=>(hs.2 b fun q=>S.nsq F (q▸e) ho).trans e
theorem Stored.lst (e:∃ vs n,s.heap.get? b=some (lstO vs n)):∃ vs n,h'.get? b=some (lstO vs n):=e.imp fun vs e=>e.imp fun n e=>S.seq F hs [] b _ e ⟨_,_,.inr rfl⟩ nofun
theorem Stored.nss {m:Str→Option Value}(n:s.heap.Ns env.locals m):∃ m',h'.Ns env.locals m'∧∀ y,y≠x→m' y=m y:=by
 cases S with
 | loc _ _ f=>exact ⟨_,f m n,fun y q=>if_neg q⟩
 | cel k i c _=>exact ⟨m,n.sameBut hs fun q=>(F.own x a i k c).elim fun _ hu=>ns_cell (q▸n) hu,fun _ _=>rfl⟩
theorem Stored.cell {u:Option Value}(hu:s.heap.IsCell c u) (hy:env.cells.lookup y=some c) (ne:y≠x):h'.IsCell c u:=hu.sameBut hs fun q=>by
 cases S with
 | loc e _ _=>exact F.ns.elim fun m n=>ns_cell n (e▸q▸hu)
 | cel k i c' _=>exact ne (F.inj x y _ i c' (q▸hy)).symm
theorem Stored.cells {u:Option Value}(hu:s.heap.IsCell c u):∃ u,h'.IsCell c u:=by
 by_cases q:c=a
 ·cases S with
  | loc e _ _=>exact F.ns.elim fun m n=>(ns_cell n (e▸q▸hu)).elim
  | cel _ _ _ n=>exact ⟨_,q▸n⟩
 ·exact ⟨u,hu.sameBut hs q⟩
theorem Stored.other (l:Loads env s.heap y u) (ne:y≠x):Loads env h' y u:=by
 cases l with
 | loc o k m n e=>exact (S.nss F hs n).elim fun m' p=>.loc o k m' p.1 ((p.2 y ne).trans e)
 | cel o k c e n=>exact .cel o k c e (S.cell F hs n e ne)
theorem Stored.slot {av':List Addr}(r:SlotV av' s.heap u sl):SlotV av' h' u sl:=by
 cases sl with
 | val d=>exact VD.keep (S.seq F hs _) r
 | own ds=>cases r with | mk m e r=>exact ⟨m,S.seq F hs [] _ _ e ⟨_,_,.inr rfl⟩ nofun,r.keep (S.seq F hs _)⟩
omit hs
theorem Stored.self (ok:okName x=true):Loads env h' x v:=by
 cases S with
 | loc _ k f=>exact F.ns.elim fun m n=>.loc ok k _ (f m n) (if_pos rfl)
 | cel k _ c n=>exact .cel ok (.inl k) a c n
end
theorem sub_app {l l' r:List Addr}(h:∀ a∈l',a∈l):∀ a∈l'++r,a∈l++r:=fun _ ha=>(List.mem_append.mp ha).elim (fun q=>List.mem_append_left _ (h _ q)) (List.mem_append_right _)
theorem Fm.slot_to {av':List Addr}(F:Fm g T av ow env σ s) (e:σ.lookup y=some sl) (l:Loads env s.heap y u) (r:SlotV av' s.heap u sl) {av'':List Addr}(hs:∀ a∈av'',a∈av') (hin:∀ b,(y,b)∈ow.l→b∈av''):SlotV av'' s.heap u sl:=by
 cases sl with
 | val d=>exact VD.sub hs r
 | own ds =>
  obtain ⟨b,hb,l'⟩:=F.reg y ds e
  cases r with | mk m e r=>cases l.uniq l'; exact ⟨hin b hb,e,r.sub hs⟩
theorem Fm.hold (F:Fm g T av ow env σ s):∀ y sl,y≠x→σ.lookup y=some sl→∀ u,Loads env s.heap y u→SlotV (ow.adr++av) s.heap u sl→SlotV ((Ow.drop x ow).adr++av) s.heap u sl:=fun y sl hne e u l h =>
 F.slot_to e l h (sub_app fun _=>Ow.adr_drop) fun b hb=>List.mem_append_left _ (List.mem_map.mpr ⟨_,Ow.mem_drop hb hne,rfl⟩)
theorem Fm.stored {d:D}(F:Fm g T av ow env σ s) (hv:VD ((Ow.drop x ow).adr++av) s.heap v d) (hok:okName x=true) (hs:Heap.SameBut a s.heap h') (S:Stored env ow x v s.heap a h'):Fm g T av (Ow.drop x ow) env ((x,.val d)::σ) { s with heap:=h',toks:=tk }:=by
 have lst:∀ b∈(Ow.drop x ow).adr,∃ vs n,h'.get? b=some (lstO vs n):=fun b hb=>S.lst F hs (F.isl b (Ow.adr_drop hb))
 refine ⟨(F.wrote hs S.wr (tk:=tk)).gk F.gk,⟨F.ec.kind,F.ec.glob,F.ec.blt,fun b hb=>?_,fun y sl' e=>?_,fun y hk=>(F.ec.cells y hk).imp fun c p=>⟨p.1,p.2.elim fun _ hu=>S.cells F hs hu⟩⟩,
  F.ns.elim fun m n=>(S.nss F hs n).imp fun _ p=>p.1,fun y c iy k e=>(F.own y c iy k e).elim fun _ hu=>S.cells F hs hu,F.inj,fun b hb=>F.off b hb.drop,fun y ds e=>?_,Ow.nd_drop F.nd,fun b hb=>F.apt b (Ow.adr_drop hb),lst⟩
 ·rcases List.mem_append.mp hb with hb | hb
  ·exact (lst b hb).elim fun vs e=>e.elim fun n e=>⟨_,e,nt_lst _ _⟩
  ·by_cases q:b=a
   ·exact q▸S.nt F
   ·exact (F.ec.avok b (List.mem_append_right _ hb)).imp fun o p=>⟨(hs.2 b q).trans p.1,p.2⟩
 ·rcases lookup_hit e with ⟨rfl,rfl⟩ | ⟨q,e⟩
  ·exact ⟨v,S.self F hok,VD.keep (S.seq F hs _) hv⟩
  ·cases F.ec.vars y sl' e with | mk u l r=>exact ⟨u,S.other F hs l q,S.slot F hs (F.hold y sl' q e u l r)⟩
 ·rcases lookup_hit e with ⟨_,q⟩ | ⟨q,e⟩
  ·exact nomatch q
  ·exact (F.reg y ds e).imp fun b p=>⟨Ow.mem_drop p.1 q,S.other F hs p.2 q⟩
theorem wp_store_any {Q:Unit→Shared→Prop}{E:Value→Shared→Prop}(F:Fm g T av ow env σ s) (hc:Canst env ow.c x) (h:∀ a h' tk,Heap.SameBut a s.heap h'→Stored env ow x v s.heap a h'→Q () { s with heap:=h',toks:=tk }):wpAny (model prog w) A (storeName env x v) Q E s:=by
 rcases hc.at_ with k | ⟨k,i,c,e⟩
 ·obtain ⟨m,n⟩:=F.ns
  exact wpAny_storeName_local k n (fun h' hn hs=>h _ h' _ hs (.loc rfl k fun m' n'=>(funext fun z=>ns_uniq n' n z:m'=m)▸hn)) (by rw [F.ec.kind]; rfl)
 ·obtain ⟨u,hu⟩:=F.own x c i k e
  exact wpAny_storeName_cell F.ec.kind k e hu fun h' hc hs=>h _ h' s.toks hs (.cel k i e hc)
structure FmMv (g:Heap) (T:Tabs) (av:List Addr) (ow ow':Ow) (env:Env) (σ:Sto) (s s':Shared):Prop where
 F:Fm g T av ow' env σ s'
 m:Mv g T (Wr env ow) s s'
theorem wp_store {d:D}(F:Fm g T av ow env σ s) (hc:Canst env ow.c x) (hv:VD (ow.adr++av) s.heap v d):wpAny (model prog w) A (storeName env x v) (fun _ s'=>FmMv g T av ow (Ow.drop x ow) env ((x,.val d)::σ) s s') NoE s :=
 wp_store_any F hc fun a h' tk hs S=>⟨F.stored (VD.sub (sub_app fun _=>Ow.adr_drop) hv) hc.ok hs S,F.wrote hs S.wr⟩
theorem wr_drop_le {s:Shared}:∀ b,Wr env (Ow.drop x ow) b→Wr env ow b∨s.heap.get? b=none:=fun b h=>.inl h.drop
end
end
section
noncomputable def stOk (sc:Scope) (on:List Str) (x:Str):Bool:=okName x&&(sc.names.lookup x==some .local||(sc.names.lookup x==some .cell&&on.contains x))
noncomputable abbrev Bd:=List (Str×D)
noncomputable def bindAll:Bd→Sto→Sto
 | [],σ=>σ
 | (x,d)::r,σ=>bindAll r ((x,.val d)::σ)
inductive TgEach:List Expr→List D→Bd→Prop
 | nil:TgEach [] [] []
 | cons {x:Str}{p:Pos}{es:List Expr}{d:D}{ds:List D}{b:Bd}:TgEach es ds b→TgEach (.Name x p::es) (d::ds) ((x,d)::b)
inductive Tg:Expr→D→Bd→Prop
 | name {x:Str}{p:Pos}{d:D}:Tg (.Name x p) d [(x,d)]
 | tup {es:List Expr}{k:Nat}{p:Pos}{ds:List D}{b:Bd}:TgEach es ds b→Tg (.Tuple es k p) (.tup ds) b
noncomputable def stAll (sc:Scope) (on:List Str) (b:Bd):Prop:=∀ x d,(x,d)∈b→stOk sc on x=true
theorem canst {sc:Scope}{env:Env}{av:List Addr}{σ:Sto}{h:Heap}{x:Str}{on:List Str}(c:EC av env σ h) (he:env.scope=sc) (hx:stOk sc on x=true):Canst env on x:=by
 obtain ⟨h1,h2⟩:=Bool.and_eq_true_iff.mp hx
 refine ⟨h1,?_⟩
 subst he
 rcases (Bool.or_eq_true _ _).mp h2 with k | k
 ·exact .inl (eq_of_beq k)
 ·obtain ⟨k,i⟩:=Bool.and_eq_true_iff.mp k
  exact .inr ⟨eq_of_beq k,List.contains_iff_mem.mp i,(c.cells x (.inl (eq_of_beq k))).imp fun _ p=>p.1⟩
theorem TgEach.length {es:List Expr}{ds:List D}{b:Bd}(h:TgEach es ds b):es.length=ds.length:=h.rec rfl fun _ ih=>congrArg (· + 1) ih
theorem TgEach.each {es:List Expr}{ds:List D}{b:Bd}(h:TgEach es ds b) (env:Env):assignEach es env=es.map fun e=>(false,assign e env):=h.rec rfl fun _ ih=>congrArg (_ :: ·) ih
inductive AsV (g:Heap) (T:Tabs) (av:List Addr) (ow:Ow) (env:Env) (σ:Sto) (s s':Shared):Prop
 | mk (ow':Ow) (c:ow'.c=ow.c) (F:Fm g T av ow' env σ s') (m:Mv g T (Wr env ow) s s') (w:∀ c,Wr env ow' c→Wr env ow c) (l:∀ p∈ow'.l,p∈ow.l)
section
variable {prog:Program}{w:World}{A:Around}{g:Heap}{T:Tabs}{s s' s'':Shared}{av:List Addr}{ow:Ow}{env:Env}{σ:Sto}
theorem wp_order {es:List Expr}{ds:List D}{b:Bd}(r:TgEach es ds b):∀ {vs:List Value}{σ:Sto}{ow:Ow}{s:Shared},Fm g T av ow env σ s→stAll env.scope ow.c b→VDs (ow.adr++av) s.heap vs ds →
  wpAny (model prog w) A (assignInOrder (es.map fun e=>assign e env) vs) (fun _ s'=>AsV g T av ow env (bindAll b σ) s s') NoE s:=by
 induction r with
 | nil=>intro vs σ ow s F _ hv; rw [hv.i0]; exact wpAny_assignInOrder_none ⟨ow,rfl,F,.refl,fun _ h=>h,fun _ h=>h⟩
 | cons r ih =>
  intro vs σ ow s F hst hv
  cases hv.i1 with | mk v1 vr =>
  refine wpAny_assignInOrder_more (wpAny_assign_Name (wp_to (wp_store F (canst F.ec rfl (hst _ _ (.head _))) v1) fun _ s₁ h=>?_))
  refine wp_to (ih h.F (fun y d h=>hst y d (.tail _ h)) ((vr.keep (h.m.seq F.gk (av:=ow.adr++av) F.wseq)).sub (sub_app fun _=>Ow.adr_drop))) fun _ s₂ h₂=>?_
  cases h₂ with | mk ow' c F₂ m w l=>exact ⟨ow',c,F₂,h.m.trans m wr_drop_le,fun c hc=>(w c hc).drop,fun p hp=>(List.mem_filter.mp (l p hp)).1⟩
theorem wp_assign {sc:Scope}{tg:Expr}{v:Value}{d:D}{b:Bd}(hh:A.handled=none) (he:env.scope=sc) (F:Fm g T av ow env σ s) (ht:Tg tg d b) (hst:stAll sc ow.c b) (hv:VD (ow.adr++av) s.heap v d) :
  wpAny (model prog w) A (assign tg env v) (fun _ s'=>AsV g T av ow env (bindAll b σ) s s') NoE s:=by
 subst he
 cases ht with
 | name=>exact wpAny_assign_Name (wp_to (wp_store F (canst F.ec rfl (hst _ d (.head _))) hv) fun _ s₁ h=>⟨Ow.drop _ ow,rfl,h.F,h.m,fun c hc=>hc.drop,fun p hp=>(List.mem_filter.mp hp).1⟩)
 | tup hb =>
  cases hv.i7 with | mk na e r =>
  have hx:=hb.each env
  refine wpAny_assign_Tuple hh ⟨_,e,rfl,_,rfl⟩ ?_ ?_ fun h' hk=>?_
  ·rw [hx,List.length_map,List.size_toArray,hb.length,r.length]
  ·rw [hx,List.findIdx?_eq_none_iff]
   intro x hx
   obtain ⟨e,_,rfl⟩:=List.mem_map.mp hx
   rfl
  ·have x₁:Ext g T s { s with heap:=h' }:=.of h' s.toks fun c o e=>hk c o (fun q=>nos (size_fresh _) (q▸e)) e
   rw [hx,List.map_map]
   refine wp_to (wp_order hb (F.ext x₁) hst (x₁.vds F.gk r)) fun _ s₂ h₂=>?_
   cases h₂ with | mk ow' c F₂ m w l=>exact ⟨ow',c,F₂,Mv.trans x₁.mv m fun b h=>.inl h,w,l⟩
end
end
section
structure Only (fp:List Addr) (s s':Shared):Prop where
 dr:s'.drawn=s.drawn
 os:s'.os=s.os
 gn:s'.gens=s.gens
 keep:∀ b o,b∉fp→s.heap.get? b=some o→s'.heap.get? b=some o
theorem Only.get {fp:List Addr}{s s':Shared}(x:Only fp s s') {b:Addr}{o:Obj}(e:s.heap.get? b=some o) (n:b∉fp):s'.heap.get? b=some o:=x.keep b o n e
theorem Only.seq {fp av:List Addr}{s s':Shared}(x:Only fp s s') (h:∀ b∈fp,b∈av):KeepSeq av s.heap s'.heap:=fun b o e _ n=>x.keep b o (fun q=>n (h b q)) e
noncomputable def IterObj (o:Obj):Prop:=NoCode o∧(∀ v,o.data≠.cell v)∧(∀ es ep,o.data≠.dict es ep)
theorem iterObj_fields {o:Obj}{vs:Array Value}(hd:o.data=.fields vs) (hc:o.cls≠.none) (h1:∀ q t,vs[1]?≠some (.str q t)):IterObj o :=
 ⟨⟨fun us q t hu=>by cases hd.symm.trans hu; exact h1 q t,by rintro ps rfl; exact hc rfl⟩,fun v h=>disc tgB (hd.symm.trans h) rfl,fun es ep h=>disc tgB (hd.symm.trans h) rfl⟩
inductive ItO (K:Prop) (h:Heap) (b:Addr):Prop
 | mk (o:Obj) (e:h.get? b=some o) (i:IterObj o) (nl:∀ vs n,o≠lstO vs n) (f:K→∃ vs,o.data=.fields vs)
theorem ito_fields {K:Prop}{h:Heap}{b:Addr}{o:Obj}{vs:Array Value}(e:h.get? b=some o) (hd:o.data=.fields vs) (hc:o.cls≠.none) (h1:∀ q t,vs[1]?≠some (.str q t)):ItO K h b :=
 ⟨o,e,iterObj_fields hd hc h1,fun us n q=>disc tgB (hd.symm.trans (congrArg Obj.data q)) rfl,fun _=>⟨_,hd⟩⟩
structure Got (fp Z:List Addr) (P:Heap→Prop) (d:D) (v:Value) (s s':Shared):Prop where
 vd:VD Z s'.heap v d
 st:P s'.heap
 on:Only fp s s'
inductive NextV (K:Value→Shared→Prop):Option Value→Shared→Prop
 | mk {v:Value}{s:Shared}(k:K v s):NextV K (some v) s
structure Itr (prog:Program) (w:World) (K:Prop) (av fp:List Addr) (h0:Heap) (tg:Expr) (it:Value) (St:List D→Heap→Prop):Prop where
 sub:∀ b∈fp,b∈av
 ks:∀ ds h,St ds h→KeepSeq av h0 h
 frame0:∀ ds h h',St ds h→(∀ b∈fp,∀ o,h.get? b=some o→h'.get? b=some o)→KeepSeq av h0 h'→St ds h'
 obj:∀ ds h,St ds h→∀ b∈fp,ItO K h b
 item:∀ (A:Around) (d:D) (ds:List D) (s:Shared) (Z:List Addr),A.handled=none→(∀ b∈Z,b∈av∨h0.get? b=none)→(∀ b∈Z,s.heap.get? b≠none)→St (d::ds) s.heap →
  wpAny (model prog w) A (pyNext it) (NextV fun v s₁=>wpAny (model prog w) A (letOwnedTupleGo tg it v) (fun _ s₂=>Got fp Z (St ds) d v s s₂) NoE s₁) NoE s
 done:∀ (A:Around) (s:Shared),A.handled=none→St [] s.heap→wpAny (model prog w) A (pyNext it) (fun r s₁=>r=none∧Only fp s s₁) NoE s
 self:∀ (A:Around) (ds:List D) (s:Shared) (Q:Value→Shared→Prop),A.handled=none→St ds s.heap→Q it s→wpAny (model prog w) A (pyIter it) Q NoE s
theorem KeepSeq.trans {av:List Addr}{h h' h'':Heap}(x:KeepSeq av h h') (y:KeepSeq av h' h''):KeepSeq av h h'':=fun b o e ho n=>y b o (x b o e ho n) ho n
theorem KeepSeq.refl {av:List Addr}{h:Heap}:KeepSeq av h h:=fun _ _ e _ _=>e
section
variable {prog:Program}{w:World}{A:Around}{E:Value→Shared→Prop}{g:Heap}{T:Tabs}{s s' s'':Shared}{av fp Z:List Addr}{h0 h h':Heap}{tg:Expr}{it v:Value}{ds ds0:List D}{d:D}{I l:Addr}{vs:List Value}{i:Nat}{K:Prop}
theorem Itr.frame {St:List D→Heap→Prop}(I:Itr prog w K av fp h0 tg it St) (ds:List D) (h h':Heap) (st:St ds h) (hf:∀ b∈fp,∀ o,h.get? b=some o→h'.get? b=some o) (k:KeepSeq av h h'):St ds h':=I.frame0 ds h h' st hf ((I.ks ds h st).trans k)
theorem VD.toZ (r:VD av h0 v d) (k:KeepSeq av h0 h') (hZ:∀ b∈Z,b∈av∨h0.get? b=Option.none):VD Z h' v d:=r.mono k fun b o e _ nb q=>(hZ b q).elim nb fun z=>nos z e
structure Wkr (prog:Program) (w:World) (K:Prop) (av fp:List Addr) (h0:Heap) (tg:Expr) (it:Value) (ds0:List D) (J:Nat→Heap→Prop):Prop where
 sub:∀ b∈fp,b∈av
 frame:∀ i h h',J i h→(∀ b∈fp,∀ o,h.get? b=some o→h'.get? b=some o)→KeepSeq av h0 h→KeepSeq av h0 h'→J i h'
 obj:∀ i h,J i h→∀ b∈fp,ItO K h b
 item:∀ (A:Around) (i:Nat) (d:D) (s:Shared) (Z:List Addr),A.handled=none→(∀ b∈Z,b∈av∨h0.get? b=none)→(∀ b∈Z,s.heap.get? b≠none)→i<ds0.length→ds0[i]?=some d→J i s.heap→KeepSeq av h0 s.heap →
  wpAny (model prog w) A (pyNext it) (NextV fun v s₁=>wpAny (model prog w) A (letOwnedTupleGo tg it v) (fun _ s₂=>Got fp Z (J (i+1)) d v s s₂) NoE s₁) NoE s
 done:∀ (A:Around) (s:Shared),A.handled=none→J ds0.length s.heap→KeepSeq av h0 s.heap→wpAny (model prog w) A (pyNext it) (fun r s₁=>r=none∧Only fp s s₁) NoE s
 self:∀ (A:Around) (i:Nat) (s:Shared) (Q:Value→Shared→Prop),A.handled=none→J i s.heap→Q it s→wpAny (model prog w) A (pyIter it) Q NoE s
inductive WkSt (av:List Addr) (h0:Heap) (ds0:List D) (J:Nat→Heap→Prop) (rs:List D) (h:Heap):Prop
 | mk (i:Nat) (e:rs=ds0.drop i) (hi:i≤ds0.length) (j:J i h) (k:KeepSeq av h0 h)
theorem lt_of_getElem? {α:Type}{l:List α}{i:Nat}{a:α}(h:l[i]?=some a):i<l.length:=(List.getElem?_eq_some_iff.mp h).1
theorem Wkr.itr {J:Nat→Heap→Prop}(W:Wkr prog w K av fp h0 tg it ds0 J):Itr prog w K av fp h0 tg it (WkSt av h0 ds0 J) where
 sub:=W.sub
 ks:=fun ds h st=>st.rec fun _ _ _ _ k=>k
 frame0:=fun ds h h' st hf k'=>st.rec fun i e hi j k=>⟨i,e,hi,W.frame i h h' j hf k k',k'⟩
 obj:=fun ds h st=>st.rec fun i _ _ j _=>W.obj i h j
 item:=fun A d ds s Z hh hZ hZs st=>by
  cases st with | mk i e hi j k =>
  have hd:ds0[i]?=some d:=by
   have:(ds0.drop i)[0]?=some d:=e▸rfl
   rwa [List.getElem?_drop,Nat.add_zero] at this
  have hs:ds=ds0.drop (i+1):=by rw [← List.drop_drop, ← e]; rfl
  have hlt:=lt_of_getElem? hd
  refine wpAny_mono (E:=NoE) (W.item A i d s Z hh hZ hZs hlt hd j k) (fun r s₁ h=>?_) fun _ _ f=>f
  cases h with | mk h=>exact ⟨wpAny_mono h (fun _ s₂ q=>⟨q.vd,⟨i+1,hs,hlt,q.st,k.trans (q.on.seq W.sub)⟩,q.on⟩) fun _ _ f=>f⟩
 done:=fun A s hh st=>by
  cases st with | mk i e hi j k=>exact W.done A s hh (Nat.le_antisymm hi (List.drop_eq_nil_iff.mp e.symm)▸j) k
 self:=fun A ds s Q hh st hQ=>by cases st with | mk i _ _ j _=>exact W.self A i s Q hh j hQ
inductive TgOk:Expr→Prop
 | name {x:Str}{p:Pos}:TgOk (.Name x p)
 | tup {es:List Expr}{k:Nat}{p:Pos}:TgOk (.Tuple es k p)
inductive NoOwn (o:Obj):Prop
 | mk (n:String) (vs:Array Value) (c:o.cls=.type n) (d:o.data=.fields vs) (l:["enumerate", "zip", "dict_itemiterator", "dict_reverseitemiterator", "odict_iterator", "itertools.zip_longest", "itertools.pairwise"].contains n=false)
theorem wp_noOwn {o:Obj}{Q:Unit→Shared→Prop}(ht:TgOk tg) (ho:s.heap.get? I=some o) (hn:NoOwn o) (h:Q () s):wpAny (model prog w) A (letOwnedTupleGo tg (.ref I) v) Q E s:=by
 cases ht with
 | name=>exact wpAny_pure h
 | tup =>
  cases hn with | mk n vs hc hd hl =>
  unfold letOwnedTupleGo
  cases v with
  | ref T =>
   refine wpAny_bind (wpAny_load ho ?_)
   rw [hc,hd]
   show wpAny _ A (if (_&&_)=true then _ else _) Q E s
   rw [if_neg (by rw [hl,Bool.false_and]; exact Bool.false_ne_true)]
   exact wpAny_pure h
  | _=>exact wpAny_pure h
theorem Wkr.walks {fp0:List Addr}{n:Nat}{P:Nat→Value→Prop}{St0:Nat→Heap→Prop}(ht:TgOk tg) (W:∀ A:Around,A.handled=none→Walks prog w A I fp0 [I] n P St0) (hI:I∈av) (hl:ds0.length=n)
  (hseq:∀ b∈fp0,b≠I→∃ o,h0.get? b=some o∧SeqObj o∧b∉av) (hobj:∀ i h,St0 i h→ItO K h I∧∀ o,h.get? I=some o→NoOwn o) (hP:∀ i v d,P i v→ds0[i]?=some d→VD av h0 v d) :
  Wkr prog w K av [I] h0 tg (.ref I) ds0 St0 where
 sub:=fun b hb=>List.mem_singleton.mp hb▸hI
 frame:=fun i h h' st hk k k'=>(W { depth:=0,units:=0,handled:=none } rfl).frame i h h' st fun b hb o eo=>by
  by_cases q:b=I
  ·exact hk b (List.mem_singleton.mpr q) o eo
  ·obtain ⟨o0,e0,so,na⟩:=hseq b hb q
   cases sinj eo (k b o0 e0 so na)
   exact k' b o e0 so na
 obj:=fun i h st b hb=>List.mem_singleton.mp hb▸(hobj i h st).1
 item:=fun A i d s Z hh hZ hZs hlt hd st k=>(W A hh).item i s _ _ (hl▸hlt) st fun v h' tk hv st' hk=>by
  have on:Only [I] s { s with heap:=h',toks:=tk }:=⟨rfl,rfl,rfl,fun b o n e=>hk b o n e⟩
  cases (hobj (i+1) h' st').1 with | mk o ho _ _ _ =>
  exact ⟨wp_noOwn ht ho ((hobj (i+1) h' st').2 o ho) ⟨(hP i v d hv hd).toZ (k.trans (on.seq fun b hb=>List.mem_singleton.mp hb▸hI)) hZ,st',on⟩⟩
 done:=fun A s hh st k=>(W A hh).done s _ _ (hl▸st) fun h' tk hk=>⟨rfl,rfl,rfl,rfl,fun b o n e=>hk b o n e⟩
 self:=fun A i s Q hh st hQ=>(W A hh).self i s Q NoE st hQ
structure ListInv (av:List Addr) (l:Addr) (vs:List Value) (ds:List D) (h:Heap):Prop where
 na:l∉av
 at_:∃ n,h.get? l=some (lstO vs n)
 vd:VDs av h vs ds
theorem ListInv.isl (iv:ListInv av l vs ds h0) (k:KeepSeq av h0 h):h.IsList l vs.toArray:=iv.at_.elim fun n e=>⟨_,k _ _ e ⟨_,_,.inr rfl⟩ iv.na,rfl,_,rfl⟩
theorem ListInv.seqs (iv:ListInv av l vs ds h0):∀ b∈[I,l],b≠I→∃ o,h0.get? b=some o∧SeqObj o∧b∉av:=fun b hb hn=>by
 obtain rfl:=List.mem_singleton.mp ((List.mem_cons.mp hb).resolve_left hn)
 exact iv.at_.elim fun n e=>⟨_,e,⟨_,_,.inr rfl⟩,iv.na⟩
theorem ito_at {o:Obj}{n:String}{us:Array Value}(e:h.get? I=some o) (hc:o.cls=.type n) (hd:o.data=.fields us) (h1:∀ q t,us[1]?≠some (.str q t)) (hn:["enumerate", "zip", "dict_itemiterator", "dict_reverseitemiterator", "odict_iterator", "itertools.zip_longest", "itertools.pairwise"].contains n=false) :
  ItO K h I∧∀ o,h.get? I=some o→NoOwn o:=⟨ito_fields e hd (by rw [hc]; intro q; cases q) h1,fun o' e'=>sinj e e'▸⟨n,us,hc,hd,hn⟩⟩
theorem Wkr.list (ht:TgOk tg) (hI:I∈av) (iv:ListInv av l vs ds h0):Wkr prog w K av [I] h0 tg (.ref I) ds (fun i h=>h.IsListIter I l i∧h.IsList l vs.toArray) :=
 Wkr.walks ht (fun A hh=>Walks.list hh I l (fun q=>iv.na (q▸hI)) vs.toArray) hI iv.vd.length.symm iv.seqs (fun i h st=>let ⟨_,e,hc,hd⟩:=st.1; ito_at e hc hd nofun (by decide)) fun i v d hv hd'=>by
  obtain ⟨d',e',r⟩:=iv.vd.get i v (by simpa using hv)
  exact sinj hd' e'▸r
theorem Wkr.listRev (ht:TgOk tg) (hI:I∈av) (iv:ListInv av l vs ds h0):Wkr prog w K av [I] h0 tg (.ref I) ds.reverse (fun i h=>i≤vs.toArray.size∧h.IsRevIter I l ((vs.toArray.size:Int) - 1 - (i:Int))∧h.IsList l vs.toArray) :=
 Wkr.walks ht (fun A hh=>Walks.listRev hh I l (fun q=>iv.na (q▸hI)) vs.toArray) hI (by rw [List.length_reverse]; exact iv.vd.length.symm) iv.seqs (fun i h st=>let ⟨_,e,hc,hd⟩:=st.2.1; ito_at e hc hd nofun (by decide)) fun i v d hv hd'=>by
  obtain ⟨d',e',r⟩:=iv.vd.get (vs.length - 1 - i) v (by simpa using hv)
  rw [List.getElem?_reverse (by simpa using lt_of_getElem? hd'), ← iv.vd.length] at hd'
  exact sinj hd' e'▸r
noncomputable def rngL (a b c:Int):List D:=(List.range (Builtin.Range.rangeSize a b c).toNat).map fun i=>.int (a+(i:Nat)*c)
theorem Wkr.range {a b c:Int}(ht:TgOk tg) (hI:I∈av):Wkr prog w K av [I] h0 tg (.ref I) (rngL a b c) (fun i h=>IsRangeIter h I (a+(i:Nat)*c) (((Builtin.Range.rangeSize a b c).toNat:Int) - (i:Nat)) c) :=
 Wkr.walks ht (fun A hh=>Walks.range hh I a c _) hI (by rw [rngL,List.length_map,List.length_range]) (fun b hb hn=>absurd (List.mem_singleton.mp hb) hn) (fun i h st=>ito_at st rfl rfl nofun (by decide)) fun i v d hv hd'=>by
  obtain ⟨t,rfl⟩:=hv
  rw [rngL,List.getElem?_map] at hd'
  obtain ⟨j,hj,rfl⟩:=Option.map_eq_some_iff.mp hd'
  rw [(List.getElem?_range (by simpa using lt_of_getElem? hj))] at hj
  exact Option.some.inj hj▸.int _ t
noncomputable def chars (x:Str):List D:=x.cps.toList.map fun c=>.str ⟨#[c]⟩
theorem Wkr.str {x:Str}{t:Tok}{ty:String}(ht:TgOk tg) (hI:I∈av) (hty:["enumerate", "zip", "dict_itemiterator", "dict_reverseitemiterator", "odict_iterator", "itertools.zip_longest", "itertools.pairwise"].contains ty=false)
  (W:∀ A:Around,A.handled=none→Walks prog w A I [I] [I] x.cps.size (SignAt x) (fun i h=>h.IsStrIter I ty x t i)):Wkr prog w K av [I] h0 tg (.ref I) (chars x) (fun i h=>h.IsStrIter I ty x t i) :=
 Wkr.walks ht W hI (by simp [chars]) (fun b hb hn=>absurd (List.mem_singleton.mp hb) hn) (fun i h st=>let ⟨_,e,hc,hd⟩:=st; ito_at e hc hd nofun hty) fun i v d hv hd'=>by
  obtain ⟨c,u,hc,rfl⟩:=hv
  rw [chars,List.getElem?_map] at hd'
  obtain ⟨j,hj,rfl⟩:=Option.map_eq_some_iff.mp hd'
  exact sinj hc (by simpa using hj)▸.str _ u
noncomputable def numbered (i:Nat):List D→List D
 | []=>[]
 | d::ds=>.tup [.int (i:Int),d]::numbered (i+1) ds
theorem numbered_length:∀ (ds:List D) (i:Nat),(numbered i ds).length=ds.length
 | [],_=>rfl
 | d::ds,i=>congrArg (· + 1) (numbered_length ds (i+1))
theorem getElem?_numbered:∀ (ds:List D) (i k:Nat),(numbered i ds)[k]?=ds[k]?.map fun d=>.tup [.int ((i+k:Nat):Int),d]
 | [],i,k=>rfl
 | d::ds,i,0=>rfl
 | d::ds,i,k+1=>(getElem?_numbered ds (i+1) k).trans (by rw [Nat.add_right_comm]; rfl)
theorem Wkr.enum {es:List Expr}{k:Nat}{p:Pos}{e it:Addr}(he:e∈av) (hi:it∈av) (iv:ListInv av l vs ds h0) (hei:e≠it):Wkr prog w K av [e,it] h0 (.Tuple es k p) (.ref e) (numbered 0 ds) (fun i h=>(∃ old,IsEnum h e it i old)∧h.IsListIter it l i) where
 sub:=fun b hb=>(List.mem_cons.mp hb).elim (fun q=>q▸he) fun q=>List.mem_singleton.mp q▸hi
 frame:=fun i h h' st hk _ _=>⟨st.1.imp fun _ a=>hk e (.head _) _ a,st.2.at fun o eo=>hk it (.tail _ (.head _)) o eo⟩
 obj:=fun i h st b hb=>(List.mem_cons.mp hb).elim (fun q=>st.1.elim fun _ a=>q▸ito_fields a rfl nofun nofun) fun q=>let ⟨_,eo,hc,hd⟩:=st.2; List.mem_singleton.mp q▸ito_fields eo hd (by rw [hc]; nofun) nofun
 item:=fun A i d s Z hh hZ hZs hlt hd st k=>by
  obtain ⟨⟨old,a1⟩,a2⟩:=st
  rw [getElem?_numbered] at hd
  obtain ⟨d',hd',rfl⟩:=Option.map_eq_some_iff.mp hd
  obtain ⟨v,hv,rv⟩:=iv.vd.get' i d' hd'
  refine wpAny_pyNext_enum_item a1 a2 (iv.isl k) (x:=v) (by simpa using hv) hei fun h' b1 b2 b3 b4 b5=>⟨wpAny_letOwnedTupleGo_enum b1 fun h'' c1 c2=>?_⟩
  have hse:s.heap.objs.size≠e:=fun q=>nos (size_fresh s.heap) (q▸a1)
  have on:Only [e,it] s { s with heap:=h'',toks:=s.toks+1 }:=⟨rfl,rfl,rfl,fun b o n eo=>(c2.2 b (fun q=>n (q▸.head _))).trans (b5 b o (fun q=>n (q▸.head _)) (fun q=>n (q▸.tail _ (.head _))) eo)⟩
  have ks:=k.trans (on.seq (av:=av) fun b hb=>(List.mem_cons.mp hb).elim (fun q=>q▸he) fun q=>List.mem_singleton.mp q▸hi)
  refine ⟨.tup (vs:=[.int i s.toks,v]) (n:=0) (fun q=>hZs _ q (size_fresh _)) ((c2.2 _ hse).trans b3) (.cons ?_ (.cons (rv.toZ ks hZ) .nil)),⟨⟨_,by simpa using c1⟩,b2.at fun o eo=>(c2.2 it (Ne.symm hei)).trans eo⟩,on⟩
  rw [Nat.zero_add]
  exact .int _ _
 done:=fun A s hh st k=>by
  obtain ⟨⟨old,a1⟩,a2⟩:=st
  rw [numbered_length, ← iv.vd.length] at a1 a2
  exact wpAny_pyNext_enum_end hh a1 a2 (iv.isl k) (by simp) fun h' hk=>⟨rfl,rfl,rfl,rfl,fun b o n eo=>hk b o (fun q=>n (q▸.tail _ (.head _))) eo⟩
 self:=fun A i s Q hh st hQ=>st.1.elim fun _ a1=>wpAny_pyIter_enum a1 hQ
end
end
section
noncomputable def zipD (as bs:List D):List D:=List.zipWith (fun a b=>D.tup [a,b]) as bs
section
variable {prog:Program}{w:World}{A:Around}{E:Value→Shared→Prop}{g:Heap}{T:Tabs}{s s' s'':Shared}{av fp:List Addr}{h h0:Heap}{K:Prop}
structure ZipSt (z TI TO i1 i2 l1 l2:Addr) (i:Nat) (h:Heap):Prop where
 z:IsZip h z TI TO .none
 p:IsPair h TI (.ref i1) (.ref i2)
 o:∃ a b,IsPair h TO a b
 a:h.IsListIter i1 l1 i
 b:h.IsListIter i2 l2 i
theorem ito_iter {i l:Addr}{k:Nat}(st:h.IsListIter i l k):ItO K h i:=let ⟨_,e,hc,hd⟩:=st; ito_fields e hd (by rw [hc]; nofun) nofun
theorem ito_pair {t:Addr}{a b:Value}(st:IsPair h t a b):ItO False h t:=⟨_,st,⟨⟨fun us q t hu=>(disc tgB hu rfl).elim,fun ps q=>disc tgO q rfl⟩,fun v q=>disc tgB q rfl,fun es ep q=>disc tgB q rfl⟩,fun vs n q=>disc tgO q rfl,False.elim⟩
theorem all5 {P:Addr→Prop}{a b c d e:Addr}(h1:P a) (h2:P b) (h3:P c) (h4:P d) (h5:P e):∀ x∈[a,b,c,d,e],P x :=
 List.forall_mem_cons.mpr ⟨h1,List.forall_mem_cons.mpr ⟨h2,List.forall_mem_cons.mpr ⟨h3,List.forall_mem_cons.mpr ⟨h4,fun _ hx=>List.mem_singleton.mp hx▸h5⟩⟩⟩⟩
theorem Wkr.zip {es:List Expr}{k:Nat}{p:Pos}{z TI TO i1 i2 l1 l2:Addr}{vs us:List Value}{ds cs:List D}(hs:∀ b∈[z,TI,TO,i1,i2],b∈av) (iv:ListInv av l1 vs ds h0) (iw:ListInv av l2 us cs h0) (Dz:ZipApart z TI TO i1 i2 l1 l2) :
  Wkr prog w False av [z,TI,TO,i1,i2] h0 (.Tuple es k p) (.ref z) (zipD ds cs) (ZipSt z TI TO i1 i2 l1 l2) where
 sub:=hs
 frame:=fun i h h' st hk _ _=>⟨hk z (.head _) _ st.z,hk TI (.tail _ (.head _)) _ st.p,st.o.imp fun a=>Exists.imp fun b e=>hk TO (.tail _ (.tail _ (.head _))) _ e,st.a.at fun o eo=>hk i1 (.tail _ (.tail _ (.tail _ (.head _)))) o eo,st.b.at fun o eo=>hk i2 (.tail _ (.tail _ (.tail _ (.tail _ (.head _))))) o eo⟩
 obj:=fun i h st=>all5 (ito_fields st.z rfl nofun nofun) (ito_pair st.p) (st.o.elim fun _ o=>o.elim fun _ o=>ito_pair o) (ito_iter st.a) (ito_iter st.b)
 item:=fun A i d s Z hh hZ hZs hlt hd st k=>by
  obtain ⟨d1,d2,hd1,hd2,rfl⟩:=List.getElem?_zipWith_eq_some.mp hd
  obtain ⟨v,hv,rv⟩:=iv.vd.get' i d1 hd1
  obtain ⟨u,hu,ru⟩:=iw.vd.get' i d2 hd2
  obtain ⟨a,b,so⟩:=st.o
  refine wpAny_pyNext_zip_item Dz st.z st.p so st.a st.b (iv.isl k) (iw.isl k) (x:=v) (y:=u) (by simpa using hv) (by simpa using hu) fun h' b1 b2 b3 b4 b5 b6 b7=>⟨wpAny_letOwnedTupleGo_zip b1 fun h'' c1 c2=>?_⟩
  have nez:s.heap.objs.size≠z:=fun q=>nos (size_fresh s.heap) (q▸st.z)
  have on:Only [z,TI,TO,i1,i2] s { s with heap:=h'' }:=⟨rfl,rfl,rfl,fun b o n eo=>(c2.2 b (fun q=>n (q▸.head _))).trans (b7 b o (fun q=>n (q▸.head _)) (fun q=>n (q▸.tail _ (.tail _ (.head _)))) (fun q=>n (q▸.tail _ (.tail _ (.tail _ (.head _))))) (fun q=>n (q▸.tail _ (.tail _ (.tail _ (.tail _ (.head _)))))) eo)⟩
  have ks:=k.trans (on.seq hs)
  exact ⟨.tup (vs:=[v,u]) (n:=0) (fun q=>hZs _ q (size_fresh _)) ((c2.2 _ nez).trans b5) (.cons (rv.toZ ks hZ) (.cons (ru.toZ ks hZ) .nil)),
   ⟨c1,(c2.2 TI Dz.TIz).trans (b7 TI _ Dz.TIz Dz.TITO Dz.TIi1 Dz.TIi2 st.p),⟨v,u,(c2.2 TO Dz.TOz).trans b2⟩,b3.at fun o eo=>(c2.2 i1 Dz.i1z).trans eo,b4.at fun o eo=>(c2.2 i2 Dz.i2z).trans eo⟩,on⟩
 done:=fun A s hh st k=>by
  obtain ⟨a,b,so⟩:=st.o
  refine wpAny_pyNext_zip_end hh Dz st.z st.p so st.a st.b (iv.isl k) (iw.isl k) ?_ fun h' hk=>⟨rfl,rfl,rfl,rfl,fun b o n eo =>
   hk b o (fun q=>n (q▸.head _)) (fun q=>n (q▸.tail _ (.tail _ (.head _)))) (fun q=>n (q▸.tail _ (.tail _ (.tail _ (.head _))))) (fun q=>n (q▸.tail _ (.tail _ (.tail _ (.tail _ (.head _)))))) eo⟩
  rw [List.getElem?_toArray,List.getElem?_toArray,List.getElem?_eq_none_iff,List.getElem?_eq_none_iff,zipD,List.length_zipWith,iv.vd.length,iw.vd.length]
  omega
 self:=fun A i s Q hh st hQ=>wpAny_pyIter_zip st.z hQ
end
section
variable (prog:Program) (w:World) (g:Heap) (T:Tabs) (K:Prop)
inductive HasItr (av fp:List Addr) (h:Heap) (tg:Expr) (it:Value) (ds:List D):Prop
 | mk (St:List D→Heap→Prop) (I:Itr prog w K av fp h tg it St) (st:St ds h)
inductive ItV (av:List Addr) (tg:Expr) (ds:List D) (s:Shared) (it:Value) (s₂:Shared):Prop
 | mk (x:Ext g T s s₂) (fp:List Addr) (hn:∀ b∈fp,s.heap.get? b=none) (hi:∀ ex,(∀ b∈ex,s₂.heap.get? b=none)→HasItr prog w K (fp++(ex++av)) fp s₂.heap tg it ds)
noncomputable def EvK (n:Nat) (sc:Scope) (σ:Sto) (tg e:Expr) (ds:List D):Prop :=
 ∀ (A:Around) (s:Shared) (av:List Addr) (env:Env),env.scope=sc→Rm n A→GK g T s→EC av env σ s.heap→wpAny (model prog w) A (eval e env) (fun x s₁=>wpAny (model prog w) A (pyIter x) (ItV prog w g T K av tg ds s) NoE s₁) NoE s
end
noncomputable abbrev EvI (prog:Program) (w:World) (g:Heap) (T:Tabs):=EvK prog w g T False
noncomputable abbrev EvF (prog:Program) (w:World) (g:Heap) (T:Tabs):=EvK prog w g T True
section
variable {prog:Program}{w:World}{A:Around}{E:Value→Shared→Prop}{g:Heap}{T:Tabs}{s s' s₁ s₂:Shared}{av fp:List Addr}{n:Nat}{sc:Scope}{σ:Sto}{tg e:Expr}{it:Value}{ds:List D}{h h':Heap}{b:Addr}{K:Prop}
theorem none_of {x:Option Obj}(h:∀ o,x=some o→False):x=Option.none:=by
 cases x with
 | none=>rfl
 | some o=>exact (h o rfl).elim
theorem GK.new (q:GK g T s) (h:s.heap.get? b=none):g.get? b=none:=none_of fun o e=>nos h (q.keep b o e)
theorem Ext.none (x:Ext g T s s') (q:GK g T s) (h:s'.heap.get? b=Option.none):s.heap.get? b=Option.none:=none_of fun o e=>nos h (x.keep b o e fun p hp z=>by
 obtain ⟨ps,e',_⟩:=(x.gk q).tabs p hp
 exact nos h (z▸e'))
theorem ListInv.mk' {av zs:List Addr}{l:Addr}{vs:List Value}{k:Nat}(ha:l∉av) (hz:∀ b∈zs,h.get? b=Option.none∨b∈av) (ho:h.get? l=some (lstO vs k)) (hd:VDs av h vs ds) (hk:∀ b o,h.get? b=some o→h'.get? b=some o):ListInv zs l vs ds h' :=
 ⟨fun q=>(hz l q).elim (fun q=>nos q ho) ha,⟨k,hk _ _ ho⟩,hd.mono (fun b o e _ _=>hk b o e) fun b o e _ nb q=>(hz b q).elim (fun q=>nos q e) nb⟩
theorem ItV.wk (x:Ext g T s s₁) (y:Ext g T s₁ s₂) (hg:GK g T s) (hk:∀ b o,s₁.heap.get? b=some o→s₂.heap.get? b=some o) (f:∀ b∈fp,s₁.heap.get? b=Option.none)
  (W:∀ zs,(∀ b∈fp,b∈zs)→(∀ b∈zs,s₁.heap.get? b=Option.none∨b∈av)→∃ J,Wkr prog w K zs fp s₂.heap tg it ds J∧J 0 s₂.heap):ItV prog w g T K av tg ds s it s₂ :=
 ⟨x.trans y,fp,fun b hb=>x.none hg (f b hb),fun ex hx=>by
  obtain ⟨J,W,j⟩:=W (fp++(ex++av)) (fun b=>List.mem_append_left _) fun b hb=>by
   rcases List.mem_append.mp hb with q | q
   ·exact .inl (f b q)
   ·exact (List.mem_append.mp q).imp (fun q=>none_of fun o e=>nos (hx b q) (hk b o e)) id
  exact ⟨_,W.itr,⟨0,rfl,Nat.zero_le _,j,.refl⟩⟩⟩
theorem f1 (s:Shared):∀ b∈[s.heap.objs.size],s.heap.get? b=Option.none:=fun b hb=>by rw [List.mem_singleton.mp hb]; exact size_fresh _
theorem EvI.list (h:Ev prog w g T n sc σ e (.lst ds)) (ht:TgOk tg:=by first | exact .name | exact .tup):EvK prog w g T K n sc σ tg e ds:=fun A s av env he rm hg hc=>by
 refine wp_to (h A s av env he rm hg hc) fun v s₁ h₁=>?_
 cases VD.i8 h₁.2 with | mk na eo r =>
 exact wpAny_pyIter_list ⟨_,eo,rfl,_,rfl⟩ (.wk h₁.1 (.push _) hg (push_keeps _ _) (f1 _) fun zs hf hz=>⟨_,Wkr.list ht (hf _ (.head _)) (.mk' na hz eo r (push_keeps _ _)),⟨_,Heap.get?_push_size _ rfl,rfl,rfl⟩,_,Heap.get?_push_of_some _ eo,rfl,_,rfl⟩)
theorem EvI.str {x:Str}(h:Ev prog w g T n sc σ e (.str x)) (ht:TgOk tg:=by first | exact .name | exact .tup):EvK prog w g T K n sc σ tg e (chars x):=fun A s av env he rm hg hc=>by
 refine wp_to (h A s av env he rm hg hc) fun v s₁ h₁=>?_
 obtain ⟨t,rfl⟩:=VD.i5 h₁.2
 cases ha:x.cps.all (· < 128)
 ·exact wpAny_pyIter_wide ha (.wk h₁.1 (.push _) hg (push_keeps _ _) (f1 _) fun zs hf hz=>⟨_,Wkr.str ht (hf _ (.head _)) (by decide) fun A hh=>Walks.strWide hh _ x t,⟨_,Heap.get?_push_size _ rfl,rfl,rfl⟩⟩)
 ·exact wpAny_pyIter_ascii ha (.wk h₁.1 (.push _) hg (push_keeps _ _) (f1 _) fun zs hf hz=>⟨_,Wkr.str ht (hf _ (.head _)) (by decide) fun A hh=>Walks.strAscii hh _ x t,⟨_,Heap.get?_push_size _ rfl,rfl,rfl⟩⟩)
end
end
section
section
variable {prog:Program}{w:World}{A:Around}{E:Value→Shared→Prop}{g:Heap}{T:Tabs}{s s' s'':Shared}{av:List Addr}{n:Nat}{sc:Scope}{σ:Sto}{tg e e₁ e₂ e₃:Expr}{ds cs:List D}{f:Str}{p pos p':Pos}{es es':List Expr}{k':Nat}{i j k a b c:Int}{K:Prop}
noncomputable abbrev NoSt (e:Expr):Prop:=∀ es env,starEach (e::es) env=(false,eval e env)::starEach es env
theorem wp_callT {t:String}{env:Env}{Q:Value→Shared→Prop}(hx:sc.names.lookup f=some .globalImplicit) (hgl:Glb g f (.type t)) (ha:EvL prog w g T n sc σ (e::es) ds) (he:env.scope=sc) (rm:Rm n A) (hg:GK g T s) (hc:EC av env σ s.heap)
  (h:∀ vs s₁,Ext g T s s₁→VDs av s₁.heap vs ds→wpAny (model prog w) A (call (.type t) vs) Q NoE s₁):wpAny (model prog w) A (eval (.Call (.Name f p) (e::es) [] pos) env) Q NoE s :=
 wpAny_Call_NameR (wp_glob hc.kind hc.glob hc.blt (by rw [Env.kindOf,he]; exact hx) hg.keep hgl (PyProof.Rows.callWith_type1 (wp_to (ha.run A s av env pos he rm hg hc) fun vs s₁ h₁=>h vs s₁ h₁.1 h₁.2) (ha.plain.1 _) ha.plain.2.any))
noncomputable def midI (i:Int):Bool:=decide (-(2 ^ 60)≤i)&&decide (i≤2 ^ 60)
theorem midI_iff:midI i=true ↔ -(2 ^ 60)≤i∧i≤2 ^ 60:=by rw [midI,Bool.and_eq_true,decide_eq_true_eq,decide_eq_true_eq]
theorem size_up (x c:Int) (hx:0≤x) (hc:0<c) (hm:x≤2 ^ 61):0≤x / c+1∧x / c+1≤2 ^ 62:=by
 have h1:=Int.ediv_nonneg hx (Int.le_of_lt hc)
 have h2:=Int.ediv_le_self c hx
 lia
theorem rangeSize_fit (a b c:Int) (h0:c≠0) (h:a - b≤2 ^ 61∧b - a≤2 ^ 61):0≤Builtin.Range.rangeSize a b c∧Builtin.Range.rangeSize a b c≤2 ^ 62:=by
 unfold Builtin.Range.rangeSize
 split
 ·split
  ·next h1 h2=>exact size_up _ _ (by lia) h1 (by lia)
  ·decide
 ·split
  ·next h1 h2=>exact size_up _ _ (by lia) (by lia) (by lia)
  ·decide
theorem range_small (ha:midI a=true) (hb:midI b=true) (hc:midI c=true) (h0:c≠0):Builtin.Range.small a b c=true∧0≤Builtin.Range.rangeSize a b c:=by
 have ha:=midI_iff.mp ha
 have hb:=midI_iff.mp hb
 have hc:=midI_iff.mp hc
 have hz:=rangeSize_fit a b c h0 (by lia)
 refine ⟨?_,hz.1⟩
 simp only [Builtin.Range.small,Builtin.Range.rangeFitsLong,Bool.and_eq_true,Bool.or_eq_true,decide_eq_true_eq]
 refine ⟨⟨⟨⟨?_,?_⟩,?_⟩,?_⟩,.inr ?_⟩
 all_goals first
  | (constructor <;> lia)
  | lia
  | (split <;> simp only [Bool.and_eq_true,decide_eq_true_eq] <;> (constructor <;> lia))
theorem wp_rangeIter {r:Addr}{t u v:Tok}(h0:c≠0) (ma:midI a=true) (mb:midI b=true) (mc:midI c=true) (x:Ext g T s s') (hg:GK g T s) (ht:TgOk tg) (hr:IsRange s'.heap r a b c t u v):wpAny (model prog w) A (pyIter (.ref r)) (ItV prog w g T K av tg (rngL a b c) s) NoE s':=by
 have hm:=range_small ma mb mc h0
 refine wpAny_pyIter_range hr hm.1 (.wk x (.push _) hg (push_keeps _ _) (f1 _) fun zs hf hz=>⟨_,Wkr.range ht (hf _ (.head _)),?_⟩)
 rw [Int.toNat_of_nonneg hm.2,Int.natCast_zero,Int.zero_mul,Int.add_zero,Int.sub_zero]
 exact Heap.get?_push_size _ rfl
theorem EvI.range1 (hx:sc.names.lookup f=some .globalImplicit) (hgl:Glb g f (.type "range")) (hs:NoSt e) (he:Ev prog w g T n sc σ e (.int i)) (hm:midI i=true) (ht:TgOk tg:=by first | exact .name | exact .tup):EvK prog w g T K n sc σ tg (.Call (.Name f p) [e] [] pos) (rngL 0 i 1):=fun A s av env hev rm hg hc =>
 wp_callT hx hgl (.more (hs _) he .nil) hev rm hg hc fun vs s₁ x₁ r₁=>by
  cases r₁.i1 with | mk a r=>cases r.i0; obtain ⟨_,rfl⟩:=VD.i4 a; exact call_range_1 (wp_rangeIter (by decide) (by decide) hm (by decide) (x₁.trans (.of _ _ (push_keeps _ _))) hg ht (Heap.get?_push_size _ rfl))
theorem EvI.range3 (hx:sc.names.lookup f=some .globalImplicit) (hgl:Glb g f (.type "range")) (hs:NoSt e₁) (hs₂:NoSt e₂) (hs₃:NoSt e₃) (he:Ev prog w g T n sc σ e₁ (.int i)) (he₂:Ev prog w g T n sc σ e₂ (.int j)) (he₃:Ev prog w g T n sc σ e₃ (.int k)) (hm:midI i=true) (hm₂:midI j=true) (hm₃:midI k=true) (h0:k≠0)
  (ht:TgOk tg:=by first | exact .name | exact .tup):EvK prog w g T K n sc σ tg (.Call (.Name f p) [e₁,e₂,e₃] [] pos) (rngL i j k):=fun A s av env hev rm hg hc =>
 wp_callT hx hgl (.more (hs _) he (.more (hs₂ _) he₂ (.more (hs₃ _) he₃ .nil))) hev rm hg hc fun vs s₁ x₁ r₁=>by
  cases r₁.i1 with | mk a r=>cases r.i1 with | mk b r2=>cases r2.i1 with | mk c r3 =>
  cases r3.i0; obtain ⟨_,rfl⟩:=VD.i4 a; obtain ⟨_,rfl⟩:=VD.i4 b; obtain ⟨_,rfl⟩:=VD.i4 c
  have:=midI_iff.mp hm₃
  exact call_range_3 h0 (wp_rangeIter h0 hm hm₂ hm₃ (x₁.trans (.of _ _ (push_keeps _ _))) hg ht (Heap.get?_push_size _ rfl)) (.inl (Bool.not_eq_true _▸no_pylong (a:=j - i) (decide_eq_true (Nat.lt_of_le_of_lt (show k.natAbs≤2 ^ 60 by omega) (by decide)))))
theorem EvI.rev (hx:sc.names.lookup f=some .globalImplicit) (hgl:Glb g f (.type "reversed")) (hs:NoSt e) (he:Ev prog w g T n sc σ e (.lst ds)) (ht:TgOk tg:=by first | exact .name | exact .tup):EvK prog w g T K n sc σ tg (.Call (.Name f p) [e] [] pos) ds.reverse:=fun A s av env hev rm hg hc =>
 wp_callT hx hgl (.more (hs _) he .nil) hev rm hg hc fun vs s₁ x₁ r₁=>by
  cases r₁.i1 with | mk a r=>cases r.i0; cases VD.i8 a with | mk na eo ra =>
  refine call_reversed_list ⟨_,eo,rfl,_,rfl⟩ (wpAny_pyIter_revIter ⟨_,Heap.get?_push_size _ rfl,rfl,rfl⟩ (.wk x₁ (.push _) hg (push_keeps _ _) (f1 _) fun zs hf hz=>⟨_,Wkr.listRev ht (hf _ (.head _)) (.mk' na hz eo ra (push_keeps _ _)),Nat.zero_le _,?_,_,Heap.get?_push_of_some _ eo,rfl,_,rfl⟩))
  rw [Int.natCast_zero,Int.sub_zero]
  exact ⟨_,Heap.get?_push_size _ rfl,rfl,rfl⟩
theorem fresh_at (s:Shared) (j:Nat):s.heap.get? (s.heap.objs.size+j)=none:=none_of fun o e=>absurd (Heap.lt_size e) (Nat.not_lt.mpr (Nat.le_add_right _ _))
theorem EvI.enum (hx:sc.names.lookup f=some .globalImplicit) (hgl:Glb g f (.type "enumerate")) (hs:NoSt e) (he:Ev prog w g T n sc σ e (.lst ds)):EvK prog w g T K n sc σ (.Tuple es' k' p') (.Call (.Name f p) [e] [] pos) (numbered 0 ds):=fun A s av env hev rm hg hc =>
 wp_callT hx hgl (.more (hs _) he .nil) hev rm hg hc fun vs s₁ x₁ r₁=>by
  cases r₁.i1 with | mk a r=>cases r.i0; cases VD.i8 a with | mk na eo ra =>
  exact call_enumerate_list ⟨_,eo,rfl,_,rfl⟩ fun h' a1 a2 a3 a4=>wpAny_pyIter_enum a1 (.wk (fp:=[s₁.heap.objs.size+1,s₁.heap.objs.size]) x₁ (.of h' _ a4) hg a4 (fun b hb=>(List.mem_cons.mp hb).elim (fun q=>q▸fresh_at s₁ 1) fun q=>List.mem_singleton.mp q▸fresh_at s₁ 0)
   fun zs hf hz=>⟨_,Wkr.enum (hf _ (.head _)) (hf _ (.tail _ (.head _))) (.mk' na hz eo ra a4) (Nat.ne_of_gt (Nat.lt_succ_self _)),⟨_,a1⟩,a2⟩)
theorem zip_apart (z l1 l2:Nat) (h1:l1<z) (h2:l2<z):ZipApart (z+4) (z+2) (z+3) z (z+1) l1 l2:=by
 have k:∀ {a b:Nat},(a<b∨b<a)→a≠b:=fun h=>by lia
 constructor <;> exact k (by lia)
theorem EvI.zip (hx:sc.names.lookup f=some .globalImplicit) (hgl:Glb g f (.type "zip")) (hs:NoSt e₁) (hs₂:NoSt e₂) (he:Ev prog w g T n sc σ e₁ (.lst ds)) (he₂:Ev prog w g T n sc σ e₂ (.lst cs)):EvI prog w g T n sc σ (.Tuple es' k' p') (.Call (.Name f p) [e₁,e₂] [] pos) (zipD ds cs):=fun A s av env hev rm hg hc =>
 wp_callT hx hgl (.more (hs _) he (.more (hs₂ _) he₂ .nil)) hev rm hg hc fun vs s₁ x₁ r₁=>by
  cases r₁.i1 with | mk a r=>cases r.i1 with | mk b r2=>cases r2.i0; cases VD.i8 a with | mk na eo ra=>cases VD.i8 b with | mk nb eb rb =>
  exact call_zip_2 ⟨_,eo,rfl,_,rfl⟩ ⟨_,eb,rfl,_,rfl⟩ fun h' a1 a2 a3 a4 a5 a6 a7=>wpAny_pyIter_zip a1 (.wk x₁ (.of h' _ a7) hg a7 (all5 (fresh_at s₁ 4) (fresh_at s₁ 2) (fresh_at s₁ 3) (fresh_at s₁ 0) (fresh_at s₁ 1))
   fun zs hf hz=>⟨_,Wkr.zip hf (.mk' na hz eo ra a7) (.mk' nb hz eb rb a7) (zip_apart _ _ _ (Heap.lt_size eo) (Heap.lt_size eb)),a1,a2,⟨_,_,a3⟩,a4,a5⟩)
end
end
section
theorem cellsFrom_append:∀ (names:List (Str×NameKind)) (n:Nat) (acc:List (Str×Addr)),cellsFrom n names acc=cellsFrom n names []++acc
 | [],_,_=>rfl
 | (x,k)::r,n,acc=>by
  unfold cellsFrom
  split
  ·rw [cellsFrom_append r (n+1) ((x,n)::acc),cellsFrom_append r (n+1) [(x,n)],List.append_assoc]; rfl
  ·exact cellsFrom_append r n acc
theorem cellsFrom_mem:∀ (names:List (Str×NameKind)) (n:Nat) (acc:List (Str×Addr)) (x:Str),((cellsFrom n names acc).lookup x).isSome=true↔(x,NameKind.cell)∈names∨(acc.lookup x).isSome=true
 | [],n,acc,x=>by simp [cellsFrom]
 | (y,k)::r,n,acc,x=>by
  unfold cellsFrom
  split
  ·rename_i hk
   have hk':k=.cell:=by simpa using hk
   subst hk'
   rw [cellsFrom_mem r (n+1) _ x,List.lookup_cons]
   by_cases q:x=y
   ·subst q; simp
   ·have:(x==y)=false:=by simpa using q
    rw [this]
    simp [q]
  ·rename_i hk
   have hk':k≠.cell:=by simpa using hk
   rw [cellsFrom_mem r n acc x]
   simp [Ne.symm hk']
theorem lookup_append {α:Type}(l r:List (Str×α)) (x:Str):(l++r).lookup x=(l.lookup x).or (r.lookup x):=by
 induction l with
 | nil=>simp
 | cons p l ih =>
  obtain ⟨y,a⟩:=p
  rw [List.cons_append,List.lookup_cons,List.lookup_cons,ih]
  cases x==y <;> simp
noncomputable def frameObj (b:Bool):Obj:={ cls:=.type (if b then "dict" else "frame"),data:=.dict #[] }
noncomputable def frameHeap (names:List (Str×NameKind)) (b:Bool) (h:Heap):Heap:=pushCells (h.push (frameObj b)) names
section
variable {M:Model}{A:Around}{E:Value→Shared→Prop}{s:Shared}
theorem wp_newEnv {scope:Scope}{globals:Addr}{closure:List (Str×Addr)}{binds:List (Str×Value)}{qual:Str}{func:Option Addr}{code:Value}{around:Option Env}{builtins:Addr}{Q:Env→Shared→Prop}
  (h:∀ env,env=newEnv scope s.heap.objs.size globals (cellsFrom (s.heap.objs.size+1) scope.names closure) qual func code around builtins →
   wpAny M A (forIn binds PUnit.unit (fun x _=>do storeName env x.1 x.2; pure (ForInStep.yield PUnit.unit))) (fun _ s'=>Q env s') E { s with heap:=frameHeap scope.names around.isSome s.heap }) :
  wpAny M A (newFunctionEnv scope globals closure binds qual func code around builtins) Q E s:=by
 have hz:(s.heap.push (frameObj around.isSome)).objs.size=s.heap.objs.size+1:=Heap.size_push ..
 cases around with
 | none =>
  simp only [newFunctionEnv,Option.isSome_none,Bool.false_eq_true,if_false]
  refine wpAny_bind (wpAny_alloc ?_)
  refine wpAny_bind (wpAny_layCells _ (fun name kind cells=>by cases hkc:kind==NameKind.cell <;> simp [hkc]) _ _ _ _ ?_)
  have:=h _ rfl
  refine wpAny_bind (wpAny_mono (Q:=fun _ s'=>Q (newEnv scope s.heap.objs.size globals (cellsFrom (s.heap.push (frameObj false)).objs.size scope.names closure) qual func code none builtins) s') ?_ (fun _ s' q=>wpAny_pure q) fun _ _ e=>e)
  ·simp only [Option.isSome_none,Option.isSome_some] at hz this; rw [← hz] at this; exact this
 | some outer =>
  simp only [newFunctionEnv,Option.isSome_some,if_true]
  refine wpAny_bind (wpAny_alloc ?_)
  refine wpAny_bind (wpAny_layCells _ (fun name kind cells=>by cases hkc:kind==NameKind.cell <;> simp [hkc]) _ _ _ _ ?_)
  have:=h _ rfl
  refine wpAny_bind (wpAny_mono (Q:=fun _ s'=>Q (newEnv scope s.heap.objs.size globals (cellsFrom (s.heap.push (frameObj true)).objs.size scope.names closure) qual func code (some outer) builtins) s') ?_ (fun _ s' q=>wpAny_pure q) fun _ _ e=>e)
  ·simp only [Option.isSome_none,Option.isSome_some] at hz this; rw [← hz] at this; exact this
end
noncomputable def cellNames (names:List (Str×NameKind)):List Str:=names.filterMap fun p=>if p.2==.cell then some p.1 else none
theorem mem_cellNames {names:List (Str×NameKind)}{x:Str}:x∈cellNames names↔(x,NameKind.cell)∈names:=by
 refine List.mem_filterMap.trans ⟨fun ⟨p,hm,h⟩=>?_,fun h=>⟨_,h,rfl⟩⟩
 by_cases hk:(p.2==NameKind.cell)=true
 ·rw [if_pos hk] at h; exact Option.some.inj h▸eq_of_beq hk▸hm
 ·rw [if_neg hk] at h; exact (disc tgN h rfl).elim
structure NewEnv (names:List (Str×NameKind)) (closure:List (Str×Addr)) (h:Heap) (env:Env):Prop where
 kind:env.scope.kind=.function
 glob:env.globals=mainGlobals
 blt:env.builtins=builtinsNs
 locals:env.locals=h.objs.size
 cells:env.cells=cellsFrom (h.objs.size+1) names closure
theorem none_of1 {α:Type}{x:Option α}(h:∀ o,x=some o→False):x=none:=by
 cases x with
 | none=>rfl
 | some o=>exact (h o rfl).elim
inductive CapV (env:Env) (names:List (Str×NameKind)) (closure:List (Str×Addr)) (av:List Addr) (h:Heap) (x:Str):Sl→Prop
 | mk (d:D) (c:Addr) (v:Value) (ok:okName x=true) (k:env.kindOf x=some .cell∨env.kindOf x=some .free) (nc:(x,NameKind.cell)∉names) (e:closure.lookup x=some c) (i:h.IsCell c (some v)) (r:VD av h v d):CapV env names closure av h x (.val d)
structure FreshFm (g:Heap) (T:Tabs) (av:List Addr) (ow:Ow) (env:Env) (σ:Sto) (s s':Shared):Prop where
 F:Fm g T av ow env σ s'
 x:Ext g T s s'
 w:∀ c,Wr env ow c→s.heap.get? c=none
section
variable {g:Heap}{T:Tabs}{s s' s'':Shared}{av:List Addr}{names:List (Str×NameKind)}{closure:List (Str×Addr)}{env:Env}{b:Bool}{σ:Sto}{h:Heap}{x y:Str}{c:Addr}
theorem frameHeap_keeps:∀ c o,h.get? c=some o→(frameHeap names b h).get? c=some o:=fun c o e=>pushCells_keeps _ _ c o (Heap.get?_push_of_some _ e)
theorem not_new (hc:h.objs.size≤c):h.get? c=none:=none_of fun o e=>absurd (Heap.lt_size e) (Nat.not_lt.mpr hc)
section
variable (N:NewEnv names closure h env)
include N
theorem NewEnv.cell (x:Str):env.cells.lookup x=((cellsFrom (h.objs.size+1) names []).lookup x).or (closure.lookup x):=by rw [N.cells,cellsFrom_append,lookup_append]
theorem NewEnv.own (hm:(x,NameKind.cell)∈names):∃ c,(cellsFrom (h.objs.size+1) names []).lookup x=some c∧env.cells.lookup x=some c :=
 (Option.isSome_iff_exists.mp ((cellsFrom_mem names (h.objs.size+1) [] x).mpr (.inl hm))).imp fun c hc=>⟨hc,by rw [N.cell,hc]; rfl⟩
theorem NewEnv.out (hm:(x,NameKind.cell)∉names):env.cells.lookup x=closure.lookup x:=by
 rw [N.cell,show (cellsFrom (h.objs.size+1) names []).lookup x=none from (none_of1 fun c e=>hm (((cellsFrom_mem names (h.objs.size+1) [] x).mp (by rw [e]; rfl)).resolve_right (by simp)))]; rfl
end
theorem fresh_ok (names:List (Str×NameKind)) (b:Bool) (h:Heap):CellsOk (pushCells (h.push (frameObj b)) names) (h.objs.size+1) (cellsFrom (h.objs.size+1) names []):=by
 have hz:(h.push (frameObj b)).objs.size=h.objs.size+1:=Heap.size_push ..
 have ok:=cellsFrom_ok names (h.push (frameObj b)) (h.objs.size+1) [] ⟨fun _ _ hm=>(nomatch hm),List.Pairwise.nil⟩ (by rw [hz]; exact Nat.le_refl _)
 rwa [hz] at ok
theorem Fm.fresh {tk:Nat}(N:NewEnv names closure s.heap env) (hg:GK g T s) (hav:AvOk av s.heap) (hce:∀ x c,closure.lookup x=some c→∃ v,s.heap.IsCell c v)
  (hkind:∀ x,env.kindOf x=some .cell∨env.kindOf x=some .free→(x,NameKind.cell)∈names∨(closure.lookup x).isSome=true) (hσ:∀ x sl,σ.lookup x=some sl→CapV env names closure av s.heap x sl) :
  FreshFm g T av ⟨[],cellNames names⟩ env σ s { s with heap:=frameHeap names b s.heap,toks:=tk }:=by
 have hx:Ext g T s { s with heap:=frameHeap names b s.heap,toks:=tk }:=.of _ _ frameHeap_keeps
 have ok:=fresh_ok names b s.heap
 have own:=fun {x} hm=>N.own (x:=x) hm
 have hwr:∀ c,Wr env ⟨[],cellNames names⟩ c→s.heap.get? c=none:=by
  rintro c (q | ⟨x,hm,_,e⟩ | hb)
  ·exact not_new (q▸N.locals▸Nat.le_refl _)
  ·obtain ⟨c',h1,h2⟩:=own (mem_cellNames.mp hm)
   cases sinj h2 e
   exact not_new (Nat.le_of_succ_le (ok.empty x _ (mem_of_lookup h1)).2)
  ·cases hb
 refine ⟨⟨hx.gk hg,⟨N.kind,N.glob,N.blt,hav.ext hx hg,fun x sl e=>?_,fun x hk=>?_⟩,⟨_,N.locals▸(Heap.Ns.new s.heap (.type (if b then "dict" else "frame"))).keeps (pushCells_keeps names _)⟩,fun x c hm hk e=>?_,fun x y c hm e1 e2=>?_,fun c hc=>hg.new (hwr c hc),
  fun x ds e=>(nomatch hσ x _ e),List.nodup_nil,fun a ha=>(nomatch ha),fun a ha=>(nomatch ha)⟩,hx,hwr⟩
 ·cases hσ x sl e with | mk d c v o k nc hc hv hd=>exact ⟨v,.cel o k c ((N.out nc).trans hc) (hx.cell hg hv),hx.vd hg hd⟩
 ·by_cases hm:(x,NameKind.cell)∈names
  ·obtain ⟨c,h1,h2⟩:=own hm
   exact ⟨c,h2,_,(ok.empty x _ (mem_of_lookup h1)).1⟩
  ·obtain ⟨c,hc⟩:=Option.isSome_iff_exists.mp ((hkind x hk).resolve_left hm)
   exact ⟨c,(N.out hm).trans hc,(hce x c hc).imp fun _=>hx.cell hg⟩
 ·obtain ⟨c',h1,h2⟩:=own (mem_cellNames.mp hm)
  exact ⟨_,sinj h2 e▸(ok.empty x _ (mem_of_lookup h1)).1⟩
 ·obtain ⟨c1,h1,h1'⟩:=own (mem_cellNames.mp hm)
  cases sinj h1' e1
  rw [N.cell] at e2
  cases h2:(cellsFrom (s.heap.objs.size+1) names []).lookup y with
  | some c2 =>
   rw [h2] at e2
   cases Option.some.inj e2
   exact name_of_addr ok.apart (mem_of_lookup h1) (mem_of_lookup h2)
  | none =>
   rw [h2] at e2
   obtain ⟨v,o,e,_⟩:=hce y _ e2
   exact absurd (Heap.lt_size e) (Nat.not_lt.mpr (Nat.le_of_succ_le (ok.empty x _ (mem_of_lookup h1)).2))
end
end
section
noncomputable abbrev NoSet (e:Expr):Prop:=∀ (env:Env) (x:Value),foldedSetIterable e env x=pure x
section
variable (prog:Program) (w:World) (g:Heap) (T:Tabs)
noncomputable def EvIfs (n:Nat) (sc:Scope) (σ:Sto) (cs:List Expr) (b:Bool):Prop :=
 ∀ (A:Around) (s:Shared) (av:List Addr) (env:Env),env.scope=sc→Rm n A→GK g T s→EC av env σ s.heap →
  wpAny (model prog w) A (forIn cs true fun c r=>if r=true then do let ok ← isTrue c env (eval c env); pure (ForInStep.yield ok) else pure (ForInStep.yield r)) (fun ok s'=>ok=b∧Ext g T s s') NoE s
end
theorem bindAll_lookup:∀ (b:Bd) (σ:Sto) (x:Str),(∀ p∈b,p.1≠x)→(bindAll b σ).lookup x=σ.lookup x
 | [],_,_,_=>rfl
 | (y,d)::r,σ,x,h=>by
  rw [bindAll,bindAll_lookup r _ x fun p hp=>h p (.tail _ hp),lookup_cons',if_neg fun q=>h _ (.head _) q.symm]
theorem bindAll_weak {b:Bd}{σ:Sto}(h:∀ p∈b,σ.lookup p.1=none) (x:Str) (sl:Sl) (e:σ.lookup x=some sl):(bindAll b σ).lookup x=some sl:=by
 rw [bindAll_lookup b σ x fun p hp q=>nos (h p hp) (q▸e)]; exact e
section
variable {prog:Program}{w:World}{g:Heap}{T:Tabs}{s s' s'':Shared}{av:List Addr}{env:Env}{σ:Sto}{n:Nat}{sc:Scope}{A:Around}
theorem ifs_false (env:Env):∀ cs:List Expr,(forIn cs false fun c r=>if r=true then do let ok ← isTrue c env (eval c env); pure (ForInStep.yield ok) else pure (ForInStep.yield r):Sem Bool)=pure false
 | []=>rfl
 | c::cs=>by
  rw [List.forIn_cons,if_neg (by simp)]
  exact ifs_false env cs
theorem EvIfs.nil:EvIfs prog w g T n sc σ [] true:=fun _ _ _ _ _ _ _ _=>wpAny_pure ⟨rfl,.refl⟩
theorem EvIfs.yes {c:Expr}{cs:List Expr}{b:Bool}(h:EvT prog w g T n sc σ c true) (hs:EvIfs prog w g T n sc σ cs b):EvIfs prog w g T n sc σ (c::cs) b:=fun A s av env he rm hg hc=>by
 rw [List.forIn_cons,if_pos rfl]
 refine wpAny_bind (wpAny_bind (wp_to (h A s av env he rm hg hc) fun ok s₁ h₁=>wpAny_pure ?_))
 rw [h₁.1]
 exact wp_to (hs A s₁ av env he rm (h₁.2.gk hg) (hc.ext h₁.2 hg)) fun ok s₂ h₂=>⟨h₂.1,h₁.2.trans h₂.2⟩
theorem EvIfs.no {c:Expr}{cs:List Expr}(h:EvT prog w g T n sc σ c false):EvIfs prog w g T n sc σ (c::cs) false:=fun A s av env he rm hg hc=>by
 rw [List.forIn_cons,if_pos rfl]
 refine wpAny_bind (wpAny_bind (wp_to (h A s av env he rm hg hc) fun ok s₁ h₁=>wpAny_pure ?_))
 rw [h₁.1]
 show wpAny _ _ (forIn cs false _) _ _ _
 rw [ifs_false]
 exact wpAny_pure ⟨rfl,h₁.2⟩
inductive AccOk (av:List Addr) (P:Addr) (outs:List D) (h:Heap):Prop
 | mk (ys:Array Value) (p:h.PlainList P ys) (r:VDs av h ys.toList outs)
noncomputable def Acc1 (env:Env) (ow:Ow) (P:Addr) (b:Addr):Prop:=Wr env ow b∨b=P
theorem compTurn_last {elt:Expr}{gens:List Comprehension}{scope:Scope}{pos:Pos}{depth:Nat}{it acc:Value}{c:Comprehension}(hc:gens[depth]?=some c) (ha:c.is_async=0) (hn:gens[depth+1]?=none) :
  compTurn (.ListComp elt gens scope pos) depth it acc env=(do
   standAt c.iter.pos
   match ← pyNext it with
   | none=>pure (.done .next)
   | some v =>
    letOwnedTupleGo c.target it v
    assign c.target env v
    let ok ← (forIn c.ifs true fun c r=>if r=true then do let ok ← isTrue c env (eval c env); pure (ForInStep.yield ok) else pure (ForInStep.yield r):Sem Bool)
    if ok=true then do
     (do let x ← eval elt env; let _ ← call (.builtin "list.append") [acc,x]; pure ())
     again (.compLoop (.ListComp elt gens scope pos) depth it acc env)
    else again (.compLoop (.ListComp elt gens scope pos) depth it acc env)):=by
 unfold compTurn
 simp only [hc,ha,hn,bne_self_eq_false,Bool.false_eq_true,if_false]; rfl
theorem compTurn_more {elt:Expr}{gens:List Comprehension}{scope:Scope}{pos:Pos}{depth:Nat}{it acc:Value}{c c':Comprehension}(hc:gens[depth]?=some c) (ha:c.is_async=0) (hn:gens[depth+1]?=some c') (ha':c'.is_async=0) :
  compTurn (.ListComp elt gens scope pos) depth it acc env=(do
   standAt c.iter.pos
   match ← pyNext it with
   | none=>pure (.done .next)
   | some v =>
    letOwnedTupleGo c.target it v
    assign c.target env v
    let ok ← (forIn c.ifs true fun c r=>if r=true then do let ok ← isTrue c env (eval c env); pure (ForInStep.yield ok) else pure (ForInStep.yield r):Sem Bool)
    if ok=true then do
      let x ← eval c'.iter env
      standAt c'.iter.pos
      let x ← foldedSetIterable c'.iter env x
      let i ← holding [x] (pyIter x)
      let _ ← runOwn (.compStart (.ListComp elt gens scope pos) (depth+1) i acc env) env
      again (.compLoop (.ListComp elt gens scope pos) depth it acc env)
    else again (.compLoop (.ListComp elt gens scope pos) depth it acc env)):=by
 unfold compTurn
 simp only [hc,ha,hn,ha',bne_self_eq_false,Bool.false_eq_true,if_false]; rfl
end
end
section
inductive WObj (h:Heap) (b:Addr):Prop
 | mk (o:Obj) (e:h.get? b=some o) (i:IterObj o)
structure FmOn (g:Heap) (T:Tabs) (av:List Addr) (ow:Ow) (env:Env) (σ:Sto) (fp:List Addr) (s s':Shared):Prop where
 F:Fm g T av ow env σ s'
 m:Mv g T (fun b=>b∈fp) s s'
section
variable {prog:Program}{w:World}{g:Heap}{T:Tabs}{s s' s'':Shared}{av av' fp:List Addr}{env:Env}{σ:Sto}{n:Nat}{sc:Scope}{A:Around}{ow:Ow}{on:List Str}{h:Heap}{b P:Addr}{o:Obj}{K:Prop}{outs:List D}
theorem ItO.wo (x:ItO K h b):WObj h b:=x.rec fun o e i _ _=>⟨o,e,i⟩
theorem WObj.at (x:WObj h b) (e:h.get? b=some o):IterObj o:=x.rec fun _ e' i=>sinj e' e▸i
theorem ncell (i:IterObj o) (e:h.get? b=some o) {v:Option Value}(c:h.IsCell b v):False:=let ⟨_,e',hd⟩:=c; (sinj e e'▸i).2.1 _ hd
theorem nns (i:IterObj o) (e:h.get? b=some o) {m:Str→Option Value}(c:h.Ns b m):False:=let ⟨_,_,_,e',hd,_⟩:=c; (sinj e e'▸i).2.2 _ _ hd
theorem wr_avoid (F:Fm g T av ow env σ s) (nl:b∉ow.adr) (e:s.heap.get? b=some o) (i:IterObj o):¬ Wr env ow b:=by
 rintro (rfl | ⟨x,hm,k,hx⟩ | hb')
 ·exact F.ns.elim fun m n=>nns i e n
 ·exact (F.own x b hm k hx).elim fun v hv=>ncell i e hv
 ·exact nl hb'
theorem Fm.changed' (F:Fm g T av ow env σ s) (on:Only fp s s') (hg:∀ b∈fp,g.get? b=none) (hav:∀ b∈fp,b∈av) (hs:∀ a∈av',a∈av) (h1:∀ b∈fp,WObj s.heap b) (h2:∀ b∈fp,b∈av'→WObj s'.heap b):FmOn g T av' ow env σ fp s s':=by
 have hss:∀ a∈ow.adr++av',a∈ow.adr++av:=fun a ha=>(List.mem_append.mp ha).elim (List.mem_append_left _) fun q=>List.mem_append_right _ (hs a q)
 have mv:Mv g T (fun b=>b∈fp) s s':=by
  have:=Mv.of (g:=g) (T:=T) (s:=s) (h':=s'.heap) (tk:=s'.toks) (W:=fun b=>b∈fp) (fun b o e n=>on.keep b o n e) fun b hb=>⟨hg b hb,fun o e=>((h1 b hb).at e).1⟩
  exact ⟨on.dr,on.os,this.keep,fun q=>let q:=this.gk q; ⟨q.keep,q.tabs,q.off,on.gn▸q.bare⟩⟩
 have kcell:∀ {c v},s.heap.IsCell c v→s'.heap.IsCell c v:=fun c=>cell_get c fun o e _=>on.get e fun hb=>ncell ((h1 _ hb).at e) e c
 have kns:∀ {L m},s.heap.Ns L m→s'.heap.Ns L m:=fun n=>ns_get n fun o e _=>on.get e fun hb=>nns ((h1 _ hb).at e) e n
 have kl:∀ {x v},Loads env s.heap x v→Loads env s'.heap x v:=fun l=>l.to kns fun _=>kcell
 have nout:∀ a∈ow.adr,a∉fp:=fun a ha hf=>F.apt a ha (hav a hf)
 have ks:KeepSeq (ow.adr++av) s.heap s'.heap:=on.seq fun b hb=>List.mem_append_right _ (hav b hb)
 refine ⟨⟨mv.gk F.gk,⟨F.ec.kind,F.ec.glob,F.ec.blt,fun a ha=>?_,fun x sl e=>?_,fun x h=>(F.ec.cells x h).imp fun _ p=>⟨p.1,p.2.imp fun _=>kcell⟩⟩,F.ns.imp fun _=>kns,fun x c hm k e=>(F.own x c hm k e).imp fun _=>kcell,F.inj,F.off,
  fun x ds e=>(F.reg x ds e).imp fun _ p=>⟨p.1,kl p.2⟩,F.nd,fun a ha q=>F.apt a ha (hs a q),fun a ha=>(F.isl a ha).imp fun _=>Exists.imp fun _ e=>on.get e (nout a ha)⟩,mv⟩
 ·by_cases hf:a∈fp
  ·exact (h2 a hf ((List.mem_append.mp ha).resolve_left fun q=>nout a q hf)).rec fun o e i=>⟨o,e,i.1.2⟩
  ·exact (F.ec.avok a (hss a ha)).imp fun o p=>⟨on.get p.1 hf,p.2⟩
 ·cases F.ec.vars x sl e with | mk v l r =>
  refine ⟨v,kl l,?_⟩
  cases sl with
  | val d=>exact VD.sub hss (VD.keep ks r)
  | own ds =>
   obtain ⟨a,hm,l'⟩:=F.reg x ds e
   cases r with | mk m e r =>
   cases l.uniq l'
   have hm:a∈ow.adr:=List.mem_map.mpr ⟨_,hm,rfl⟩
   exact ⟨List.mem_append_left _ hm,on.get e (nout _ hm),(r.keep ks).sub hss⟩
theorem Fm.changed (F:Fm g T av ow env σ s) (on:Only fp s s') (hg:∀ b∈fp,g.get? b=none) (hav:∀ b∈fp,b∈av) (h1:∀ b∈fp,WObj s.heap b) (h2:∀ b∈fp,WObj s'.heap b):FmOn g T av ow env σ fp s s':=F.changed' on hg hav (fun _ h=>h) h1 fun b hb _=>h2 b hb
theorem adr_nil (h:ow.l=[]):ow.adr=[]:=by rw [Ow.adr,h]; rfl
theorem not_adr (h:ow.l=[]):b∉ow.adr:=fun hm=>nomatch adr_nil h▸hm
theorem Fm.av0 (F:Fm g T av ow env σ s) (h:ow.l=[]):EC av env σ s.heap:=by have:=F.ec; rwa [adr_nil h,List.nil_append] at this
theorem AccOk.seq (x:AccOk av P outs s.heap) (k:KeepSeq av s.heap s'.heap) (hP:∀ vs n,s.heap.get? P=some (lstO vs n)→s'.heap.get? P=some (lstO vs n)):AccOk av P outs s'.heap:=x.rec fun ys p r=>⟨ys,p.imp fun n e=>hP ys.toList n e,r.keep k⟩
theorem AccOk.ext (x:AccOk av P outs s.heap) (e:Ext g T s s') (hg:GK g T s):AccOk av P outs s'.heap:=x.seq (e.seq hg av) fun vs n h=>e.get' hg h (nt_lst _ _)
theorem AccOk.sub (x:AccOk av P outs h) (hs:∀ a∈av',a∈av):AccOk av' P outs h:=x.rec fun ys p r=>⟨ys,p,r.sub hs⟩
theorem AccOk.isl (x:AccOk av P outs h):∃ vs n,h.get? P=some (lstO vs n):=x.rec fun ys p _=>⟨ys.toList,p⟩
theorem lst_iterObj (vs:List Value) (n:Nat):IterObj (lstO vs n):=⟨lst_data vs n,fun v h=>disc tgB h rfl,fun es ep h=>disc tgB h rfl⟩
theorem compStart_any {elt:Expr}{gens:List Comprehension}{scope:Scope}{pos:Pos}{depth:Nat}{it acc:Value}{c:Comprehension}{R:Result→Shared→Prop}(hc:gens[depth]?=some c) (ha:c.is_async=0)
  (h0:codeAny (model prog w) A (.compLoop (.ListComp elt gens scope pos) depth it acc env) R s)
  (h:wpAny (model prog w) A (pyIter it) (fun it' s'=>codeAny (model prog w) A (.compLoop (.ListComp elt gens scope pos) depth it' acc env) R s') NoE s) :
  codeAny (model prog w) A (.compStart (.ListComp elt gens scope pos) depth it acc env) R s:=by
 have h':=wpAny_mono h (E':=notedBy (model prog w) A env fun x s'=>R (.error x) s') (fun _ _ q=>q) fun _ _ f=>f.elim
 refine codeAny_of_tree ?_
 show wpAny _ _ ((compStart (.ListComp elt gens scope pos) depth it acc env).onRaise (fun x=>do noteFrame x env; standAt theWindowsPlace)) _ _ s
 refine wpAny_notedAt ?_
 unfold compStart
 have e1:(clausesOf (.ListComp elt gens scope pos))[depth]?=some c:=hc
 rw [e1]
 simp only [Option.elim,ha,bne_self_eq_false,Bool.false_eq_true,if_false]
 show wpAny _ _ (ask >>= _) _ _ s
 refine wpAny_bind (wpAny_askSetting (wpAny_ite ?_))
 split
 ·first
  | exact wpAny_bind (wpAny_pure (wpAny_pure ⟨rfl,h0⟩))
  | exact wpAny_pure ⟨rfl,h0⟩
 ·first
  | exact wpAny_bind (wpAny_rule (wpAny_bind (wpAny_standAt (wpAny_bind (wpAny_mono h' (fun it' s' h'=>wpAny_pure ⟨rfl,h'⟩) fun _ _ x=>x)))))
  | (refine wpAny_bind (wpAny_rule ?_); show wpAny _ _ (standAt c.iter.pos >>= _) _ _ s; exact wpAny_bind (wpAny_standAt (wpAny_bind (wpAny_mono h' (fun it' s' h'=>wpAny_pure (And.intro rfl h')) fun _ _ x=>x))))
end
end
section
structure CtxC (g:Heap) (sc:Scope) (on:List Str) (P:Addr) (env:Env) (ow:Ow) (av:List Addr):Prop where
 he:env.scope=sc
 nl:ow.l=[]
 oc:ow.c=on
 hP:P∈av
 gP:g.get? P=none
structure ItC (prog:Program) (w:World) (g:Heap) (K:Prop) (av fp:List Addr) (h0:Heap) (tg:Expr) (it:Value) (St:List D→Heap→Prop):Prop where
 I:Itr prog w K (fp++av) fp h0 tg it St
 gf:∀ b∈fp,g.get? b=none
 fr:∀ b∈fp,b∉av
structure LpE (g:Heap) (T:Tabs) (av:List Addr) (ow:Ow) (env:Env) (σ:Sto) (P:Addr) (outs:List D) (W:Addr→Prop) (s s':Shared):Prop where
 F:Fm g T av ow env σ s'
 acc:AccOk av P outs s'.heap
 m:Mv g T W s s'
noncomputable abbrev AccW (env:Env) (ow:Ow) (P:Addr) (fp:List Addr) (b:Addr):Prop:=Acc1 env ow P b∨b∈fp
noncomputable def GLoop (prog:Program) (w:World) (g:Heap) (T:Tabs) (sc:Scope) (on:List Str) (elt:Expr) (n:Nat) (σ:Sto) (c:Comprehension) (cs:List Comprehension) (ds outs:List D):Prop :=
 ∀ (A:Around) (scope:Scope) (pos:Pos) (P:Addr) (env:Env) (ow:Ow) (av fp:List Addr) (it:Value) (h0:Heap) (St:List D→Heap→Prop) (gens:List Comprehension) (depth:Nat) (s:Shared) (pre:List D) (R:Result→Shared→Prop),
  Rm n A→CtxC g sc on P env ow av→gens.drop depth=c::cs→(∀ c'∈c::cs,c'.is_async=0)→ItC prog w g False av fp h0 c.target it St→Fm g T (fp++av) ow env σ s→St ds s.heap→AccOk (fp++av) P pre s.heap→pre.length+outs.length≤lim →
  (∀ s',LpE g T av ow env σ P (pre++outs) (AccW env ow P fp) s s'→R (.ok .next) s')→codeAny (model prog w) A (.compLoop (.ListComp elt gens scope pos) depth it (.ref P) env) R s
noncomputable def GBody (prog:Program) (w:World) (g:Heap) (T:Tabs) (sc:Scope) (on:List Str) (elt:Expr) (n:Nat) (σ:Sto) (cs:List Comprehension) (outs:List D):Prop :=
 ∀ (A:Around) (scope:Scope) (pos:Pos) (P:Addr) (env:Env) (ow:Ow) (av:List Addr) (gens:List Comprehension) (depth:Nat) (it:Value) (s:Shared) (pre:List D) (Q:Fin→Shared→Prop),
  Rm n A→CtxC g sc on P env ow av→gens.drop (depth+1)=cs→(∀ c'∈cs,c'.is_async=0)→Fm g T av ow env σ s→AccOk av P pre s.heap→pre.length+outs.length≤lim →
  (∀ s',LpE g T av ow env σ P (pre++outs) (Acc1 env ow P) s s'→Q (.again (.compLoop (.ListComp elt gens scope pos) depth it (.ref P) env)) s') →
  wpAny (model prog w) A (match gens[depth+1]? with
   | none=>(do (do let x ← eval elt env; let _ ← call (.builtin "list.append") [.ref P,x]; pure ()); again (.compLoop (.ListComp elt gens scope pos) depth it (.ref P) env))
   | some c'=>(do
      let x ← eval c'.iter env
      standAt c'.iter.pos
      let x ← foldedSetIterable c'.iter env x
      let i ← holding [x] (pyIter x)
      let _ ← runOwn (.compStart (.ListComp elt gens scope pos) (depth+1) i (.ref P) env) env
      again (.compLoop (.ListComp elt gens scope pos) depth it (.ref P) env))) Q NoE s
section
variable {prog:Program}{w:World}{g:Heap}{T:Tabs}{sc:Scope}{A:Around}{on:List Str}{elt:Expr}{scope:Scope}{pos:Pos}{P:Addr}{env:Env}
theorem drop_get {α:Type}{l:List α}{k:Nat}{a:α}{r:List α}(h:l.drop k=a::r):l[k]?=some a∧l.drop (k+1)=r:=by
 refine ⟨?_,by rw [← List.drop_drop,h]; rfl⟩
 have:(l.drop k)[0]?=some a:=h▸rfl
 rwa [List.getElem?_drop,Nat.add_zero] at this
theorem drop_none {α:Type}{l:List α}{k:Nat}(h:l.drop k=[]):l[k]?=none:=by
 exact List.getElem?_eq_none (List.drop_eq_nil_iff.mp h)
theorem step_async {gens:List Comprehension}{depth:Nat}{c:Comprehension}{cs:List Comprehension}(h:gens.drop depth=c::cs) (hs:∀ c'∈c::cs,c'.is_async=0) {it acc:Value} :
  compTurn (.ListComp elt gens scope pos) depth it acc env=(do
   standAt c.iter.pos
   match ← pyNext it with
   | none=>pure (.done .next)
   | some v =>
    letOwnedTupleGo c.target it v
    assign c.target env v
    let ok ← (forIn c.ifs true fun c r=>if r=true then do let ok ← isTrue c env (eval c env); pure (ForInStep.yield ok) else pure (ForInStep.yield r):Sem Bool)
    if ok=true then (match gens[depth+1]? with
     | none=>(do (do let x ← eval elt env; let _ ← call (.builtin "list.append") [acc,x]; pure ()); again (.compLoop (.ListComp elt gens scope pos) depth it acc env))
     | some c'=>(do
      let x ← eval c'.iter env
      standAt c'.iter.pos
      let x ← foldedSetIterable c'.iter env x
      let i ← holding [x] (pyIter x)
      let _ ← runOwn (.compStart (.ListComp elt gens scope pos) (depth+1) i acc env) env
      again (.compLoop (.ListComp elt gens scope pos) depth it acc env)))
    else again (.compLoop (.ListComp elt gens scope pos) depth it acc env)):=by
 obtain ⟨h1,h2⟩:=drop_get h
 cases cs with
 | nil =>
  have hn:=drop_none h2
  rw [compTurn_last h1 (hs _ (.head _)) hn]
  simp only [hn] <;> rfl
 | cons c' cs =>
  obtain ⟨h3,_⟩:=drop_get h2
  rw [compTurn_more h1 (hs _ (.head _)) h3 (hs c' (.tail _ (.head _)))]
  simp only [h3] <;> rfl
theorem it_keep {av fp:List Addr}{it:Value}{h0:Heap}{St:List D→Heap→Prop}{tg:Expr}{K:Prop}{ds:List D}{s s':Shared}{W:Addr→Prop}(I:Itr prog w K (fp++av) fp h0 tg it St) (st:St ds s.heap) (hg:GK g T s) (m:Mv g T W s s') (hw:∀ b∈fp,∀ o,s.heap.get? b=some o→IterObj o→¬ W b)
  (hq:∀ b o,s.heap.get? b=some o→SeqObj o→W b→b∈fp++av):St ds s'.heap :=
 I.frame _ _ _ st (fun b hb o e=>let i:=(I.obj _ _ st b hb).wo.at e; m.get' hg e (hw b hb o e i) i.1.2) (m.seq hg hq)
theorem not_mem_acc {av fp:List Addr}{pre ds:List D}{tg:Expr}{it:Value}{h0:Heap}{St:List D→Heap→Prop}{h:Heap}{K:Prop}(I:Itr prog w K (fp++av) fp h0 tg it St) (st:St ds h) (acc:AccOk (fp++av) P pre h):P∉fp:=fun hm=>by
 obtain ⟨vs,k,e'⟩:=acc.isl
 cases I.obj _ _ st P hm with | mk o e i nl _=>exact nl _ _ (sinj e e')
theorem ow_nil {ow ow':Ow}(h:ow.l=[]) (hc:ow'.c=ow.c) (hl:∀ p∈ow'.l,p∈ow.l):ow'=ow:=by
 have:ow'.l=[]:=List.eq_nil_iff_forall_not_mem.mpr fun p hp=>nomatch h▸hl p hp
 obtain ⟨l,c⟩:=ow
 obtain ⟨l',c'⟩:=ow'
 cases h; cases hc; cases this; rfl
theorem Fm.wseq0 {av:List Addr}{ow:Ow}{σ:Sto}{s:Shared}(F:Fm g T av ow env σ s) (nl:ow.l=[]):∀ b o,s.heap.get? b=some o→SeqObj o→¬ Wr env ow b:=fun b o e ho hw=>not_adr nl (F.wlst e ho hw)
theorem turn_start {n:Nat}{σ:Sto}{c:Comprehension}{d:D}{ds:List D}{b:Bd}{t:Bool}{av fp:List Addr}{ow:Ow}{it:Value}{h0:Heap}{St:List D→Heap→Prop}{s:Shared}{pre:List D}{β:Type}{K:Bool→Sem β}{Q':β→Shared→Prop}{e0:Sem β}{Z:Prop}
  (rm:Rm n A) (C:CtxC g sc on P env ow av) (I:ItC prog w g Z av fp h0 c.target it St) (F:Fm g T (fp++av) ow env σ s) (st:St (d::ds) s.heap) (acc:AccOk (fp++av) P pre s.heap) (ht:Tg c.target d b) (hst:stAll sc on b) (hi:EvIfs prog w g T n sc (bindAll b σ) c.ifs t)
  (h:∀ s',LpE g T (fp++av) ow env (bindAll b σ) P pre (AccW env ow P fp) s s'→St ds s'.heap→wpAny (model prog w) A (K t) Q' NoE s') :
  wpAny (model prog w) A (do
   match ← pyNext it with
   | none=>e0
   | some v =>
    letOwnedTupleGo c.target it v
    assign c.target env v
    let ok ← (forIn c.ifs true fun c r=>if r=true then do let ok ← isTrue c env (eval c env); pure (ForInStep.yield ok) else pure (ForInStep.yield r):Sem Bool)
    K ok) Q' NoE s:=by
 refine wpAny_bind (wp_to (I.I.item A d ds s (fp++av) rm.hand (fun b hb=>.inl hb) (fun b hb=>((F.av0 C.nl).avok b hb).elim fun o p q=>nos q p.1) st) fun r s₁ h₁=>?_)
 cases h₁ with | mk h₁ =>
 refine wpAny_bind (wp_to h₁ fun _ s₂ h₂=>?_)
 have hPf:=not_mem_acc I.I st acc
 have f₂:=F.changed h₂.on I.gf I.I.sub (fun b hb=>(I.I.obj _ _ st b hb).wo) (fun b hb=>(I.I.obj _ _ h₂.st b hb).wo)
 have acc₂:AccOk (fp++av) P pre s₂.heap:=acc.seq (h₂.on.seq I.I.sub) fun vs k e=>h₂.on.get e hPf
 refine wpAny_bind (wp_to (wp_assign rm.hand C.he f₂.F ht (C.oc.symm▸hst) (by rw [adr_nil C.nl]; exact h₂.vd)) fun _ s₃ h₃=>?_)
 cases h₃ with | mk ow' hc' F₃ m₃ hw hl =>
 cases ow_nil C.nl hc' hl
 have hq:∀ b o,s₂.heap.get? b=some o→SeqObj o→Wr env ow b→b∈fp++av:=fun b o e ho hw=>(f₂.F.wseq0 C.nl b o e ho hw).elim
 have st₃:=it_keep I.I h₂.st f₂.F.gk m₃ (fun b hb o e i=>wr_avoid f₂.F (not_adr C.nl) e i) hq
 have acc₃:AccOk (fp++av) P pre s₃.heap:=acc₂.seq (m₃.seq f₂.F.gk hq) fun vs k e=>m₃.get' f₂.F.gk e (f₂.F.wseq0 C.nl _ _ e ⟨_,_,.inr rfl⟩) (nt_lst _ _)
 refine wpAny_bind (wp_to (hi A s₃ _ env C.he rm F₃.gk (F₃.av0 C.nl)) fun ok s₄ h₄=>?_)
 rw [h₄.1]
 have x₄:=h₄.2
 exact h s₄ ⟨F₃.ext x₄,acc₃.ext x₄ F₃.gk,Mv.trans (W':=Wr env ow) (Mv.trans (f₂.m.sub fun b hb=>.inl (.inr hb)) m₃ fun b hb=>.inl (.inl (.inl hb))) x₄.mv fun b hb=>.inl (.inl (.inl hb))⟩ (it_keep I.I st₃ F₃.gk x₄.mv (W:=fun _=>False) (fun _ _ _ _ _ f=>f) fun _ _ _ _ f=>f.elim)
end
end
section
section
variable {prog:Program}{w:World}{g:Heap}{T:Tabs}{sc:Scope}{on:List Str}{elt:Expr}
theorem acc_push {A:Around}{av av':List Addr}{P:Addr}{env:Env}{ow:Ow}{σ:Sto}{s:Shared}{pre:List D}{v:Value}{d:D}{Q:Value→Shared→Prop}(C:CtxC g sc on P env ow av') (hs:P∈av) (F:Fm g T av ow env σ s) (acc:AccOk av P pre s.heap) (r:VD av s.heap v d) (hz:pre.length<lim)
  (h:∀ s',(∃ h',s'={ s with heap:=h' }∧Heap.SameBut P s.heap h')→LpE g T av ow env σ P (pre++[d]) (fun b=>b=P) s s'→Q .none s'):wpAny (model prog w) A (call (.builtin "list.append") [.ref P,v]) Q NoE s:=by
 obtain ⟨vs,k,eP⟩:=acc.isl
 cases acc with | mk ys hp hv =>
 have hl:=hv.length
 refine wpAny_list_append_plain hp (fun h' hp' hs'=>?_) ?_
 ·have on₂:Only [P] s { s with heap:=h' }:=⟨rfl,rfl,rfl,fun b o nb e=>(hs'.2 b (fun q=>nb (q▸.head _))).trans e⟩
  have hsub:∀ b∈[P],b∈av:=fun b hb=>List.mem_singleton.mp hb▸hs
  have f₂:=F.changed on₂ (fun b hb=>List.mem_singleton.mp hb▸C.gP) hsub (fun b hb=>List.mem_singleton.mp hb▸⟨_,eP,lst_iterObj vs k⟩) (fun b hb=>List.mem_singleton.mp hb▸hp'.elim fun k' e'=>⟨_,e',lst_iterObj (ys.push v).toList k'⟩)
  have ks:=on₂.seq hsub
  exact h _ ⟨_,rfl,hs'⟩ ⟨f₂.F,⟨_,hp',by rw [Array.toList_push]; exact (hv.keep ks).append (.one (r.keep ks))⟩,f₂.m.sub fun b hb=>.inl (List.mem_singleton.mp hb)⟩
 ·have:ys.toList.length=ys.size:=by simp
  have:=lim_le
  lia
theorem body_emit {n:Nat}{σ:Sto}{d:D}(h:Ev prog w g T n sc σ elt d):GBody prog w g T sc on elt n σ [] [d]:=fun A scope pos P env ow av gens depth it s pre Q rm C hd ha F acc hsz hQ=>by
 rw [drop_none hd]
 show wpAny _ _ ((eval elt env >>= fun x=>call (.builtin "list.append") [.ref P,x] >>= fun _=>pure ()) >>= fun _=>again _) _ _ _
 exact wpAny_bind (wpAny_bind (wp_to (h A s av env C.he rm F.gk (F.av0 C.nl)) fun v s₁ h₁=>wpAny_bind (acc_push C C.hP (F.ext h₁.1) (acc.ext h₁.1 F.gk) h₁.2 (Nat.lt_of_succ_le hsz) fun s₂ _ e=>wpAny_pure (wpAny_pure (hQ _ ⟨e.F,e.acc,Mv.trans h₁.1.mv e.m fun b hb=>.inl (.inr hb)⟩)))))
theorem VD.more {av fp:List Addr}{h:Heap}{v:Value}{d:D}(r:VD av h v d) (hn:∀ b∈fp,h.get? b=Option.none):VD (fp++av) h v d:=r.mono (fun b o e _ _=>e) fun b o e _ nb q=>(List.mem_append.mp q).elim (fun q=>nos (hn b q) e) nb
theorem VDs.more {av fp:List Addr}{h:Heap}{v:List Value}{d:List D}(r:VDs av h v d) (hn:∀ b∈fp,h.get? b=Option.none):VDs (fp++av) h v d:=r.mono (fun b o e _ _=>e) fun b o e _ nb q=>(List.mem_append.mp q).elim (fun q=>nos (hn b q) e) nb
theorem Fm.grow0 {av fp:List Addr}{ow:Ow}{env:Env}{σ:Sto}{s s':Shared}(F:Fm g T av ow env σ s) (nl:ow.l=[]) (x:Ext g T s s') (hn:∀ b∈fp,s.heap.get? b=none) (ho:∀ b∈fp,WObj s'.heap b):Fm g T (fp++av) ow env σ s':=by
 have F₂:=F.ext x
 have had:=adr_nil nl
 refine ⟨F₂.gk,⟨F₂.ec.kind,F₂.ec.glob,F₂.ec.blt,fun a ha=>?_,fun y sl e=>?_,F₂.ec.cells⟩,F₂.ns,F₂.own,F₂.inj,F₂.off,F₂.reg,F₂.nd,fun a ha=>(not_adr nl ha).elim,F₂.isl⟩
 ·rw [had,List.nil_append] at ha
  exact (List.mem_append.mp ha).elim (fun q=>(ho a q).rec fun o e i=>⟨o,e,i.1.2⟩) fun q=>(F₂.av0 nl).avok a q
 ·cases F.ec.vars y sl e with | mk v l r =>
  refine ⟨v,l.ext x F.gk,?_⟩
  cases sl with
  | val d=>rw [had,List.nil_append] at r ⊢; exact x.vd F.gk (VD.more r hn)
  | own ds=>exact (F.reg y ds e).elim fun a p=>nomatch nl▸p.1
theorem AccOk.more {av fp:List Addr}{P:Addr}{pre:List D}{h:Heap}(acc:AccOk av P pre h) (hn:∀ b∈fp,h.get? b=none):AccOk (fp++av) P pre h:=acc.rec fun ys hp hv=>⟨ys,hp,hv.more hn⟩
theorem body_gen {n:Nat}{σ:Sto}{c:Comprehension}{cs:List Comprehension}{ds outs:List D}(hi:EvI prog w g T n sc σ c.target c.iter ds) (hf:NoSet c.iter) (hL:GLoop prog w g T sc on elt n σ c cs ds outs) :
  GBody prog w g T sc on elt n σ (c::cs) outs:=fun A scope pos P env ow av gens depth it s pre Q rm C hd has F acc hsz hQ=>by
 obtain ⟨h1,h2⟩:=drop_get hd
 rw [h1]
 show wpAny _ _ (eval c.iter env >>= fun x=>standAt c.iter.pos >>= fun _=>foldedSetIterable c.iter env x >>= fun x=>holding [x] (pyIter x) >>= fun i=>runOwn _ env >>= fun _=>again _) _ _ _
 refine wpAny_bind (wp_to (hi A s av env C.he rm F.gk (F.av0 C.nl)) fun x s₁ h₁=>wpAny_bind (wpAny_standAt ?_))
 rw [hf]
 refine wpAny_bind (wpAny_pure (wpAny_bind (wpAny_holding (wp_to h₁ fun i s₂ h₂=>?_))))
 cases h₂ with | mk x₂ fp hn hI =>
 cases hI [] (fun b hb=>nomatch hb) with | mk St I st =>
 rw [List.nil_append] at I
 have IC:ItC prog w g False av fp s₂.heap c.target i St:=⟨I,fun b hb=>F.gk.new (hn b hb),fun b hb hm=>((F.av0 C.nl).avok b hm).elim fun o p=>nos (hn b hb) p.1⟩
 have loop:codeAny (model prog w) (A.mark none) (.compLoop (.ListComp elt gens scope pos) (depth+1) i (.ref P) env) (fun r s'=>match r with
   | .ok f=>wpAny (model prog w) A (again (.compLoop (.ListComp elt gens scope pos) depth it (.ref P) env)) Q NoE s'
   | .error e=>cameBackBy (model prog w) A env NoE e s') s₂ :=
  hL (A.mark none) scope pos P env ow av fp i _ St gens (depth+1) s₂ pre _ ⟨rm.depth,rm.units,rm.hand⟩ C hd has IC (F.grow0 C.nl x₂ hn fun b hb=>(I.obj _ _ st b hb).wo) st ((acc.more hn).ext x₂ F.gk) hsz fun s' e =>
   wpAny_pure (hQ s' ⟨e.F,e.acc,Mv.trans x₂.mv e.m fun b hb=>hb.elim .inl fun q=>.inr (hn b q)⟩)
 exact wpAny_bind (wpAny_runOwn (compStart_any h1 (has _ (.head _)) loop (I.self _ _ _ _ (by exact rm.hand) st loop)))
theorem wp_turn {c:Comprehension}{cs:List Comprehension}{gens:List Comprehension}{depth:Nat}{scope:Scope}{pos:Pos}{it acc:Value}{A:Around}{env:Env}{R:Result→Shared→Prop}{s:Shared}(hd:gens.drop depth=c::cs) (has:∀ c'∈c::cs,c'.is_async=0)
  (h:wpAny (model prog w) A (do
   match ← pyNext it with
   | none=>pure (.done .next)
   | some v =>
    letOwnedTupleGo c.target it v
    assign c.target env v
    let ok ← (forIn c.ifs true fun c r=>if r=true then do let ok ← isTrue c env (eval c env); pure (ForInStep.yield ok) else pure (ForInStep.yield r):Sem Bool)
    if ok=true then (match gens[depth+1]? with
     | none=>(do (do let x ← eval elt env; let _ ← call (.builtin "list.append") [acc,x]; pure ()); again (.compLoop (.ListComp elt gens scope pos) depth it acc env))
     | some c'=>(do
      let x ← eval c'.iter env
      standAt c'.iter.pos
      let x ← foldedSetIterable c'.iter env x
      let i ← holding [x] (pyIter x)
      let _ ← runOwn (.compStart (.ListComp elt gens scope pos) (depth+1) i acc env) env
      again (.compLoop (.ListComp elt gens scope pos) depth it acc env)))
    else again (.compLoop (.ListComp elt gens scope pos) depth it acc env)) (fun fin s'=>match fin with | .done f=>R (.ok f) s' | .again c'=>c'.quiet=true∧codeAny (model prog w) A c' R s') NoE s) :
  codeAny (model prog w) A (.compLoop (.ListComp elt gens scope pos) depth it acc env) R s:=by
 refine codeAny_of_tree ?_
 show wpAny _ A ((compTurn (.ListComp elt gens scope pos) depth it acc env).onRaise (fun x=>do noteFrame x env; theTreesLotGoes x)) _ _ s
 refine wpAny_noted (wpAny_mono (E:=NoE) (Q:=fun fin s'=>match fin with | .done f=>R (.ok f) s' | .again c'=>c'.quiet=true∧codeAny (model prog w) A c' R s') ?_ (fun _ _ q=>q) fun _ _ f=>f.elim)
 rw [step_async hd has]
 exact wpAny_bind (wpAny_standAt h)
theorem loop_nil {n:Nat}{σ:Sto}{c:Comprehension}{cs:List Comprehension}:GLoop prog w g T sc on elt n σ c cs [] []:=fun A scope pos P env ow av fp it h0 St gens depth s pre R rm C hd has I F st acc hsz hR=>by
 refine wp_turn hd has (wpAny_bind (wp_to (I.I.done A s rm.hand st) fun r s₁ h₁=>?_))
 rw [h₁.1]
 have f₁:=F.changed' (av':=av) h₁.2 I.gf I.I.sub (fun a ha=>List.mem_append_right _ ha) (fun b hb=>(I.I.obj _ _ st b hb).wo) fun b hb hb'=>absurd hb' (I.fr b hb)
 refine wpAny_pure (hR s₁ ⟨f₁.F,?_,f₁.m.sub fun b hb=>.inl (.inr hb)⟩)
 rw [List.append_nil]
 exact (acc.seq (h₁.2.seq I.I.sub) fun vs k e=>h₁.2.get e (not_mem_acc I.I st acc)).sub fun a ha=>List.mem_append_right _ ha
theorem loop_yes {n:Nat}{σ:Sto}{c:Comprehension}{cs:List Comprehension}{d:D}{ds o os:List D}{b:Bd}(ht:Tg c.target d b) (hst:stAll sc on b) (hf:∀ p∈b,σ.lookup p.1=none) (hi:EvIfs prog w g T n sc (bindAll b σ) c.ifs true)
  (hb:GBody prog w g T sc on elt n (bindAll b σ) cs o) (hl:GLoop prog w g T sc on elt n σ c cs ds os):GLoop prog w g T sc on elt n σ c cs (d::ds) (o++os):=fun A scope pos P env ow av fp it h0 St gens depth s pre R rm C hd has I F st acc hsz hR=>by
 have hlen:=hsz
 rw [List.length_append] at hlen
 refine wp_turn hd has (turn_start (K:=fun ok=>if ok=true then _ else _) rm C I F st acc ht hst hi fun s₁ e₁ st₁=>?_)
 rw [if_pos rfl]
 have hPf:=not_mem_acc I.I st acc
 refine hb A scope pos P env ow (fp++av) gens depth it s₁ pre _ rm ⟨C.he,C.nl,C.oc,List.mem_append_right _ C.hP,C.gP⟩ (drop_get hd).2 (fun c' h=>has c' (.tail _ h)) e₁.F e₁.acc (by lia) fun s₂ e₂=>⟨rfl,?_⟩
 have st₂:=it_keep I.I st₁ e₁.F.gk e₂.m (fun b hb o e i h=>h.elim (wr_avoid e₁.F (not_adr C.nl) e i) fun q=>hPf (q▸hb)) fun b o e ho hw=>hw.elim (fun q=>(e₁.F.wseq0 C.nl b o e ho q).elim) fun q=>q▸List.mem_append_right _ C.hP
 refine hl A scope pos P env ow av fp it h0 St gens depth s₂ (pre++o) R rm C hd has I (e₂.F.weak (bindAll_weak hf)) st₂ e₂.acc (by rw [List.length_append]; lia) fun s₃ e₃=>?_
 have acc₃:=e₃.acc
 rw [List.append_assoc] at acc₃
 exact hR s₃ ⟨e₃.F,acc₃,Mv.trans e₁.m (Mv.trans (W:=AccW env ow P fp) (e₂.m.sub fun b hb=>.inl (.inl hb)) e₃.m fun b hb=>.inl hb) fun b hb=>.inl hb⟩
theorem loop_no {n:Nat}{σ:Sto}{c:Comprehension}{cs:List Comprehension}{d:D}{ds os:List D}{b:Bd}(ht:Tg c.target d b) (hst:stAll sc on b) (hf:∀ p∈b,σ.lookup p.1=none) (hi:EvIfs prog w g T n sc (bindAll b σ) c.ifs false)
  (hl:GLoop prog w g T sc on elt n σ c cs ds os):GLoop prog w g T sc on elt n σ c cs (d::ds) os:=fun A scope pos P env ow av fp it h0 St gens depth s pre R rm C hd has I F st acc hsz hR=>by
 refine wp_turn hd has (turn_start (K:=fun ok=>if ok=true then _ else _) rm C I F st acc ht hst hi fun s₁ e₁ st₁=>?_)
 rw [if_neg Bool.false_ne_true]
 exact wpAny_pure ⟨rfl,hl A scope pos P env ow av fp it h0 St gens depth s₁ pre R rm C hd has I (e₁.F.weak (bindAll_weak hf)) st₁ e₁.acc hsz fun s₃ e₃=>hR s₃ ⟨e₃.F,e₃.acc,Mv.trans e₁.m e₃.m fun b hb=>.inl hb⟩⟩
end
end
section
noncomputable def relabelS (scope sc:Scope):Scope :=
 { scope with names:=scope.names.map fun (n,k)=>if (k==.free&&sc.kind==.function&&sc.names.lookup n==some .cell) then (n,.cell) else (n,k) }
theorem relabel_eq {scope:Scope}{env:Env}:relabel scope env=relabelS scope env.scope:=rfl
noncomputable def cap (scope:Scope) (σ:Sto):Sto:=σ.filter fun p=>scope.names.lookup p.1==some .free
noncomputable def isVal:Sl→Bool
 | .val _=>true
 | .own _=>false
theorem cap_lookup (scope:Scope) (σ:Sto) (x:Str):(cap scope σ).lookup x=if scope.names.lookup x==some .free then σ.lookup x else none:=by
 induction σ with
 | nil=>exact (ite_self none).symm
 | cons p σ ih =>
  obtain ⟨y,sl⟩:=p
  unfold cap at ih ⊢
  rw [List.filter_cons,lookup_cons']
  by_cases q:x=y
  ·subst q
   rw [if_pos rfl]
   by_cases h:(scope.names.lookup x==some NameKind.free)=true
   ·rw [if_pos h,if_pos h,lookup_cons',if_pos rfl]
   ·rw [if_neg h,if_neg h,ih,if_neg h]
  ·rw [if_neg q, ← ih]
   by_cases h:(scope.names.lookup y==some NameKind.free)=true
   ·rw [if_pos h,lookup_cons',if_neg q]
   ·rw [if_neg h]
noncomputable def compOk (sc scope:Scope):Bool :=
 scope.kind==.function&&scope.names.all fun p =>
  match p.2 with
  | .local=>scope.names.lookup p.1==some .local
  | .free=>scope.names.lookup p.1==some .free&&(sc.names.lookup p.1==some .cell||sc.names.lookup p.1==some .free)&&okName p.1
  | .cell=>scope.names.lookup p.1==some .cell
  | _=>true
theorem ok_free {sc scope:Scope}{x:Str}(h:compOk sc scope=true) (hx:(x,NameKind.free)∈scope.names):scope.names.lookup x=some .free∧(sc.names.lookup x=some .cell∨sc.names.lookup x=some .free)∧okName x=true:=by
 have:=Bool.and_eq_true_iff.mp (List.all_eq_true.mp (Bool.and_eq_true_iff.mp h).2 _ hx)
 have t:=Bool.and_eq_true_iff.mp this.1
 exact ⟨eq_of_beq t.1,((Bool.or_eq_true _ _).mp t.2).imp eq_of_beq eq_of_beq,this.2⟩
theorem ok_loc {sc scope:Scope}{x:Str}(h:compOk sc scope=true) (hx:(x,NameKind.local)∈scope.names):scope.names.lookup x=some .local:=eq_of_beq (List.all_eq_true.mp (Bool.and_eq_true_iff.mp h).2 _ hx:(scope.names.lookup x==some .local)=true)
theorem ok_cel {sc scope:Scope}{x:Str}(h:compOk sc scope=true) (hx:(x,NameKind.cell)∈scope.names):scope.names.lookup x=some .cell:=eq_of_beq (List.all_eq_true.mp (Bool.and_eq_true_iff.mp h).2 _ hx:(scope.names.lookup x==some .cell)=true)
structure ClAt (env:Env) (names:List (Str×NameKind)) (cl:List (Str×Addr)):Prop where
 at_:∀ x c,cl.lookup x=some c→(x,NameKind.free)∈names∧env.cells.lookup x=some c
 all:∀ x,(x,NameKind.free)∈names→∃ c,cl.lookup x=some c
theorem closure_steps (env:Env):∀ (names done:List (Str×NameKind)) (acc:List (Str×Addr)),(∀ x,(x,NameKind.free)∈names→∃ c,env.cells.lookup x=some c)→ClAt env done acc →
  ∃ cl,(forIn names acc fun x r=>(if x.2==.free then do let c ← cellOf env x.1; pure (ForInStep.yield ((x.1,c)::r)) else pure (ForInStep.yield r)):Sem (List (Str×Addr)))=pure cl∧ClAt env (names++done) cl
 | [],done,acc,_,h=>⟨acc,rfl,h⟩
 | (y,k)::r,done,acc,h,H=>by
  have go:=fun acc H=>closure_steps env r ((y,k)::done) acc (fun x hx=>h x (.tail _ hx)) H
  have per:∀ {cl},ClAt env (r++(y,k)::done) cl→ClAt env ((y,k)::r++done) cl:=fun z=>⟨fun x c e=>(z.at_ x c e).imp (fun m=>List.perm_middle.subset m) id,fun x m=>z.all x (List.perm_middle.symm.subset m)⟩
  rw [List.forIn_cons]
  by_cases hk:(k==NameKind.free)=true
  ·cases eq_of_beq hk
   obtain ⟨c,hc⟩:=h y (.head _)
   rw [if_pos hk]
   unfold cellOf
   rw [hc]
   refine (go ((y,c)::acc) ⟨fun x c' e=>?_,fun x m=>?_⟩).imp fun cl p=>⟨p.1,per p.2⟩
   ·rcases lookup_hit e with ⟨rfl,rfl⟩ | ⟨_,e⟩
    ·exact ⟨.head _,hc⟩
    ·exact (H.at_ x c' e).imp (.tail _) id
   ·rw [lookup_cons']
    by_cases q:x=y
    ·exact ⟨c,if_pos q⟩
    ·rw [if_neg q]
     exact H.all x ((List.mem_cons.mp m).resolve_left fun z=>q (congrArg Prod.fst z))
  ·rw [if_neg hk]
   exact (go acc ⟨fun x c e=>(H.at_ x c e).imp (.tail _) id,fun x m=>H.all x ((List.mem_cons.mp m).resolve_left fun z=>hk (beq_iff_eq.mpr (congrArg Prod.snd z).symm))⟩).imp fun cl p=>⟨p.1,per p.2⟩
theorem closureFor_eq {scope:Scope}{env:Env}(h:∀ x,(x,NameKind.free)∈scope.names→∃ c,env.cells.lookup x=some c):∃ cl,closureFor scope env=pure cl∧ClAt env scope.names cl:=by
 obtain ⟨cl,e,H⟩:=closure_steps env scope.names [] [] h ⟨fun x c e=>(nomatch e),fun x m=>nomatch m⟩
 rw [List.append_nil] at H
 exact ⟨cl,(congrArg (fun m:Sem (List (Str×Addr))=>m >>= fun s=>pure s) e).trans rfl,H⟩
theorem mem_lookup {names:List (Str×NameKind)}{x:Str}{k:NameKind}(h:names.lookup x=some k):(x,k)∈names:=mem_of_lookup h
theorem relabel_lookup (scope sc:Scope) (x:Str):(relabelS scope sc).names.lookup x=(scope.names.lookup x).map fun k=>if (k==.free&&sc.kind==.function&&sc.names.lookup x==some .cell) then .cell else k:=by
 show List.lookup x (scope.names.map _)=_
 induction scope.names with
 | nil=>rfl
 | cons p r ih =>
  obtain ⟨y,k⟩:=p
  rw [List.map_cons,show (match ((y,k):Str×NameKind) with | (n,k)=>if (k==.free&&sc.kind==.function&&sc.names.lookup n==some .cell)=true then (n,NameKind.cell) else (n,k))=(y,if (k==.free&&sc.kind==.function&&sc.names.lookup y==some .cell)=true then .cell else k) by dsimp only; split <;> rfl,lookup_cons',lookup_cons',ih]
  by_cases q:x=y
  ·rw [if_pos q,if_pos q,q]; rfl
  ·rw [if_neg q,if_neg q]
theorem relabel_cell {scope sc:Scope}{x:Str}(h:(relabelS scope sc).names.lookup x=some .cell∨(relabelS scope sc).names.lookup x=some .free):scope.names.lookup x=some .free∨scope.names.lookup x=some .cell:=by
 rw [relabel_lookup] at h
 rcases h with h | h <;> obtain ⟨k,e,hk⟩:=Option.map_eq_some_iff.mp h <;> rw [e] <;> cases k <;> first | exact .inl rfl | exact .inr rfl | cases hk
theorem relabel_free {scope sc:Scope}{x:Str}(h:scope.names.lookup x=some .free):(relabelS scope sc).names.lookup x=some .cell∨(relabelS scope sc).names.lookup x=some .free:=by
 rw [relabel_lookup,h,Option.map_some]
 split
 ·exact .inl rfl
 ·exact .inr rfl
theorem Ext.trans_mv {g:Heap}{T:Tabs}{s s' s'':Shared}{W:Addr→Prop}(x:Ext g T s s') (y:Mv g T W s' s'') (h:∀ b,W b→s.heap.get? b=Option.none):Ext g T s s'' :=
 (Mv.trans (W:=fun _=>False) x.mv y fun b hb=>.inr (h b hb)).ext fun _ f=>f.elim
structure CompA (prog:Program) (w:World) (g:Heap) (T:Tabs) (K:Prop) (sc scope:Scope) (σ:Sto) (tg:Expr) (ds:List D) (av:List Addr) (s:Shared) (P:Addr) (env:Env) (fp:List Addr) (it:Value) (h0:Heap) (St:List D→Heap→Prop) (s₄:Shared):Prop where
 C:CtxC g (relabelS scope sc) (cellNames scope.names) P env ⟨[],cellNames scope.names⟩ ([P]++av)
 I:ItC prog w g K ([P]++av) fp h0 tg it St
 F:Fm g T (fp++([P]++av)) ⟨[],cellNames scope.names⟩ env (cap scope σ) s₄
 st:St ds s₄.heap
 acc:AccOk (fp++([P]++av)) P [] s₄.heap
 x:Ext g T s s₄
 hP:s.heap.get? P=none
 hC:s.heap.get? env.locals=none
 ne:env.locals≠P
 w:∀ b,AccW env ⟨[],cellNames scope.names⟩ P fp b→s.heap.get? b=none
section
variable {prog:Program}{w:World}{g:Heap}{T:Tabs}{n:Nat}{sc scope:Scope}{σ:Sto}{elt:Expr}{c:Comprehension}{cs:List Comprehension}{pos:Pos}{ds outs:List D}{A:Around}{s:Shared}{av:List Addr}{env:Env}{p:Pos}{use:Option (Value→Sem Unit)}{Q:Value→Shared→Prop}{K:Prop}
theorem cap_caught {cl:List (Str×Addr)}{cenv:Env}{s₃:Shared}{av':List Addr}(hok:compOk sc scope=true) (hcap:((cap scope σ).all fun p=>isVal p.2)=true) (he:env.scope=sc) (hc:EC av env σ s.heap) (H:ClAt env scope.names cl) (hk:∀ x,cenv.kindOf x=(relabelS scope sc).names.lookup x)
  (kl:∀ x v,Loads env s.heap x v→Loads env s₃.heap x v) (kd:∀ v d,VD av s.heap v d→VD av' s₃.heap v d):∀ x sl,(cap scope σ).lookup x=some sl→CapV cenv scope.names cl av' s₃.heap x sl:=fun x sl e=>by
 have hv:=List.all_eq_true.mp hcap _ (mem_of_lookup e)
 rw [cap_lookup] at e
 by_cases hq:(scope.names.lookup x==some .free)=true
 ·rw [if_pos hq] at e
  have hq:=eq_of_beq hq
  have hm:=mem_lookup hq
  cases hc.vars x sl e with | mk v l r =>
  obtain ⟨cc,hcc⟩:=H.all x hm
  obtain ⟨h1,h2,h3⟩:=ok_free hok hm
  cases sl with
  | own ds=>exact (disc tgS hv rfl).elim
  | val d =>
   refine ⟨d,cc,v,h3,by rw [hk]; exact relabel_free hq,fun q=>(nomatch (ok_cel hok q).symm.trans hq),hcc,?_,kd _ _ r⟩
   cases kl x v l with
   | loc _ k=>rw [Env.kindOf,he] at k; exact h2.elim (fun q=>nomatch q.symm.trans k) fun q=>nomatch q.symm.trans k
   | cel _ _ c' e' hv=>exact sinj (H.at_ x cc hcc).2 e'▸hv
 ·rw [if_neg hq] at e; exact nomatch e
theorem comp_frame (hsd:NoSet c.iter) (hok:compOk sc scope=true) (hcap:((cap scope σ).all fun p=>isVal p.2)=true) (hi:EvK prog w g T K n sc σ c.target c.iter ds) (ha:c.is_async=0) (he:env.scope=sc) (rm:Rm n A) (hg:GK g T s) (hc:EC av env σ s.heap)
  (h:∀ P cenv fp it h0 St s₄,CompA prog w g T K sc scope σ c.target ds av s P cenv fp it h0 St s₄→codeAny (model prog w) A (.compLoop (.ListComp elt (c::cs) scope pos) 0 it (.ref P) cenv) (compPost (model prog w) A NoE use Q (.ref P) cenv.locals) s₄) :
  wpAny (model prog w) A (comprehension (.ListComp elt (c::cs) scope pos) scope env p (newList []) false (eval c.iter env) use) Q NoE s:=by
 have hout:∀ x,(x,NameKind.free)∈scope.names→env.kindOf x=some .cell∨env.kindOf x=some .free:=fun x m=>by rw [Env.kindOf,he]; exact (ok_free hok m).2.1
 obtain ⟨cl,hcl,H⟩:=closureFor_eq (scope:=scope) (env:=env) fun x m=>(hc.cells x (hout x m)).imp fun _ p=>p.1
 refine wpAny_comprehension_free rfl (fun x=>hsd env x) hcl (eq_of_beq (Bool.and_eq_true_iff.mp hok).1) (fun x hx hl=>ok_loc hok (x:=x.1) (hl▸hx)) (wp_to (hi A s av env he rm hg hc) fun x s₁ h₁=>wp_to h₁ fun it s₂ h₂=>?_)
 cases h₂ with | mk x₂ fp hn hI =>
 have hz:=size_fresh s₂.heap
 cases hI [s₂.heap.objs.size] (f1 s₂) with | mk St I st =>
 have g₂:=x₂.gk hg
 refine wpAny_newObj_type ?_
 generalize hs3:({ s₂ with heap:=s₂.heap.push { cls:=.type "list",dict:=none,data:=.seq ([]:List Value).toArray } }:Shared)=s₃
 have x₃:Ext g T s₂ s₃:=hs3▸.push _
 have g₃:=x₃.gk g₂
 have hP3:s₃.heap.get? s₂.heap.objs.size=some (lstO [] 0):=hs3▸Heap.get?_push_size _ rfl
 have k₃:∀ b o,s₂.heap.get? b=some o→s₃.heap.get? b=some o:=hs3▸push_keeps _ _
 have hPs:s.heap.get? s₂.heap.objs.size=none:=x₂.none hg hz
 have x₂₃:=x₂.trans x₃
 have hnav:∀ b∈fp++[s₂.heap.objs.size],s.heap.get? b=none:=fun b hb=>(List.mem_append.mp hb).elim (hn b) fun q=>List.mem_singleton.mp q▸hPs
 have av₃:AvOk (fp++([s₂.heap.objs.size]++av)) s₃.heap:=fun a ha=>by
  rcases List.mem_append.mp ha with q | q
  ·exact (I.obj _ _ st a q).rec fun o e i _ _=>⟨o,k₃ _ _ e,i.1.2⟩
  ·exact (List.mem_append.mp q).elim (fun q=>⟨_,List.mem_singleton.mp q▸hP3,nt_lst _ _⟩) ((hc.avok.ext x₂₃ hg) a)
 refine wp_newEnv fun cenv hcenv=>?_
 rw [List.forIn_nil]
 refine wpAny_pure ?_
 have hC:cenv.locals=s₃.heap.objs.size:=by rw [hcenv]; rfl
 have hsc:(relabel scope env)=relabelS scope sc:=by rw [relabel_eq,he]
 generalize hce':({ cenv with scope:=relabel scope env }:Env)=cenv'
 have hloc:cenv'.locals=cenv.locals:=hce'▸rfl
 have N:NewEnv scope.names cl s₃.heap cenv':=hce'▸⟨eq_of_beq (Bool.and_eq_true_iff.mp hok).1,hcenv▸hc.glob,hcenv▸hc.blt,hC,by rw [hcenv]; rfl⟩
 have hkinds:∀ x,cenv'.kindOf x=(relabelS scope sc).names.lookup x:=fun x=>by rw [← hce',Env.kindOf,hsc]
 have fr:=Fm.fresh (b:=true) (tk:=s₃.toks) (σ:=cap scope σ) N g₃ av₃ (fun x c e=>((hc.ext x₂₃ hg).cells x (hout x (H.at_ x c e).1)).elim fun _ p=>sinj p.1 (H.at_ x c e).2▸p.2)
  (fun x hx=>(relabel_cell (hkinds x▸hx)).elim (fun q=>.inr ((H.all x (mem_lookup q)).elim fun _ e=>by rw [e]; rfl)) fun q=>.inl (mem_lookup q))
  (cap_caught hok hcap he hc H hkinds (fun x v l=>l.ext x₂₃ hg) fun v d r=>x₂₃.vd hg (by rw [← List.append_assoc]; exact r.more hnav))
 show codeAny _ _ _ _ { s₃ with heap:=frameHeap scope.names true s₃.heap }
 generalize hs4:({ s₃ with heap:=frameHeap scope.names true s₃.heap,toks:=s₃.toks }:Shared)=s₄ at fr
 have k₄:∀ b o,s₃.heap.get? b=some o→s₄.heap.get? b=some o:=hs4▸frameHeap_keeps
 have ks:KeepSeq (fp++([s₂.heap.objs.size]++av)) s₂.heap s₄.heap:=.of_keeps fun b o e=>k₄ _ _ (k₃ _ _ e)
 have st₄:St ds s₄.heap:=I.frame _ _ _ st (fun b _ o e=>k₄ _ _ (k₃ _ _ e)) ks
 have loop:=h s₂.heap.objs.size cenv' fp it s₂.heap St s₄ {
  C:=⟨by rw [← hce']; exact hsc,rfl,rfl,.head _,hg.new hPs⟩
  I:=⟨I,fun b hb=>hg.new (hn b hb),fun b hb hm=>(List.mem_append.mp hm).elim (fun q=>(I.obj _ _ st b hb).rec fun o e _ _ _=>nos hz (List.mem_singleton.mp q▸e)) fun q=>(hc.avok b q).elim fun o p=>nos (hn b hb) p.1⟩
  F:=fr.F
  st:=st₄
  acc:=⟨#[],⟨0,k₄ _ _ hP3⟩,.nil⟩
  x:=x₂₃.trans fr.x
  hP:=hPs
  hC:=by rw [hloc,hC]; exact x₂₃.none hg (size_fresh _)
  ne:=fun q=>nos (size_fresh s₃.heap) (hC▸hloc▸q▸hP3)
  w:=fun b hb=>hb.elim (fun q=>q.elim (fun q=>x₂₃.none hg (fr.w b q)) fun q=>q▸hPs) (hn b) }
 rw [← hloc]
 exact compStart_any rfl ha loop (I.self _ _ _ _ rm.hand st₄ loop)
theorem comp_core (has:∀ c'∈c::cs,c'.is_async=0) (hsd:NoSet c.iter) (hok:compOk sc scope=true) (hcap:((cap scope σ).all fun p=>isVal p.2)=true)
  (hi:EvI prog w g T n sc σ c.target c.iter ds) (hl:GLoop prog w g T (relabelS scope sc) (cellNames scope.names) elt n (cap scope σ) c cs ds outs) (hsz:outs.length≤lim) (he:env.scope=sc) (rm:Rm n A) (hg:GK g T s) (hc:EC av env σ s.heap)
  (hQ:∀ P C s',Ext g T s s'→s.heap.get? P=none→s.heap.get? C=none→C≠P→AccOk (P::av) P outs s'.heap→(∃ m,s'.heap.Ns C m)→compPost (model prog w) A NoE use Q (.ref P) C (.ok .next) s') :
  wpAny (model prog w) A (comprehension (.ListComp elt (c::cs) scope pos) scope env p (newList []) false (eval c.iter env) use) Q NoE s :=
 comp_frame hsd hok hcap hi (has _ (.head _)) he rm hg hc fun P cenv fp it h0 St s₄ a=>hl A scope pos _ _ _ _ fp it _ St (c::cs) 0 s₄ [] _ rm a.C rfl has a.I a.F a.st a.acc (by rw [List.length_nil,Nat.zero_add]; exact hsz) fun s' e =>
  hQ _ _ s' (a.x.trans_mv e.m a.w) a.hP a.hC a.ne e.acc e.F.ns
end
end
section
inductive OutO (g:Heap) (T:Tabs) (av:List Addr) (s:Shared) (ds:List D):Value→Shared→Prop
 | mk {P:Addr}{vs:List Value}{k:Nat}{s':Shared}(x:Ext g T s s') (hn:s.heap.get? P=none) (ho:s'.heap.get? P=some (lstO vs k)) (hd:VDs (P::av) s'.heap vs ds):OutO g T av s ds (.ref P) s'
section
variable (prog:Program) (w:World) (g:Heap) (T:Tabs)
noncomputable def EvO (n:Nat) (sc:Scope) (σ:Sto) (e:Expr) (ds:List D):Prop :=
 ∀ (A:Around) (s:Shared) (av:List Addr) (env:Env),env.scope=sc→Rm n A→GK g T s→EC av env σ s.heap→wpAny (model prog w) A (eval e env) (OutO g T av s ds) NoE s
end
section
variable {prog:Program}{w:World}{g:Heap}{T:Tabs}{n:Nat}{sc scope:Scope}{σ:Sto}{elt e:Expr}{c:Comprehension}{cs:List Comprehension}{pos:Pos}{ds outs:List D}
theorem av_new {av:List Addr}{h:Heap}{P:Addr}(a:AvOk av h) (hP:h.get? P=none):P∉av:=fun hm=>(a P hm).elim fun _ p=>nos hP p.1
theorem EvO.ev (h:EvO prog w g T n sc σ e ds):Ev prog w g T n sc σ e (.lst ds):=fun A s av env he rm hg hc=>wp_to (h A s av env he rm hg hc) fun v s' hv=>by
 cases hv with | mk x hn ho hd=>exact ⟨x,.lst (av_new hc.avok hn) ho (hd.sub fun a ha=>.tail _ ha)⟩
theorem comp_end {s s':Shared}{av:List Addr}{P C:Addr}{h':Heap}(x:Ext g T s s') (hg:GK g T s) (hP:s.heap.get? P=none) (hC:s.heap.get? C=none) (hne:C≠P) (acc:AccOk (P::av) P outs s'.heap) {m:Str→Option Value}(hm:s'.heap.Ns C m) (hs:Heap.SameBut C s'.heap h') :
  OutO g T av s outs (.ref P) { s' with heap:=h' }:=by
 have ⟨o,_,_,ho,_⟩:=hm
 have mv:Mv g T (fun b=>b=C) s' { s' with heap:=h' }:=Mv.one (tk:=s'.toks) hs ho (ns_noc hm ho) (hg.new hC) rfl
 have ks:KeepSeq (P::av) s'.heap h':=fun b o' e ho' _=>(hs.2 b fun q=>ns_nsq hm (q▸e) ho').trans e
 cases acc with | mk ys p r=>exact p.elim fun k e=>⟨x.trans_mv mv fun b hb=>hb▸hC,hP,(hs.2 P (Ne.symm hne)).trans e,r.keep ks⟩
theorem first_async (ha:c.is_async=0):firstAsync (c::cs)=false:=by cases c; cases ha; rfl
theorem first_iter (env:Env):firstIter (c::cs) env=eval c.iter env:=by cases c; rfl
theorem EvO.comp (has:∀ c'∈c::cs,c'.is_async=0) (hsd:NoSet c.iter) (hok:compOk sc scope=true) (hcap:((cap scope σ).all fun p=>isVal p.2)=true)
  (hi:EvI prog w g T n sc σ c.target c.iter ds) (hl:GLoop prog w g T (relabelS scope sc) (cellNames scope.names) elt n (cap scope σ) c cs ds outs) (hsz:outs.length≤lim) :
  EvO prog w g T n sc σ (.ListComp elt (c::cs) scope pos) outs:=fun A s av env he rm hg hc=>by
 rw [eval_ListComp,first_async (has _ (.head _)),first_iter]
 exact comp_core has hsd hok hcap hi hl hsz he rm hg hc fun P C s' x hP hC hne acc hn=>hn.elim fun m hm=>⟨m,hm,fun h' hs=>comp_end x hg hP hC hne acc hm hs⟩
theorem EvO.list {es:List Expr}(h:EvL prog w g T n sc σ es ds) (hz:ds.length≤lim):EvO prog w g T n sc σ (.List es pos) ds:=fun A s av env he rm hg hc =>
 wpAny_List (wp_to (h.run A s av env pos he rm hg hc) fun vs s₁ h₁=>⟨fits h₁.2 hz,h₁.1.trans (.push _),h₁.1.none hg (size_fresh _),Heap.get?_push_size _ rfl,(h₁.2.avoid (size_fresh s₁.heap)).keep (.of_keeps (push_keeps s₁ (lstO vs 0)))⟩)
end
end
section
theorem VD.to {av av':List Addr}{h:Heap}{v:Value}{d:D}(r:VD av h v d) (hz:∀ b∈av',b∈av∨h.get? b=Option.none):VD av' h v d:=r.mono (fun _ _ e _ _=>e) fun b o e _ nb q=>(hz b q).elim nb fun z=>nos z e
theorem VDs.to {av av':List Addr}{h:Heap}{v:List Value}{d:List D}(r:VDs av h v d) (hz:∀ b∈av',b∈av∨h.get? b=Option.none):VDs av' h v d:=r.mono (fun _ _ e _ _=>e) fun b o e _ nb q=>(hz b q).elim nb fun z=>nos z e
section
variable {prog:Program}{w:World}{A:Around}{g:Heap}{T:Tabs}{s s' s'':Shared}{av av':List Addr}{ow:Ow}{env:Env}{σ:Sto}{x y:Str}{b:Addr}{ds:List D}{vs:List Value}{n:Nat}{sl:Sl}{u v:Value}
theorem own_adr (h:(x,b)∈ow.l):b∈ow.adr:=List.mem_map.mpr ⟨_,h,rfl⟩
theorem app_sub {l r r':List Addr}(h:∀ a∈r',a∈r):∀ a∈l++r',a∈l++r:=fun _ ha=>(List.mem_append.mp ha).elim (List.mem_append_left _) fun q=>List.mem_append_right _ (h _ q)
theorem Fm.shrink (F:Fm g T av ow env σ s) (hs:∀ a∈av',a∈av):Fm g T av' ow env σ s :=
 ⟨F.gk,⟨F.ec.kind,F.ec.glob,F.ec.blt,fun a ha=>F.ec.avok a (app_sub hs a ha),fun x sl e=>(F.ec.vars x sl e).rec fun v l r=>⟨v,l,F.slot_to e l r (app_sub hs) fun b hb=>List.mem_append_left _ (own_adr hb)⟩,F.ec.cells⟩,F.ns,F.own,F.inj,F.off,F.reg,F.nd,fun a ha q=>F.apt a ha (hs a q),F.isl⟩
theorem Fm.grow {fp:List Addr}(F:Fm g T av ow env σ s) (x:Ext g T s s') (hn:∀ b∈fp,s.heap.get? b=none) (ho:∀ b∈fp,∃ o,s'.heap.get? b=some o∧NT o):Fm g T (fp++av) ow env σ s':=by
 have F':=F.ext x
 have hz:∀ b∈ow.adr++(fp++av),b∈ow.adr++av∨s.heap.get? b=none:=fun b hb=>by
  rcases List.mem_append.mp hb with q | q
  ·exact .inl (List.mem_append_left _ q)
  ·exact (List.mem_append.mp q).elim (fun q=>.inr (hn b q)) fun q=>.inl (List.mem_append_right _ q)
 refine ⟨F'.gk,⟨F.ec.kind,F.ec.glob,F.ec.blt,fun a ha=>?_,fun y sl e=>?_,F'.ec.cells⟩,F'.ns,F'.own,F'.inj,F'.off,F'.reg,F'.nd,fun a ha q=>?_,F'.isl⟩
 ·rcases List.mem_append.mp ha with q | q
  ·exact F'.ec.avok a (List.mem_append_left _ q)
  ·exact (List.mem_append.mp q).elim (ho a) fun q=>F'.ec.avok a (List.mem_append_right _ q)
 ·cases F.ec.vars y sl e with | mk v l r =>
  refine ⟨v,l.ext x F.gk,?_⟩
  cases sl with
  | val d=>exact x.vd F.gk (VD.to r hz)
  | own ds =>
   obtain ⟨a,hm,l'⟩:=F.reg y ds e
   cases r with | mk m e r=>cases l.uniq l'; exact ⟨List.mem_append_left _ (own_adr hm),x.get' F.gk e (nt_lst _ _),x.vds F.gk (r.to hz)⟩
 ·exact (List.mem_append.mp q).elim (fun q=>(F.isl a ha).elim fun _ p=>p.elim fun _ e=>nos (hn a q) e) (F.apt a ha)
theorem Fm.freeze (F:Fm g T av ow env σ s) (h:σ.lookup x=some (.own ds)):Fm g T av (ow.drop x) env ((x,.val (.lst ds))::σ) s:=by
 have hss:∀ a∈(ow.drop x).adr++av,a∈ow.adr++av:=sub_app fun _=>Ow.adr_drop
 refine ⟨F.gk,⟨F.ec.kind,F.ec.glob,F.ec.blt,fun a ha=>F.ec.avok a (hss a ha),fun y sl e=>?_,F.ec.cells⟩,F.ns,F.own,F.inj,fun b hb=>F.off b hb.drop,fun y es e=>?_,Ow.nd_drop F.nd,fun a ha=>F.apt a (Ow.adr_drop ha),fun a ha=>F.isl a (Ow.adr_drop ha)⟩
 ·rcases lookup_hit e with ⟨rfl,rfl⟩ | ⟨q,e⟩
  ·cases F.ec.vars y _ h with | mk v l r =>
   obtain ⟨a,hm,l'⟩:=F.reg y ds h
   cases r with | mk m e r =>
   cases l.uniq l'
   exact ⟨_,l,.lst (fun q=>(List.mem_append.mp q).elim (Ow.drop_out F.nd hm) (F.apt a (own_adr hm))) e (r.sub hss)⟩
  ·exact (F.ec.vars y sl e).rec fun v l r=>⟨v,l,F.hold y sl q e v l r⟩
 ·rcases lookup_hit e with ⟨_,z⟩ | ⟨q,e⟩
  ·exact nomatch z
  ·exact (F.reg y es e).imp fun a p=>⟨Ow.mem_drop p.1 q,p.2⟩
inductive Nx (g:Heap) (T:Tabs) (av:List Addr) (ow:Ow) (env:Env) (s:Shared) (σ':Sto) (s':Shared):Prop
 | mk (ow':Ow) (c:ow'.c=ow.c) (F:Fm g T av ow' env σ' s') (m:Mv g T (Wr env ow) s s') (w:∀ b,Wr env ow' b→Wr env ow b∨s.heap.get? b=none)
theorem wr_add {P:Addr}(hn:s.heap.get? P=none):∀ b,Wr env (ow.add x P) b→Wr env ow b∨s.heap.get? b=none:=by
 rintro b (q | q | q)
 ·exact .inl (.inl q)
 ·exact .inl (.inr (.inl q))
 ·exact (List.mem_cons.mp q).elim (fun q=>.inr (q▸hn)) fun q=>.inl (.inr (.inr (Ow.adr_drop q)))
theorem Fm.adopt {P:Addr}(F:Fm g T ([P]++av) ow env σ s) (hx:σ.lookup x=some (.val (.adr P))) (hP:P∉av) (hg:g.get? P=none) (e:s.heap.get? P=some (lstO vs n)) (r:VDs (P::(ow.adr++av)) s.heap vs ds):Fm g T av (ow.add x P) env ((x,.own ds)::σ) s:=by
 have hin:∀ a∈(ow.add x P).adr,a=P∨a∈ow.adr:=fun a ha=>(List.mem_cons.mp ha).imp id Ow.adr_drop
 have hss:∀ a∈(ow.add x P).adr++av,a∈P::(ow.adr++av):=fun a ha=>(List.mem_append.mp ha).elim (fun q=>(hin a q).elim (fun q=>q▸.head _) fun q=>.tail _ (List.mem_append_left _ q)) fun q=>.tail _ (List.mem_append_right _ q)
 have hs2:∀ a∈(ow.add x P).adr++av,a∈ow.adr++([P]++av):=fun a ha=>(List.mem_cons.mp (hss a ha)).elim (fun q=>q▸List.mem_append_right _ (.head _)) fun q=>app_sub (fun _=>.tail _) a q
 refine ⟨F.gk,⟨F.ec.kind,F.ec.glob,F.ec.blt,fun a ha=>F.ec.avok a (hs2 a ha),fun y sl q=>?_,F.ec.cells⟩,F.ns,F.own,F.inj,fun b hb=>?_,fun y es q=>?_,List.nodup_cons.mpr ⟨fun q=>F.apt P (Ow.adr_drop q) (.head _),Ow.nd_drop F.nd⟩,fun a ha q=>(hin a ha).elim (fun z=>hP (z▸q)) fun z=>F.apt a z (.tail _ q),fun a ha=>(hin a ha).elim (fun z=>z▸⟨_,_,e⟩) (F.isl a)⟩
 ·rcases lookup_hit q with ⟨rfl,rfl⟩ | ⟨z,q⟩
  ·exact ⟨_,F.ec.adr hx,⟨List.mem_append_left _ (.head _),e,r.sub hss⟩⟩
  ·exact (F.ec.vars y sl q).rec fun v l r=>⟨v,l,F.slot_to q l r hs2 fun b hb=>List.mem_append_left _ (.tail _ (own_adr (Ow.mem_drop hb z)))⟩
 ·rcases hb with q | q | q
  ·exact F.off b (.inl q)
  ·exact F.off b (.inr (.inl q))
  ·exact (hin b q).elim (fun z=>z▸hg) fun z=>F.off b (.inr (.inr z))
 ·rcases lookup_hit q with ⟨rfl,_⟩ | ⟨z,q⟩
  ·exact ⟨P,.head _,F.ec.adr hx⟩
  ·exact (F.reg y es q).imp fun b p=>⟨.tail _ (Ow.mem_drop p.1 z),p.2⟩
theorem Fm.grow1 {P:Addr}(F:Fm g T av ow env σ s) (x:Ext g T s s') (hn:s.heap.get? P=none) (ho:s'.heap.get? P=some (lstO vs n)):Fm g T ([P]++av) ow env σ s':=F.grow x (fun b hb=>List.mem_singleton.mp hb▸hn) fun b hb=>List.mem_singleton.mp hb▸⟨_,ho,nt_lst _ _⟩
theorem Fm.adopt' {P:Addr}{ow':Ow}{σ':Sto}(F:Fm g T av ow env σ s) (xe:Ext g T s s') (hn:s.heap.get? P=none) (ho:s'.heap.get? P=some (lstO vs n)) (hd:VDs (P::(ow.adr++av)) s'.heap vs ds) (m:Mv g T (Wr env ow) s' s'') (hw:∀ p∈ow'.l,p∈ow.l) (F':Fm g T ([P]++av) ow' env σ' s'') (hx:σ'.lookup x=some (.val (.adr P))) :
  Fm g T av (ow'.add x P) env ((x,.own ds)::σ') s'':=by
 have F₁:=F.grow1 xe hn ho
 have hna:=av_new F.ec.avok hn
 have hnw:¬ Wr env ow P:=fun q=>(F.wr_ex q).elim fun _ e=>nos hn e
 have ks:=m.seq F₁.gk (av:=P::(ow.adr++av)) fun b o e ho hw=>.tail _ (List.mem_append_left _ (F₁.wlst e ho hw))
 have hs:∀ a∈ow'.adr,a∈ow.adr:=fun a ha=>let ⟨p,hp,z⟩:=List.mem_map.mp ha; List.mem_map.mpr ⟨p,hw p hp,z⟩
 exact F'.adopt hx (fun q=>hna (List.mem_append_right _ q)) (F.gk.new hn) (m.get' F₁.gk ho hnw (nt_lst _ _)) ((hd.keep ks).sub fun a ha=>(List.mem_cons.mp ha).elim (fun q=>q▸.head _) fun q=>.tail _ (sub_app hs a q))
structure StoV (g:Heap) (T:Tabs) (av:List Addr) (ow:Ow) (env:Env) (s:Shared) (σ':Sto) (s₁ s₂:Shared):Prop where
 nx:Nx g T av ow env s σ' s₂
 m:Mv g T (Wr env ow) s₁ s₂
theorem wp_storeV {d:D}(F:Fm g T av ow env σ s) (hc:Canst env ow.c x) (xe:Ext g T s s') (hv:VD (ow.adr++av) s'.heap v d):wpAny (model prog w) A (storeName env x v) (fun _ s₂=>StoV g T av ow env s ((x,.val d)::σ) s' s₂) NoE s' :=
 wp_to (wp_store (F.ext xe) hc hv) fun _ s₂ h=>⟨⟨Ow.drop x ow,rfl,h.F,Mv.trans xe.mv h.m fun b h=>.inl h,fun b h=>.inl h.drop⟩,h.m⟩
theorem wp_storeOwn' {P:Addr}(F:Fm g T av ow env σ s) (hc:Canst env ow.c x) (xe:Ext g T s s') (hn:s.heap.get? P=none) (ho:s'.heap.get? P=some (lstO vs n)) (hd:VDs (P::(ow.adr++av)) s'.heap vs ds) :
  wpAny (model prog w) A (storeName env x (.ref P)) (fun _ s₂=>StoV g T av ow env s ((x,.own ds)::σ) s' s₂) NoE s' :=
 wp_to (wp_store (F.grow1 xe hn ho) hc (.adr P)) fun _ s₂ h=>⟨⟨(Ow.drop x ow).add x P,rfl,(F.adopt' xe hn ho hd h.m (fun p hp=>(List.mem_filter.mp hp).1) h.F (by rw [lookup_cons',if_pos rfl])).weak fun y sl e=>by
   rw [lookup_cons'] at e ⊢
   by_cases q:y=x
   ·rw [if_pos q] at e ⊢; exact e
   ·rw [if_neg q] at e ⊢; rw [lookup_cons',if_neg q]; exact e,Mv.trans xe.mv h.m fun b h=>.inl h,fun b hb=>(wr_add hn b hb).imp Wr.drop id⟩,h.m⟩
end
end
section
noncomputable def frz:Sl→Sl
 | .own ds=>.val (.lst ds)
 | sl=>sl
noncomputable def froz (σ:Sto):Sto:=σ.map fun p=>(p.1,frz p.2)
theorem froz_lookup (σ:Sto) (x:Str):(froz σ).lookup x=(σ.lookup x).map frz:=by
 induction σ with
 | nil=>rfl
 | cons p σ ih =>
  obtain ⟨y,sl⟩:=p
  show List.lookup x ((y,frz sl)::froz σ)=_
  rw [lookup_cons',lookup_cons',ih]
  split <;> rfl
inductive Rz where
 | next (σ:Sto) | cont (σ:Sto) | brk (σ:Sto) | ret (d:D)
section
variable (g:Heap) (T:Tabs) (av:List Addr) (ow:Ow) (env:Env) (s:Shared)
inductive Mtch:Rz→Flow→Shared→Prop
 | next {σ':Sto}{s':Shared}(n:Nx g T av ow env s σ' s'):Mtch (.next σ') .next s'
 | cont {σ':Sto}{s':Shared}(n:Nx g T av ow env s σ' s'):Mtch (.cont σ') .cont s'
 | brk {σ':Sto}{s':Shared}(n:Nx g T av ow env s σ' s'):Mtch (.brk σ') .brk s'
 | ret {d:D}{v:Value}{s':Shared}(r:VD av s'.heap v d) (m:Mv g T (Wr env ow) s s'):Mtch (.ret d) (.ret v) s'
end
section
variable (prog:Program) (w:World) (g:Heap) (T:Tabs)
noncomputable def Sx (n:Nat) (sc:Scope) (σ:Sto) (st:Stmt) (R:Rz):Prop :=
 ∀ (A:Around) (s:Shared) (av:List Addr) (ow:Ow) (env:Env),env.scope=sc→ow.c=cellNames sc.names→Rm n A→Fm g T av ow env σ s→wpAny (model prog w) A (exec st env) (Mtch g T av ow env s R) NoE s
noncomputable def SxL (n:Nat) (sc:Scope) (σ:Sto) (sts:List Stmt) (R:Rz):Prop :=
 ∀ (A:Around) (s:Shared) (av:List Addr) (ow:Ow) (env:Env),env.scope=sc→ow.c=cellNames sc.names→Rm n A→Fm g T av ow env σ s→wpAny (model prog w) A (execs sts env) (Mtch g T av ow env s R) NoE s
noncomputable def Sub (σ σ':Sto):Prop:=∀ x sl,σ.lookup x=some sl→σ'.lookup x=some sl
end
section
variable {prog:Program}{w:World}{g:Heap}{T:Tabs}{n:Nat}{sc:Scope}{σ σ' σ₁:Sto}{s s' s'':Shared}{av:List Addr}{ow ow' ow₁:Ow}{env:Env}{A:Around}{R:Rz}{s₁:Shared}{fl:Flow}{st:Stmt}{sts:List Stmt}{pos p:Pos}{e:Expr}{d:D}{x:Str}{ds:List D}
theorem Fm.froz (F:Fm g T av ow env σ s):EC av env (froz σ) s.heap:=by
 have hs:∀ a∈av,a∈ow.adr++av:=fun a=>List.mem_append_right _
 refine ⟨F.ec.kind,F.ec.glob,F.ec.blt,fun a ha=>F.ec.avok a (hs a ha),fun x sl e=>?_,F.ec.cells⟩
 rw [froz_lookup] at e
 obtain ⟨sl',e',rfl⟩:=Option.map_eq_some_iff.mp e
 cases F.ec.vars x sl' e' with | mk v l r =>
 refine ⟨v,l,?_⟩
 cases sl' with
 | val d=>exact VD.sub hs r
 | own ds =>
  obtain ⟨a,hm,l'⟩:=F.reg x ds e'
  cases r with | mk m e r=>cases l.uniq l'; exact VD.lst (F.apt a (own_adr hm)) e (r.sub hs)
theorem Nx.of_ext (F:Fm g T av ow env σ s) (x:Ext g T s s'):Nx g T av ow env s σ s':=⟨ow,rfl,F.ext x,x.mv,fun b h=>.inl h⟩
theorem Nx.weak (h:Nx g T av ow env s σ s') (hs:Sub σ' σ):Nx g T av ow env s σ' s':=h.rec fun ow' c F m q=>⟨ow',c,F.weak hs,m,q⟩
theorem Mv.new {W:Addr→Prop}{b:Addr}(m:Mv g T W s s') (q:GK g T s') (h:s'.heap.get? b=none):W b∨s.heap.get? b=none:=by
 by_cases hw:W b
 ·exact .inl hw
 ·exact .inr (none_of fun o e=>nos h (m.keep b o e hw fun p hp z=>by
   obtain ⟨ps,e',_⟩:=q.tabs p hp
   exact nos h (z▸e')))
theorem Nx.then (c₁:ow₁.c=ow.c) (q:GK g T s₁) (m₁:Mv g T (Wr env ow) s s₁) (q₁:∀ b,Wr env ow₁ b→Wr env ow b∨s.heap.get? b=none) (k:Nx g T av ow₁ env s₁ σ' s''):Nx g T av ow env s σ' s'' :=
 k.rec fun ow₂ c₂ F₂ m₂ q₂=>⟨ow₂,c₂.trans c₁,F₂,m₁.trans m₂ q₁,fun b hb=>(q₂ b hb).elim (q₁ b) fun z=>m₁.new q z⟩
theorem Mtch.then (c₁:ow₁.c=ow.c) (q:GK g T s₁) (m₁:Mv g T (Wr env ow) s s₁) (q₁:∀ b,Wr env ow₁ b→Wr env ow b∨s.heap.get? b=none) (k:Mtch g T av ow₁ env s₁ R fl s''):Mtch g T av ow env s R fl s'':=by
 cases k with
 | next k=>exact .next (k.then c₁ q m₁ q₁)
 | cont k=>exact .cont (k.then c₁ q m₁ q₁)
 | brk k=>exact .brk (k.then c₁ q m₁ q₁)
 | ret r m=>exact .ret r (m₁.trans m q₁)
theorem Mtch.ext (F:Fm g T av ow env σ s) (x:Ext g T s s') (k:Mtch g T av ow env s' R fl s''):Mtch g T av ow env s R fl s'':=Mtch.then rfl (x.gk F.gk) x.mv (fun b h=>.inl h) k
inductive Rz.sub:Rz→Rz→Prop
 | next {σ σ':Sto}(h:Sub σ' σ):Rz.sub (.next σ) (.next σ')
 | cont {σ σ':Sto}(h:Sub σ' σ):Rz.sub (.cont σ) (.cont σ')
 | brk {σ σ':Sto}(h:Sub σ' σ):Rz.sub (.brk σ) (.brk σ')
 | ret {d:D}:Rz.sub (.ret d) (.ret d)
theorem Mtch.weak {R':Rz}(h:Mtch g T av ow env s R fl s') (hs:R.sub R'):Mtch g T av ow env s R' fl s':=by
 cases hs with
 | next z=>cases h with | next k=>exact .next (k.weak z)
 | cont z=>cases h with | cont k=>exact .cont (k.weak z)
 | brk z=>cases h with | brk k=>exact .brk (k.weak z)
 | ret=>exact h
theorem SxL.nil:SxL prog w g T n sc σ [] (.next σ):=fun A s av ow env he hc rm F=>wpAny_execs_nil (.next (Nx.of_ext F .refl))
theorem SxL.cons (h:Sx prog w g T n sc σ st (.next σ₁)) (hs:SxL prog w g T n sc σ₁ sts R):SxL prog w g T n sc σ (st::sts) R:=fun A s av ow env he hc rm F =>
 wpAny_execs_cons (wp_to (h A s av ow env he hc rm F) fun fl s₁ h₁=>by
  cases h₁ with | next k =>
  cases k with | mk ow₁ c₁ F₁ m₁ q₁=>exact wp_to (hs A s₁ av ow₁ env he (c₁.trans hc) rm F₁) fun fl s₂ h₂=>h₂.then c₁ F₁.gk m₁ q₁)
theorem SxL.one (h:Sx prog w g T n sc σ st R) (hR:∀ σ',R≠.next σ'):SxL prog w g T n sc σ (st::sts) R:=fun A s av ow env he hc rm F =>
 wpAny_execs_cons (wp_to (h A s av ow env he hc rm F) fun fl s₁ h₁=>by
  cases h₁ with
  | next k=>exact absurd rfl (hR _)
  | cont k=>exact .cont k
  | brk k=>exact .brk k
  | ret r m=>exact .ret r m)
theorem SxL.pre (hs:Sub σ₁ σ) (h:SxL prog w g T n sc σ₁ sts R):SxL prog w g T n sc σ sts R:=fun A s av ow env he hc rm F=>h A s av ow env he hc rm (F.weak hs)
theorem SxL.post {R':Rz}(h:SxL prog w g T n sc σ sts R) (hs:R.sub R'):SxL prog w g T n sc σ sts R':=fun A s av ow env he hc rm F=>wp_to (h A s av ow env he hc rm F) fun fl s' k=>k.weak hs
noncomputable abbrev NoC (e:Expr):Prop:=∀ (t:Option Expr) (l:Nat) (env:Env),swapsWith e t l env=pure false
theorem Sx.assign (h:Ev prog w g T n sc σ e d) (hc:NoC e) (hx:stOk sc (cellNames sc.names) x=true):Sx prog w g T n sc σ (.Assign [.Name x p] e pos) (.next ((x,.val d)::σ)):=fun A s av ow env he hoc rm F =>
 wpAny_Assign_Name (wp_to (h A s _ env he rm F.gk F.ec) fun v s₁ h₁=>wp_to (wp_storeV F (canst F.ec he (hoc.symm▸hx)) h₁.1 h₁.2) fun _ s₂ h₂=>.next h₂.nx) (hc _ _ _)
theorem Sx.assignOwn (h:EvO prog w g T n sc σ e ds) (hc:NoC e) (hx:stOk sc (cellNames sc.names) x=true):Sx prog w g T n sc σ (.Assign [.Name x p] e pos) (.next ((x,.own ds)::σ)):=fun A s av ow env he hoc rm F =>
 wpAny_Assign_Name (wp_to (h A s _ env he rm F.gk F.ec) fun v s₁ h₁=>by
  cases h₁ with | mk x₁ hn ho hd=>exact wp_to (wp_storeOwn' F (canst F.ec he (hoc.symm▸hx)) x₁ hn ho hd) fun _ s₂ h₂=>.next h₂.nx) (hc _ _ _)
theorem Sx.ret (h:Ev prog w g T n sc σ e d):Sx prog w g T n sc σ (.Return (some e) pos) (.ret d):=fun A s av ow env he hoc rm F =>
 wpAny_Return_some (wp_to (h A s _ env he rm F.gk F.ec) fun v s₁ h₁=>.ret (VD.sub (fun a ha=>List.mem_append_right _ ha) h₁.2) h₁.1.mv)
theorem Sx.retF (h:Ev prog w g T n sc (froz σ) e d):Sx prog w g T n sc σ (.Return (some e) pos) (.ret d):=fun A s av ow env he hoc rm F=>wpAny_Return_some (wp_to (h A s _ env he rm F.gk F.froz) fun v s₁ h₁=>.ret h₁.2 h₁.1.mv)
theorem Sx.ite {t:Expr}{body orelse:List Stmt}{b:Bool}(h:EvT prog w g T n sc (Mine.froz σ) t b) (hb:SxL prog w g T n sc σ (if b then body else orelse) R):Sx prog w g T n sc σ (.If t body orelse pos) R:=fun A s av ow env he hoc rm F =>
 wpAny_If (wp_to (h A s _ env he rm F.gk F.froz) fun c s₁ h₁=>by
  obtain ⟨rfl,x₁⟩:=h₁
  cases c <;> exact wp_to (hb A s₁ av ow env he hoc rm (F.ext x₁)) fun fl s₂ h₂=>h₂.ext F x₁)
theorem Sx.cont:Sx prog w g T n sc σ (.Continue pos) (.cont σ):=fun A s av ow env he hoc rm F=>wpAny_bind (m:=standAt pos) (wpAny_standAt (wpAny_pure (.cont (Nx.of_ext F .refl))))
theorem Sx.brk:Sx prog w g T n sc σ (.Break pos) (.brk σ):=fun A s av ow env he hoc rm F=>wpAny_bind (m:=standAt pos) (wpAny_standAt (wpAny_pure (.brk (Nx.of_ext F .refl))))
end
end
section
section
variable {prog:Program}{w:World}{g:Heap}{T:Tabs}{n:Nat}{sc scope:Scope}{σ σ' σ₁:Sto}{s s' s'' s₁:Shared}{av:List Addr}{ow ow':Ow}{env:Env}{A:Around}{R:Rz}{elt:Expr}{c:Comprehension}{cs:List Comprehension}{ds outs:List D}{C:Addr}{x:Str}{p pos cpos:Pos}{sl:Sl}{m:Str→Option Value}
theorem ns_ncell (hn:s.heap.Ns C m) {c:Addr}{v:Option Value}(hc:s.heap.IsCell c v):c≠C:=fun q=>ns_cell hn (q▸hc)
theorem Fm.side {h':Heap}{tk:Nat}(F:Fm g T av ow env σ s) (hs:Heap.SameBut C s.heap h') (hn:s.heap.Ns C m) (hL:C≠env.locals) (hg:g.get? C=none) (hav:C∉av):FmOn g T av ow env σ [C] s { s with heap:=h',toks:=tk }:=by
 have ⟨o,_,_,ho,_⟩:=hn
 have mv:Mv g T (fun b=>b∈[C]) s { s with heap:=h',toks:=tk }:=Mv.one hs ho (ns_noc hn ho) hg (.head _)
 have ks:∀ av',KeepSeq av' s.heap h':=fun av' b o' e ho' _=>(hs.2 b fun q=>ns_nsq hn (q▸e) ho').trans e
 have kcell:∀ {c v},s.heap.IsCell c v→h'.IsCell c v:=fun h=>h.sameBut hs (ns_ncell hn h)
 have kns:∀ {m},s.heap.Ns env.locals m→h'.Ns env.locals m:=fun h=>h.sameBut hs (Ne.symm hL)
 have kl:∀ {x v},Loads env s.heap x v→Loads env h' x v:=fun l=>l.to kns fun _=>kcell
 have klst:∀ {a vs k},s.heap.get? a=some (lstO vs k)→h'.get? a=some (lstO vs k):=fun e=>ks [] _ _ e ⟨_,_,.inr rfl⟩ nofun
 refine ⟨⟨mv.gk F.gk,⟨F.ec.kind,F.ec.glob,F.ec.blt,fun a ha=>(F.ec.avok a ha).imp fun o' p=>⟨(hs.2 a fun q=>?_).trans p.1,p.2⟩,fun x sl e=>?_,fun x h=>(F.ec.cells x h).imp fun _ p=>⟨p.1,p.2.imp fun _=>kcell⟩⟩,F.ns.imp fun _=>kns,fun x c hm k e=>(F.own x c hm k e).imp fun _=>kcell,F.inj,F.off,
  fun x ds e=>(F.reg x ds e).imp fun _ p=>⟨p.1,kl p.2⟩,F.nd,F.apt,fun a ha=>(F.isl a ha).imp fun _=>Exists.imp fun _=>klst⟩,mv⟩
 ·exact (List.mem_append.mp ha).elim (fun z=>(F.isl a z).elim fun _ p=>p.elim fun _ e=>ns_nsq hn (q▸e) ⟨_,_,.inr rfl⟩) fun z=>hav (q▸z)
 ·cases F.ec.vars x sl e with | mk v l r =>
  refine ⟨v,kl l,?_⟩
  cases sl with
  | val d=>exact VD.keep (ks _) r
  | own ds=>cases r with | mk m e r=>exact ⟨m,klst e,r.keep (ks _)⟩
theorem Fm.wr_not (F:Fm g T av ow env σ s) (h:s.heap.get? C=none):¬ Wr env ow C:=fun hw=>(F.wr_ex hw).elim fun _ e=>nos h e
theorem comp_store {P:Addr}(F:Fm g T av ow env σ s) (xe:Ext g T s s') (hC:s.heap.get? C=none) (hn:s'.heap.Ns C m)
  (hst:wpAny (model prog w) A (storeName env x (.ref P)) (fun _ s₂=>StoV g T av ow env s ((x,sl)::σ) s' s₂) NoE s') :
  wpAny (model prog w) A (assign (.Name x p) env (.ref P)) (fun _ s₂=>∃ m',s₂.heap.Ns C m'∧∀ h',Heap.SameBut C s₂.heap h'→Mtch g T av ow env s (.next ((x,sl)::σ)) .next { s₂ with heap:=h' }) NoE s' :=
 wpAny_assign_Name (wp_to hst fun _ s₂ h₂=>by
  have hns₂:s₂.heap.Ns C m:=ns_get hn fun o e nt=>h₂.m.get' (xe.gk F.gk) e (F.wr_not hC) nt
  have hL:C≠env.locals:=fun q=>F.ns.elim fun _ n=>n.elim fun _ n=>n.elim fun _ n=>n.elim fun _ n=>nos hC (q▸n.1)
  refine ⟨m,hns₂,fun h' hs=>.next ?_⟩
  cases h₂.nx with | mk ow' c F₂ m₂ w =>
  have f:=F₂.side (tk:=s₂.toks) hs hns₂ hL (F.gk.new hC) fun q=>av_new F.ec.avok hC (List.mem_append_right _ q)
  exact ⟨ow',c,f.F,Mv.trans m₂ f.m fun b hb=>.inr (List.mem_singleton.mp hb▸hC),w⟩)
theorem assign_used {Q:Flow→Shared→Prop}(ha:c.is_async=0)
  (h1:wpAny (model prog w) A (eval (.ListComp elt (c::cs) scope cpos) env) (fun v s₁=>wpAny (model prog w) A (storeName env x v) (fun _=>Q .next) NoE s₁) NoE s)
  (h2:wpAny (model prog w) A (comprehension (.ListComp elt (c::cs) scope cpos) scope env (firstIterPos (c::cs) cpos) (newList []) false (eval c.iter env) (some (assign (.Name x p) env))) (fun _ s'=>Q .next s') NoE s) :
  wpAny (model prog w) A (exec (.Assign [.Name x p] (.ListComp elt (c::cs) scope cpos) pos) env) Q NoE s:=by
 obtain ⟨b,hb⟩:∃ b,swapsWith (.ListComp elt (c::cs) scope cpos) (some (.Name x p)) pos.line env=pure b:=⟨_,rfl⟩
 cases b with
 | false=>exact wpAny_Assign_Name h1 hb
 | true =>
  rw [exec_Assign_Name_used _ _ _ _ hb]
  refine wpAny_bind (wpAny_standAt (wpAny_bind ?_))
  show wpAny _ A (do let _ ← comprehension (.ListComp elt (c::cs) scope cpos) scope env (firstIterPos (c::cs) cpos) (newList []) (firstAsync (c::cs)) (firstIter (c::cs) env) (some (assign (.Name x p) env))) _ _ s
  rw [first_async ha,first_iter]
  exact wpAny_bind (wpAny_mono h2 (fun _ s' hq=>wpAny_pure (wpAny_pure hq)) fun _ _ e=>e)
section
variable (has:∀ c'∈c::cs,c'.is_async=0) (hsd:NoSet c.iter) (hok:compOk sc scope=true) (hcap:((cap scope σ).all fun p=>isVal p.2)=true)
  (hi:EvI prog w g T n sc σ c.target c.iter ds) (hl:GLoop prog w g T (relabelS scope sc) (cellNames scope.names) elt n (cap scope σ) c cs ds outs) (hsz:outs.length≤lim)
include has hsd hok hcap hi hl hsz
theorem Sx.assignComp (hx:stOk sc (cellNames sc.names) x=true):Sx prog w g T n sc σ (.Assign [.Name x p] (.ListComp elt (c::cs) scope cpos) pos) (.next ((x,.val (.lst outs))::σ)):=fun A s av ow env he hoc rm F =>
 assign_used (has _ (.head _)) (wp_to ((EvO.comp has hsd hok hcap hi hl hsz).ev A s _ env he rm F.gk F.ec) fun v s₁ h₁=>wp_to (wp_storeV F (canst F.ec he (hoc.symm▸hx)) h₁.1 h₁.2) fun _ s₂ h₂=>.next h₂.nx)
  (comp_core has hsd hok hcap hi hl hsz he rm F.gk F.ec fun P C s' xe hP hC hne acc hn=>hn.elim fun m hm=>acc.rec fun ys p r=>p.elim fun k eP =>
   comp_store F xe hC hm (wp_storeV F (canst F.ec he (hoc.symm▸hx)) xe (.lst (vs:=ys.toList) (av_new F.ec.avok hP) eP (r.sub fun a ha=>.tail _ ha))))
theorem Sx.assignCompOwn (hx:stOk sc (cellNames sc.names) x=true):Sx prog w g T n sc σ (.Assign [.Name x p] (.ListComp elt (c::cs) scope cpos) pos) (.next ((x,.own outs)::σ)):=fun A s av ow env he hoc rm F =>
 assign_used (has _ (.head _)) (wp_to ((EvO.comp has hsd hok hcap hi hl hsz) A s _ env he rm F.gk F.ec) fun v s₁ h₁=>by
   cases h₁ with | mk x₁ hn ho hd=>exact wp_to (wp_storeOwn' F (canst F.ec he (hoc.symm▸hx)) x₁ hn ho hd) fun _ s₂ h₂=>.next h₂.nx)
  (comp_core has hsd hok hcap hi hl hsz he rm F.gk F.ec fun P C s' xe hP hC hne acc hn=>hn.elim fun m hm=>acc.rec fun ys p r=>p.elim fun k eP =>
   comp_store F xe hC hm (wp_storeOwn' (vs:=ys.toList) F (canst F.ec he (hoc.symm▸hx)) xe hP eP r))
end
end
end
section
inductive TgNames:List Expr→List Str→Prop
 | nil:TgNames [] []
 | cons {x:Str}{p:Pos}{es:List Expr}{xs:List Str}:TgNames es xs→TgNames (.Name x p::es) (x::xs)
theorem TgNames.length {es:List Expr}{xs:List Str}(h:TgNames es xs):es.length=xs.length:=h.rec rfl fun _ ih=>congrArg (· + 1) ih
theorem TgNames.filter {f:Expr→Option Str}(hf:∀ x p,f (.Name x p)=some x∨f (.Name x p)=none) {es:List Expr}{xs:List Str}(h:TgNames es xs):(es.filterMap f).length=es.length→es.filterMap f=xs :=
 h.rec (fun _=>rfl) fun {x p es xs} _ ih hl=>(hf x p).elim (fun q=>by
  rw [List.filterMap_cons_some q] at hl ⊢; exact congrArg (x :: ·) (ih (Nat.succ.inj hl))) fun q=>by
  rw [List.filterMap_cons_none q] at hl; exact absurd (hl▸List.length_filterMap_le f es) (Nat.not_succ_le_self _)
theorem TgNames.each {es:List Expr}{xs:List Str}(h:TgNames es xs) (env:Env):assignEach es env=es.map fun e=>(false,assign e env):=h.rec rfl fun _ ih=>congrArg (_ :: ·) ih
theorem TgNames.tg {es:List Expr}{xs:List Str}(h:TgNames es xs):∀ {ds:List D},xs.length=ds.length→TgEach es ds (xs.zip ds):=by
 induction h with
 | nil=>intro ds hl; cases ds with
  | nil=>exact .nil
  | cons=>cases hl
 | cons _ ih=>intro ds hl; cases ds with
  | nil=>cases hl
  | cons=>exact .cons (ih (Nat.succ.inj hl))
theorem ite_or {α:Type}{c:Bool}{a b:α}:(if c=true then a else b)=a∨(if c=true then a else b)=b:=c.rec (.inr rfl) (.inl rfl)
noncomputable def swapOk (vs:List Expr):Bool:=vs.all (foldedForSure 8) || !(vs.all (constantsAlone 8))
theorem swapped_cases {ts vs:List Expr}{k k2:Nat}{p p2:Pos}{xs:List Str}{env:Env}(h:TgNames ts xs) (hk:swapOk vs=true):∃ sw,swappedStores [.Tuple ts k p] (.Tuple vs k2 p2) env=pure sw∧(sw=none∨sw=some xs):=by
 unfold swappedStores
 simp only [swapOk,Bool.or_eq_true,Bool.not_eq_true'] at hk
 dsimp only
 split
 ·exact ⟨none,rfl,.inl rfl⟩
 ·split
  ·exact ⟨none,rfl,.inl rfl⟩
  ·split
   ·exact ⟨none,rfl,.inl rfl⟩
   ·rename_i hc
    split
    ·exact ⟨none,rfl,.inl rfl⟩
    ·rename_i hf
     split
     ·rename_i hq
      rcases hk with q | q
      ·exact absurd q hf
      ·rw [q] at hq; exact (disc tgS hq rfl).elim
     ·refine ⟨_,rfl,.inr ?_⟩
      have hl:=hc
      simp only [Bool.or_eq_true,bne_iff_ne,ne_eq,not_or,Classical.not_not] at hl
      congr 1
      exact h.filter (fun _ _=>ite_or) hl.1
section
variable {prog:Program}{w:World}{g:Heap}{T:Tabs}{n:Nat}{sc scope:Scope}{σ σ' σ₁:Sto}{s s' s'' s₁:Shared}{av:List Addr}{ow ow':Ow}{env:Env}{A:Around}{R:Rz}{xs:List Str}{us:List Value}{ds ods:List D}{ts es:List Expr}{k k2:Nat}{p p2 pos:Pos}{e:Expr}{d:D}{x:Str}{b:Bd}
theorem EC.grow {fp:List Addr}(c:EC av env σ s.heap) (x:Ext g T s s') (q:GK g T s) (hn:∀ b∈fp,s.heap.get? b=none) (ho:∀ b∈fp,∃ o,s'.heap.get? b=some o∧NT o):EC (fp++av) env σ s'.heap:=by
 have hz:∀ b∈fp++av,b∈av∨s.heap.get? b=none:=fun b hb=>(List.mem_append.mp hb).elim (fun q=>.inr (hn b q)) .inl
 refine ⟨c.kind,c.glob,c.blt,fun a ha=>(List.mem_append.mp ha).elim (ho a) (c.avok.ext x q a),fun y sl e=>?_,(c.ext x q).cells⟩
 cases c.vars y sl e with | mk v l r =>
 refine ⟨v,l.ext x q,?_⟩
 cases sl with
 | val d=>exact x.vd q (VD.to r hz)
 | own ds=>cases r with | mk m e r=>exact ⟨List.mem_append_right _ m,x.get' q e (nt_lst _ _),x.vds q (r.to hz)⟩
theorem bind_out:∀ (b:Bd) (σ:Sto) (x:Str),(∀ p∈b,p.1≠x)→(bindAll b σ).lookup x=σ.lookup x
 | [],_,_,_=>rfl
 | (y,d)::r,σ,x,h=>by rw [bindAll,bind_out r _ x fun p hp=>h p (.tail _ hp),lookup_cons',if_neg fun q=>h _ (.head _) q.symm]
theorem bind_in:∀ (b:Bd) (σ:Sto),(b.map (·.1)).Nodup→∀ {x d},(x,d)∈b→(bindAll b σ).lookup x=some (.val d)
 | (y,d)::r,σ,hn,x,d',hm=>by
  rw [List.map_cons,List.nodup_cons] at hn
  rcases List.mem_cons.mp hm with q | hm
  ·cases q
   rw [bindAll,bind_out r _ _ fun p hp q=>hn.1 (List.mem_map.mpr ⟨p,hp,q⟩),lookup_cons',if_pos rfl]
  ·exact bind_in r _ hn.2 hm
theorem bind_rev (b:Bd) (σ:Sto) (hn:(b.map (·.1)).Nodup):Sub (bindAll b σ) (bindAll b.reverse σ):=fun x sl e=>by
 by_cases h:∃ p∈b,p.1=x
 ·obtain ⟨⟨y,d⟩,hp,rfl⟩:=h
  rw [bind_in b σ hn hp] at e
  rw [bind_in b.reverse σ (by rw [List.map_reverse]; exact List.pairwise_reverse.mpr (hn.imp Ne.symm)) (List.mem_reverse.mpr hp)]; exact e
 ·have h1:∀ p∈b,p.1≠x:=fun p hp q=>h ⟨p,hp,q⟩
  rw [bind_out b σ x h1] at e
  rw [bind_out b.reverse σ x fun p hp=>h1 p (List.mem_reverse.mp hp)]; exact e
theorem wp_orderN (he:env.scope=sc) (ds:List D):∀ {xs:List Str}{vs:List Value}{σ:Sto}{ow:Ow}{s:Shared},Fm g T av ow env σ s→xs.all (stOk sc ow.c)=true→xs.length=ds.length→VDs (ow.adr++av) s.heap vs ds →
  wpAny (model prog w) A (assignInOrder (xs.map fun x=>bindName env x) vs) (fun _ s'=>AsV g T av ow env (bindAll (xs.zip ds) σ) s s') NoE s:=by
 induction ds with
 | nil =>
  intro xs vs σ ow s F _ hl hv
  cases xs with
  | cons=>cases hl
  | nil=>rw [hv.i0]; exact wpAny_assignInOrder_none ⟨ow,rfl,F,.refl,fun _ h=>h,fun _ h=>h⟩
 | cons d ds ih =>
  intro xs vs σ ow s F hst hl hv
  cases xs with
  | nil=>cases hl
  | cons x xs =>
  cases hv.i1 with | mk v1 vr =>
  have hh:=Bool.and_eq_true_iff.mp ((List.all_cons ..).symm.trans hst)
  refine wpAny_assignInOrder_more (wpAny_bindName (wp_to (wp_store F (canst F.ec he hh.1) v1) fun _ s₁ h=>?_))
  refine wp_to (ih h.F hh.2 (Nat.succ.inj hl) ((vr.keep (h.m.seq F.gk (av:=ow.adr++av) F.wseq)).sub (sub_app fun _=>Ow.adr_drop))) fun _ s₂ h₂=>?_
  cases h₂ with | mk ow' c F₂ m w l=>exact ⟨ow',c,F₂,h.m.trans m wr_drop_le,fun c hc=>(w c hc).drop,fun p hp=>(List.mem_filter.mp (l p hp)).1⟩
theorem zip_rev {ds:List D}:∀ {xs:List Str},xs.length=ds.length→xs.reverse.zip ds.reverse=(xs.zip ds).reverse:=by
 induction ds with
 | nil=>intro xs h; cases xs with
  | nil=>rfl
  | cons=>cases h
 | cons d ds ih=>intro xs h; cases xs with
  | nil=>cases h
  | cons x xs=>rw [List.reverse_cons,List.reverse_cons,List.zip_append (by rw [List.length_reverse,List.length_reverse]; exact Nat.succ.inj h),ih (Nat.succ.inj h)]; exact List.reverse_cons.symm
noncomputable abbrev NoSw (ts:List Expr) (k:Nat) (p:Pos) (e:Expr):Prop:=∀ env,swappedStores [.Tuple ts k p] e env=pure none
theorem Sx.assignTup (h:Ev prog w g T n sc σ e (.tup ds)) (hc:NoC e) (hnt:NoSw ts k p e) (ht:TgEach ts ds b) (hst:stAll sc (cellNames sc.names) b):Sx prog w g T n sc σ (.Assign [.Tuple ts k p] e pos) (.next (bindAll b σ)):=fun A s av ow env he hoc rm F =>
 Assign_Tuple (wp_to (h A s _ env he rm F.gk F.ec) fun v s₁ h₁=>wp_to (wp_assign rm.hand he (F.ext h₁.1) (.tup ht) (hoc.symm▸hst) h₁.2) fun _ s₂ h₂=>by
  cases h₂ with | mk ow' c F₂ m w l=>exact .next ⟨ow',c,F₂,Mv.trans h₁.1.mv m fun b h=>.inl h,fun b h=>.inl (w b h)⟩) (show swapsWith e (some (.Tuple ts k p)) pos.line env=pure false from hc _ _ _) (hnt env)
inductive TupV (Z:List Addr→List D→List Value→Shared→Prop):Value→Shared→Prop
 | mk {av:List Addr}{ds:List D}{t:Addr}{us:List Value}{m:Nat}{s:Shared}(e:s.heap.get? t=some (tupO us m)) (z:Z av ds us s):TupV Z (.ref t) s
inductive TupR (g:Heap) (T:Tabs) (ow:Ow) (env:Env) (σ:Sto) (xs:List Str) (Z:List Addr→List D→List Value→Shared→Prop):Flow→Shared→Prop
 | mk {av:List Addr}{ds:List D}{us:List Value}{s₁ s₂:Shared}(z:Z av ds us s₁) (a:AsV g T av ow env (bindAll (xs.zip ds) σ) s₁ s₂):TupR g T ow env σ xs Z .next s₂
structure TupZ (g:Heap) (T:Tabs) (ow:Ow) (env:Env) (σ:Sto) (xs:List Str) (av:List Addr) (ds:List D) (us:List Value) (s:Shared):Prop where
 F:Fm g T av ow env σ s
 v:VDs (ow.adr++av) s.heap us ds
 l:xs.length=ds.length
theorem tup_names {Z:List Addr→List D→List Value→Shared→Prop}(he:env.scope=sc) (rm:Rm n A) (hev:wpAny (model prog w) A (eval (.Tuple es k2 p2) env) (TupV Z) NoE s) (hZ:∀ {av ds us s h'},Z av ds us s→(∀ b o,s.heap.get? b=some o→h'.get? b=some o)→Z av ds us { s with heap:=h' })
  (ht:TgNames ts xs) (hsw:swapOk es=true) (hnd:xs.Nodup) (hst:xs.all (stOk sc ow.c)=true) (hF:∀ av ds us s₁,Z av ds us s₁→TupZ g T ow env σ xs av ds us s₁) :
  wpAny (model prog w) A (exec (.Assign [.Tuple ts k p] (.Tuple es k2 p2) pos) env) (TupR g T ow env σ xs Z) NoE s:=by
 obtain ⟨sw,hsw',hcase⟩:=swapped_cases (k:=k) (p:=p) (k2:=k2) (p2:=p2) (env:=env) ht hsw
 have hz:∀ {av ds us s₁ h'},Z av ds us s₁→Heap.ExtBut s₁.heap.objs.size s₁.heap h'→Z av ds us { s₁ with heap:=h' }:=fun z hk=>hZ z fun c o e=>hk c o (fun q=>nos (size_fresh _) (q▸e)) e
 rcases hcase with rfl | rfl
 ·refine Assign_Tuple (wp_to hev fun v s₁ h₁=>?_) rfl hsw'
  cases h₁ with | mk ho z =>
  have hte:=ht.each env
  refine wpAny_assign_Tuple rm.hand ⟨_,ho,rfl,_,rfl⟩ ?_ ?_ fun h' hk=>?_
  ·rw [hte,List.length_map,List.size_toArray,ht.length,(hF _ _ _ _ z).l,(hF _ _ _ _ z).v.length]
  ·rw [hte,List.findIdx?_eq_none_iff]
   intro y hy
   obtain ⟨e,_,rfl⟩:=List.mem_map.mp hy
   rfl
  ·have z:=hz z hk
   have f:=hF _ _ _ _ z
   rw [hte,List.map_map]
   exact wp_to (wp_order (ht.tg f.l) f.F (fun x d hm=>he.symm▸List.all_eq_true.mp hst x (List.of_mem_zip hm).1) f.v) fun _ s₂ h₂=>⟨z,h₂⟩
 ·refine Assign_Tuple_swapped (wp_to hev fun v s₁ h₁=>?_) rfl hsw'
  cases h₁ with | mk ho z =>
  have f:=hF _ _ _ _ z
  rw [f.l.trans f.v.length.symm]
  refine wpAny_unpackItems_tuple rm.hand ⟨_,ho,rfl,_,rfl⟩ fun h' hk=>?_
  have z:=hz z hk
  have f:=hF _ _ _ _ z
  refine wp_to (wp_orderN he _ (xs:=xs.reverse) f.F (by rw [List.all_reverse]; exact hst) (by rw [List.length_reverse,List.length_reverse]; exact f.l) f.v.reverse) fun _ s₂ h₂=>⟨z,?_⟩
  cases h₂ with | mk ow' c F₂ m w l =>
  refine ⟨ow',c,F₂.weak ?_,m,w,l⟩
  rw [show xs.reverse.zip _=(xs.zip _).reverse from zip_rev f.l]
  exact bind_rev _ _ (by rw [List.map_fst_zip (Nat.le_of_eq f.l)]; exact hnd)
structure ZV (g:Heap) (T:Tabs) (av0:List Addr) (ow:Ow) (s:Shared) (ds0:List D) (av:List Addr) (ds:List D) (us:List Value) (s₁:Shared):Prop where
 ea:av=av0
 ed:ds=ds0
 x:Ext g T s s₁
 v:VDs (ow.adr++av0) s₁.heap us ds0
theorem Sx.assignTupX (h:EvL prog w g T n sc σ es ds) (hz:ds.length≤lim) (ht:TgNames ts xs) (hl:xs.length=ds.length) (hsw:swapOk es=true) (hnd:xs.Nodup) (hst:xs.all (stOk sc (cellNames sc.names))=true) :
  Sx prog w g T n sc σ (.Assign [.Tuple ts k p] (.Tuple es k2 p2) pos) (.next (bindAll (xs.zip ds) σ)):=fun A s av ow env he hoc rm F =>
 wp_to (tup_names he rm (Z:=ZV g T av ow s ds) (wpAny_Tuple (wp_to (h.run A s _ env p2 he rm F.gk F.ec) fun us s₁ h₁=>⟨fits h₁.2 hz,.mk (m:=0) (Heap.get?_push_size _ rfl) ⟨rfl,rfl,h₁.1.trans (.push _),(Ext.push (g:=g) (T:=T) _).vds (h₁.1.gk F.gk) h₁.2⟩⟩))
  (fun z hk=>have x:=Ext.of _ _ hk; ⟨z.ea,z.ed,z.x.trans x,x.vds (z.x.gk F.gk) z.v⟩) ht hsw hnd (hoc.symm▸hst) fun av ds us s₁ z=>⟨z.ea▸F.ext z.x,z.ea▸z.ed▸z.v,z.ed▸hl⟩) fun fl s₂ h₂=>by
  cases h₂ with | mk z a =>
  obtain ⟨rfl,rfl,x,v⟩:=z
  cases a with | mk ow' c F₂ m w l=>exact .next ⟨ow',c,F₂,Mv.trans x.mv m fun b h=>.inl h,fun b h=>.inl (w b h)⟩
inductive OneO (g:Heap) (T:Tabs) (av:List Addr) (s:Shared) (ods:List D) (f:Addr→List D) (us:List Value) (s':Shared):Prop
 | mk (P:Addr) (ls:List Value) (m:Nat) (x:Ext g T s s') (hn:s.heap.get? P=none) (ho:s'.heap.get? P=some (lstO ls m)) (hd:VDs (P::av) s'.heap ls ods) (hv:VDs (P::av) s'.heap us (f P))
section
variable (prog:Program) (w:World) (g:Heap) (T:Tabs)
noncomputable def EvLX (n:Nat) (sc:Scope) (σ:Sto) (es:List Expr) (ods:List D) (f:Addr→List D):Prop :=
 ∀ (A:Around) (s:Shared) (av:List Addr) (env:Env) (pos:Pos),env.scope=sc→Rm n A→GK g T s→EC av env σ s.heap→wpAny (model prog w) A (spliced (backTo pos (starEach es env))) (OneO g T av s ods f) NoE s
end
theorem EvLX.val {f:Addr→List D}(hst:∀ env,starEach (e::es) env=(false,eval e env)::starEach es env) (h:Ev prog w g T n sc σ e d) (hs:EvLX prog w g T n sc σ es ods f):EvLX prog w g T n sc σ (e::es) ods (fun b=>d::f b):=fun A s av env pos he rm hg hc =>
 wpAny_items_cons (wp_to (h A s av env he rm hg hc) fun v s₁ h₁=>wp_to (hs A s₁ av env pos he rm (h₁.1.gk hg) (hc.ext h₁.1 hg)) fun vs s₂ h₂=>by
  cases h₂ with | mk P ls m x hn ho hd hv =>
  exact ⟨P,ls,m,h₁.1.trans x,h₁.1.none hg hn,ho,hd,.cons (x.vd (h₁.1.gk hg) (h₁.2.to fun b hb=>(List.mem_cons.mp hb).elim (fun q=>.inr (q▸hn)) .inl)) hv⟩) (hst env)
theorem EvLX.own (hst:∀ env,starEach (e::es) env=(false,eval e env)::starEach es env) (h:EvO prog w g T n sc σ e ods) (hs:EvL prog w g T n sc σ es ds):EvLX prog w g T n sc σ (e::es) ods (fun b=>.adr b::ds):=fun A s av env pos he rm hg hc =>
 wpAny_items_cons (wp_to (h A s av env he rm hg hc) fun v s₁ h₁=>by
  cases h₁ with | mk x₁ hn ho hd =>
  have g₁:=x₁.gk hg
  have c₁:EC (_::av) env σ s₁.heap:=(hc.grow x₁ hg (fun b hb=>List.mem_singleton.mp hb▸hn) fun b hb=>List.mem_singleton.mp hb▸⟨_,ho,nt_lst _ _⟩:EC ([_]++av) env σ s₁.heap)
  exact wp_to (hs.run A s₁ _ env pos he rm g₁ c₁) fun vs s₂ h₂=>⟨_,_,_,x₁.trans h₂.1,hn,h₂.1.get' g₁ ho (nt_lst _ _),h₂.1.vds g₁ hd,.cons (.adr _) h₂.2⟩) (hst env)
inductive ZO (g:Heap) (T:Tabs) (av0:List Addr) (ow:Ow) (s:Shared) (ods:List D) (f:Addr→List D):List Addr→List D→List Value→Shared→Prop
 | mk {P:Addr}{us:List Value}{s₁:Shared}(o:OneO g T (ow.adr++av0) s ods f us s₁) (ls:List Value) (m:Nat) (x:Ext g T s s₁) (hn:s.heap.get? P=none) (ho:s₁.heap.get? P=some (lstO ls m)) (hd:VDs (P::(ow.adr++av0)) s₁.heap ls ods) (hv:VDs (P::(ow.adr++av0)) s₁.heap us (f P)):ZO g T av0 ow s ods f ([P]++av0) (f P) us s₁
theorem Sx.assignTupO {f:Addr→List D}(h:EvLX prog w g T n sc σ es ods f) (hz:∀ b,(f b).length≤lim) (ht:TgNames ts xs) (hl:∀ b,xs.length=(f b).length) (hsw:swapOk es=true) (hnd:xs.Nodup) (hst:xs.all (stOk sc (cellNames sc.names))=true) (hx:∀ b,(x,D.adr b)∈xs.zip (f b))
  (hσ:∀ b,Sub σ' ((x,.own ods)::bindAll (xs.zip (f b)) σ)):Sx prog w g T n sc σ (.Assign [.Tuple ts k p] (.Tuple es k2 p2) pos) (.next σ'):=fun A s av ow env he hoc rm F =>
 wp_to (tup_names he rm (Z:=ZO g T av ow s ods f) (wpAny_Tuple (wp_to (h A s _ env p2 he rm F.gk F.ec) fun us s₁ h₁=>by
   cases h₁ with | mk P ls m x hn ho hd hv =>
   have y:Ext g T s₁ { s₁ with heap:=s₁.heap.push (tupO us 0) }:=.push _
   have q:=x.gk F.gk
   exact ⟨fits hv (hz P),.mk (m:=0) (Heap.get?_push_size _ rfl) (.mk ⟨P,ls,m,x.trans y,hn,y.get' q ho (nt_lst _ _),y.vds q hd,y.vds q hv⟩ ls m (x.trans y) hn (y.get' q ho (nt_lst _ _)) (y.vds q hd) (y.vds q hv))⟩))
  (fun {_ _ _ s₁ _} z hk=>by
   cases z with | mk o ls m x hn ho hd hv =>
   have y:=Ext.of (g:=g) (T:=T) _ s₁.toks hk
   have q:=x.gk F.gk
   exact .mk ⟨_,ls,m,x.trans y,hn,hk _ _ ho,y.vds q hd,y.vds q hv⟩ ls m (x.trans y) hn (hk _ _ ho) (y.vds q hd) (y.vds q hv)) ht hsw hnd (hoc.symm▸hst) fun av' ds us s₁ z=>by
   cases z with | mk o ls m x hn ho hd hv =>
   exact ⟨F.grow1 x hn ho,hv.sub fun a ha=>(List.mem_append.mp ha).elim (fun q=>.tail _ (List.mem_append_left _ q)) fun q=>(List.mem_append.mp q).elim (fun q=>List.mem_singleton.mp q▸.head _) fun q=>.tail _ (List.mem_append_right _ q),hl _⟩) fun fl s₂ h₂=>by
  cases h₂ with | mk z a =>
  cases z with | mk o ls m x hn ho hd hv =>
  cases a with | mk ow' c F₂ m₂ w l =>
  exact .next ⟨ow'.add _ _,c,(F.adopt' x hn ho hd m₂ l F₂ (bind_in _ _ (by rw [List.map_fst_zip (Nat.le_of_eq (hl _))]; exact hnd) (hx _))).weak (hσ _),Mv.trans x.mv m₂ fun b h=>.inl h,fun b hb=>(wr_add hn b hb).elim (fun q=>.inl (w b q)) .inr⟩
end
end
end
section
open PySem PySem.W PyProof.Rows
end
section
open PySem PySem.Spec PySem.Calls PyProof.Rows PyProof.V PySem.W
section
section
variable {prog:Program}{w:World}{g:Heap}{T:Tabs}{n:Nat}{sc scope:Scope}{σ σ' σ₁:Sto}{s s' s'':Shared}{av:List Addr}{ow ow':Ow}{env:Env}{A:Around}{R:Rz}{x:Str}{ds ds':List D}{a:Addr}{vs vs':List Value}{k k' tk:Nat}{h':Heap}{p apos cpos pos:Pos}{e:Expr}{d:D}
theorem Fm.ownMv (F:Fm g T av ow env σ s) (hax:(x,a)∈ow.l) (lx:Loads env s.heap x (.ref a)) (mv:GK g T s') (kp:∀ b o,b≠a→s.heap.get? b=some o→NT o→s'.heap.get? b=some o) (ho:s'.heap.get? a=some (lstO vs' k')) (hd:VDs (ow.adr++av) s'.heap vs' ds'):Fm g T av ow env ((x,.own ds')::σ) s':=by
 have haa:=own_adr hax
 have hav:a∈ow.adr++av:=List.mem_append_left _ haa
 obtain ⟨us,k,e0⟩:=F.isl a haa
 have ks:KeepSeq (ow.adr++av) s.heap s'.heap:=fun b o e ho' nb=>kp b o (fun q=>nb (q▸hav)) e ho'.nt
 have kcell:∀ {c v},s.heap.IsCell c v→s'.heap.IsCell c v:=fun h=>cell_get h fun o e=>kp _ o (fun q=>cell_nsq (q▸h) e0 ⟨_,_,.inr rfl⟩) e
 have kns:∀ {m},s.heap.Ns env.locals m→s'.heap.Ns env.locals m:=fun h=>ns_get h fun o e=>kp _ o (fun q=>ns_nsq (q▸h) e0 ⟨_,_,.inr rfl⟩) e
 have kl:∀ {x v},Loads env s.heap x v→Loads env s'.heap x v:=fun l=>l.to kns fun _=>kcell
 refine ⟨mv,⟨F.ec.kind,F.ec.glob,F.ec.blt,fun b hb=>?_,fun y sl e=>?_,fun y h=>(F.ec.cells y h).imp fun _ p=>⟨p.1,p.2.imp fun _=>kcell⟩⟩,F.ns.imp fun _=>kns,fun y c hm k e=>(F.own y c hm k e).imp fun _=>kcell,F.inj,F.off,
  fun y es e=>?_,F.nd,F.apt,fun b hb=>?_⟩
 ·by_cases q:b=a
  ·exact q▸⟨_,ho,nt_lst _ _⟩
  ·exact (F.ec.avok b hb).imp fun o p=>⟨kp b o q p.1 p.2,p.2⟩
 ·rcases lookup_hit e with ⟨rfl,rfl⟩ | ⟨q,e⟩
  ·exact ⟨_,kl lx,hav,ho,hd⟩
  ·cases F.ec.vars y sl e with | mk v l r =>
   refine ⟨v,kl l,?_⟩
   cases sl with
   | val d=>exact VD.keep ks r
   | own es =>
    obtain ⟨b,hb,l'⟩:=F.reg y es e
    cases r with | mk m eo r =>
    cases l.uniq l'
    exact ⟨m,kp b _ (fun z=>q (nodup_snd F.nd (z▸hb) hax)) eo (nt_lst _ _),r.keep ks⟩
 ·rcases lookup_hit e with ⟨rfl,_⟩ | ⟨_,e⟩
  ·exact ⟨a,hax,kl lx⟩
  ·exact (F.reg y es e).imp fun b p=>⟨p.1,kl p.2⟩
 ·by_cases q:b=a
  ·exact q▸⟨_,_,ho⟩
  ·exact (F.isl b hb).imp fun _=>Exists.imp fun _ e=>kp b _ q e (nt_lst _ _)
theorem Fm.setOwn (F:Fm g T av ow env σ s) (hax:(x,a)∈ow.l) (lx:Loads env s.heap x (.ref a)) (hs:Heap.SameBut a s.heap h') (ho:h'.get? a=some (lstO vs' k')) (hd:VDs (ow.adr++av) s.heap vs' ds'):FmMv g T av ow ow env ((x,.own ds')::σ) s { s with heap:=h',toks:=tk } :=
 have mv:=F.wrote (tk:=tk) hs (.inr (.inr (own_adr hax)))
 ⟨F.ownMv hax lx (mv.gk F.gk) (fun b o n e _=>(hs.2 b n).trans e) ho (hd.keep fun b o e ho' nb=>(hs.2 b fun q=>nb (q▸List.mem_append_left _ (own_adr hax))).trans e),mv⟩
theorem interactive_no (F:Fm g T av ow env σ s):interactive env=false:=by rw [interactive,F.ec.kind]; rfl
inductive OwnAt (ow:Ow) (av:List Addr) (env:Env) (x:Str) (ds:List D) (h:Heap):Prop
 | mk {a:Addr}{vs:List Value}{k:Nat}(m:(x,a)∈ow.l) (l:Loads env h x (.ref a)) (e:h.get? a=some (lstO vs k)) (r:VDs (ow.adr++av) h vs ds):OwnAt ow av env x ds h
theorem Fm.ownAt (F:Fm g T av ow env σ s) (hx:σ.lookup x=some (.own ds)):OwnAt ow av env x ds s.heap:=by
 cases F.ec.vars x _ hx with | mk v l r =>
 obtain ⟨a,hax,la⟩:=F.reg x ds hx
 cases r with | mk m e r=>cases l.uniq la; exact ⟨hax,la,e,r⟩
theorem room_lst (h:VDs av s.heap vs ds) (hz:ds.length≤lim):vs.toArray.size≤sizeLine:=by rw [List.size_toArray,h.length]; exact Nat.le_trans (Nat.le_trans hz (Nat.le_add_left ..)) lim_le
theorem Sx.append (hx:σ.lookup x=some (.own ds)) (hst:∀ env,starEach [e] env=[(false,eval e env)]) (hln:(apos.endLine==cpos.line)=true) (h:Ev prog w g T n sc σ e d) (hz:ds.length≤lim) :
  Sx prog w g T n sc σ (.Expr (.Call (.Attribute (.Name x p) "append" apos) [e] [] cpos) pos) (.next ((x,.own (ds++[d]))::σ)):=fun A s av ow env he hoc rm F=>by
 refine wpAny_Expr_any ?_ (interactive_no F) rfl
 cases F.ownAt hx with | @mk a vs k hax la e3 e4 =>
 refine wpAny_Call_method_late rfl (by rw [hst]; rfl) hln rfl (wp_load F.ec.kind la ?_)
 refine ⟨"list", "list.append",PySem.F.plainAttrs_list,PySem.F.slot_list_append,PySem.F.type_list_append,⟨_,e3,rfl⟩,fun b hb=>by cases hb; exact ⟨_,e3,rfl⟩,?_⟩
 refine callWith_method1 (wp_to ((EvL.more hst h EvL.nil).run A s _ env cpos he rm F.gk F.ec) fun us s₁ h₁=>?_) (hst _) rfl
 cases h₁.2.i1 with | mk r0 r2 =>
 cases r2.i0
 have r5:=h₁.1.vds F.gk e4
 refine wpAny_list_append_plain ⟨k,h₁.1.get' F.gk e3 (nt_lst _ _)⟩ (fun h' hp hs=>hp.elim fun k' e6=>?_) (room_lst r5 hz)
 have f:=(F.ext h₁.1).setOwn (tk:=s₁.toks) (vs':=vs++[_]) (k':=k') hax (la.ext h₁.1 F.gk) hs (by simpa [List.push_toArray] using e6) (r5.append (.one r0))
 exact .next ⟨ow,rfl,f.F,Mv.trans h₁.1.mv f.m fun b h=>.inl h,fun b h=>.inl h⟩
theorem Sx.reverse (hx:σ.lookup x=some (.own ds)) (hln:(apos.endLine==cpos.line)=true) (hz:ds.length≤lim) :
  Sx prog w g T n sc σ (.Expr (.Call (.Attribute (.Name x p) "reverse" apos) [] [] cpos) pos) (.next ((x,.own ds.reverse)::σ)):=fun A s av ow env he hoc rm F=>by
 refine wpAny_Expr_any ?_ (interactive_no F) rfl
 cases F.ownAt hx with | @mk a vs k hax la e3 e4 =>
 refine wpAny_Call_method_late rfl rfl hln rfl (wp_load F.ec.kind la ?_)
 refine ⟨"list", "list.reverse",PySem.F.plainAttrs_list,PySem.F.slot_list_reverse,PySem.F.type_list_reverse,⟨_,e3,rfl⟩,fun b hb=>by cases hb; exact ⟨_,e3,rfl⟩,P.reverse_list e3 ?_ (room_lst e4 hz)⟩
 have f:=F.setOwn (tk:=s.toks) (vs':=vs.reverse) hax la (Heap.SameBut.update ..) ((PySem.IsL.update (h:=s.heap) (l:=a) (items:=vs.toArray) (n:=k) e3 fun x=>x.reverse).trans (by rw [List.reverse_toArray])) e4.reverse
 exact .next ⟨ow,rfl,f.F,f.m,fun b h=>.inl h⟩
end
end
section
noncomputable abbrev TupK (h h':Heap):Prop:=∀ a vs n,h.get? a=some (tupO vs n)→h'.get? a=some (tupO vs n)
inductive NxU (U:Addr→Prop) (g:Heap) (T:Tabs) (av:List Addr) (ow:Ow) (env:Env) (s:Shared) (σ':Sto) (s':Shared):Prop
 | mk (ow':Ow) (c:ow'.c=ow.c) (F:Fm g T av ow' env σ' s') (m:Mv g T (fun b=>Wr env ow b∨U b) s s') (w:∀ b,Wr env ow' b→Wr env ow b∨s.heap.get? b=none)
inductive TurnU (J B:Sto→Shared→Prop) (D':D→Prop) (U:Addr→Prop) (g:Heap) (T:Tabs) (av:List Addr) (ow:Ow) (env:Env) (s:Shared):Flow→Shared→Prop
 | next {σ':Sto}{s':Shared}(n:NxU U g T av ow env s σ' s') (j:J σ' s'):TurnU J B D' U g T av ow env s .next s'
 | cont {σ':Sto}{s':Shared}(n:NxU U g T av ow env s σ' s') (j:J σ' s'):TurnU J B D' U g T av ow env s .cont s'
 | brk {σ':Sto}{s':Shared}(n:NxU U g T av ow env s σ' s') (j:B σ' s'):TurnU J B D' U g T av ow env s .brk s'
 | ret {d:D}{v:Value}{s':Shared}(r:VD av s'.heap v d) (m:Mv g T (fun b=>Wr env ow b∨U b) s s') (j:D' d):TurnU J B D' U g T av ow env s (.ret v) s'
section
variable {prog:Program}{w:World}{g:Heap}{T:Tabs}{n:Nat}{sc scope:Scope}{σ σ' σ₁:Sto}{s s' s'' s₁ s₂ s₃:Shared}{av fp:List Addr}{ow ow' ow₀:Ow}{env:Env}{A:Around}{R:Rz}{tg t iter:Expr}{body orelse:List Stmt}{pos:Pos}{ds:List D}{U pr:Addr→Prop}{B:Sto→Shared→Prop}{D':D→Prop}{Q:Flow→Shared→Prop}{b:Addr}{o:Obj}{K:Prop}{it:Value}{St:List D→Heap→Prop}
theorem NxU.of_nx (h:Nx g T av ow env s σ' s'):NxU U g T av ow env s σ' s':=h.rec fun ow' c F m w=>⟨ow',c,F,m.sub fun b q=>.inl (.inl q),w⟩
theorem NxU.nx (h:NxU (fun _=>False) g T av ow env s σ' s'):Nx g T av ow env s σ' s':=h.rec fun ow' c F m w=>⟨ow',c,F,m.sub fun b q=>q.elim .inl False.elim,w⟩
theorem NxU.up {U':Addr→Prop}(h:NxU U g T av ow env s σ' s') (hu:∀ b,U b→U' b):NxU U' g T av ow env s σ' s':=h.rec fun ow' c F m w=>⟨ow',c,F,m.sub fun b q=>.inl (q.imp id (hu b)),w⟩
theorem NxU.then (c:ow'.c=ow.c) (q:GK g T s₁) (m:Mv g T (fun b=>Wr env ow b∨U b) s s₁) (w:∀ b,Wr env ow' b→Wr env ow b∨s.heap.get? b=none) (hU:∀ b,U b→s₁.heap.get? b≠none) (k:NxU U g T av ow' env s₁ σ' s'):NxU U g T av ow env s σ' s' :=
 k.rec fun ow₂ c₂ F₂ m₂ w₂=>⟨ow₂,c₂.trans c,F₂,m.trans m₂ fun b hb=>hb.elim (fun z=>(w b z).imp .inl id) fun z=>.inl (.inr z),fun b hb=>(w₂ b hb).elim (w b) fun z=>(m.new q z).elim (fun y=>y.elim .inl fun y=>absurd z (hU b y)) .inr⟩
theorem Fm.wlst' (F:Fm g T av ow env σ s) (hc:ow.c=ow₀.c) (e:s.heap.get? b=some o) (ho:SeqObj o) (hw:Wr env ow₀ b):b∈ow₀.adr:=by
 rcases hw with rfl | ⟨x,hm,k,hx⟩ | hb
 ·exact F.ns.elim fun m n=>(ns_nsq n e ho).elim
 ·exact (F.own x b (hc▸hm) k hx).elim fun v hv=>(cell_nsq hv e ho).elim
 ·exact hb
theorem Fm.tupK (F:Fm g T av ow env σ s) {W:Addr→Prop}(m:Mv g T W s s') (hU:∀ b,W b→Wr env ow b):TupK s.heap s'.heap:=fun q us k e=>m.get' F.gk e (fun hw=>(F.isl q (F.wlst e ⟨_,_,.inl rfl⟩ (hU q hw))).elim fun _ p=>p.elim fun _ e'=>disc tgP (e.symm.trans e') rfl) (nt_tup _ _)
theorem Itr.tupK {h0:Heap}{l:List Addr}(I:Itr prog w K l fp h0 tg it St) (st:St ds s.heap) (on:Only fp s s') (hK:K):TupK s.heap s'.heap:=fun q us k e=>on.get e fun hb=>by
 cases I.obj _ _ st q hb with | mk o e' i nl f =>
 obtain ⟨vs,hd⟩:=f hK
 exact disc tgB ((congrArg Obj.data (sinj e e')).trans hd) rfl
inductive BodyU (prog:Program) (w:World) (g:Heap) (T:Tabs) (n:Nat) (sc:Scope) (tg:Expr) (body:List Stmt) (pr U:Addr→Prop) (Inv:Shared→Prop) (J B:Sto→Shared→Prop) (D':D→Prop) (A:Around) (av:List Addr) (env:Env) (d:D) (σ:Sto):Prop
 | mk (b:Bd) (t:Tg tg d b) (st:stAll sc (cellNames sc.names) b)
  (run:∀ (fp:List Addr) (s:Shared) (ow:Ow),ow.c=cellNames sc.names→Fm g T (fp++av) ow env (bindAll b σ) s→Inv s→(∀ b,pr b→¬ Wr env ow b)→wpAny (model prog w) A (execs body env) (TurnU J B D' U g T (fp++av) ow env s) NoE s)
inductive LoopU (U:Addr→Prop) (g:Heap) (T:Tabs) (av:List Addr) (ow:Ow) (env:Env) (s₀:Shared) (St:List D→Heap→Prop) (Inv:List D→Sto→Shared→Prop) (k:Nat) (s:Shared):Prop
 | mk (ds:List D) (σ:Sto) (l:ds.length=k) (inv:Inv ds σ s) (n:NxU U g T av ow env s₀ σ s) (st:St ds s.heap)
structure LoopP (K:Prop) (g:Heap) (T:Tabs) (av:List Addr) (pr U:Addr→Prop) (Inv:List D→Sto→Shared→Prop):Prop where
 obj:∀ ds σ s,Inv ds σ s→∀ b,pr b→∃ o,s.heap.get? b=some o∧NT o
 seq:∀ ds σ s,Inv ds σ s→∀ b o,U b→s.heap.get? b=some o→SeqObj o→b∈av
 up:∀ b,U b→pr b
 st:∀ ds σ s₁ s₂ W,Inv ds σ s₁→GK g T s₁→Mv g T W s₁ s₂→(∀ b,W b→¬ pr b)→(K→TupK s₁.heap s₂.heap)→Inv ds σ s₂
variable {Inv:List D→Sto→Shared→Prop}
theorem wp_for (L:LoopP K g T av pr U Inv) (hi:EvK prog w g T K n sc σ tg iter ds) (hsd:NoSet iter) (he:env.scope=sc) (hoc:ow₀.c=cellNames sc.names) (rm:Rm n A) (F:Fm g T av ow₀ env σ s) (hnw:∀ b,pr b→¬ Wr env ow₀ b) (h0:Inv ds σ s)
  (hb:∀ d ds' σ' s₁,Inv (d::ds') σ' s₁→BodyU prog w g T n sc tg body pr U (Inv (d::ds') σ') (Inv ds') B D' A av env d σ')
  (hN:∀ σ' s',Inv [] σ' s'→NxU U g T av ow₀ env s σ' s'→wpAny (model prog w) A (execs orelse env) Q NoE s')
  (hB:∀ σ' s',B σ' s'→NxU U g T av ow₀ env s σ' s'→Q .next s')
  (hR:∀ d v s',D' d→VD av s'.heap v d→Mv g T (fun b=>Wr env ow₀ b∨U b) s s'→Q (.ret v) s'):wpAny (model prog w) A (exec (.For tg iter body orelse pos) env) Q NoE s:=by
 refine wpAny_For (wp_to (hi A s _ env he rm F.gk F.ec) fun x s₁ h₁=>wp_to h₁ fun it s₂ h₂=>?_) fun x=>hsd env x
 cases h₂ with | mk x₂ fp hn hI =>
 cases hI [] nofun with | mk St I0 st =>
 have I:Itr prog w K (fp++(ow₀.adr++av)) fp s₂.heap tg it St:=I0
 have F₂:Fm g T (fp++av) ow₀ env σ s₂:=F.grow x₂ hn fun b hb=>(I.obj _ _ st b hb).rec fun o e i _ _=>⟨o,e,i.1.2⟩
 have gf:∀ b∈fp,g.get? b=none:=fun b hb=>F.gk.new (hn b hb)
 have prfp:∀ b,pr b→b∉fp:=fun b hp hb=>(L.obj _ _ _ h0 b hp).elim fun o p=>nos (hn b hb) p.1
 have i₂:Inv ds σ s₂:=L.st _ _ _ _ (fun _=>False) h0 F.gk x₂.mv (fun _ f=>f.elim) fun _ _ _ _ e=>x₂.get' F.gk e (nt_tup _ _)
 have prw:∀ {ow:Ow},(∀ b,Wr env ow b→Wr env ow₀ b∨s₂.heap.get? b=none)→∀ b,pr b→¬ Wr env ow b:=fun hw b hp h=>(hw b h).elim (hnw b hp) fun q=>(L.obj _ _ _ i₂ b hp).elim fun o p=>nos q p.1
 have outM:∀ {s'},Mv g T (fun b=>Wr env ow₀ b∨(U b∨b∈fp)) s₂ s'→Mv g T (fun b=>Wr env ow₀ b∨U b) s s':=fun m=>Mv.trans x₂.mv m fun b hb=>hb.elim (fun q=>.inl (.inl q)) fun q=>q.elim (fun q=>.inl (.inr q)) fun q=>.inr (hn b q)
 have outW:∀ {ow:Ow},(∀ b,Wr env ow b→Wr env ow₀ b∨s₂.heap.get? b=none)→∀ b,Wr env ow b→Wr env ow₀ b∨s.heap.get? b=none:=fun hw b hb=>(hw b hb).imp id (x₂.none F.gk)
 have out:∀ {σ' s'},NxU (fun b=>U b∨b∈fp) g T (fp++av) ow₀ env s₂ σ' s'→NxU U g T av ow₀ env s σ' s':=fun k=>k.rec fun ow' c F' m w=>⟨ow',c,F'.shrink fun a ha=>List.mem_append_right _ ha,outM m,outW w⟩
 refine codeAny_mono (codeAny_forLoop_any (R:=fun r s'=>Except.rec (fun _=>False) (fun f=>Q f s') r) (LoopU (fun b=>U b∨b∈fp) g T (fp++av) ow₀ env s₂ St Inv) ?_ ds.length ⟨ds,σ,rfl,i₂,⟨ow₀,rfl,F₂,.refl,fun b h=>.inl h⟩,st⟩) fun r s' hr=>?_
 ·intro k s₁ h₁
  cases h₁ with | mk ds' σ' l inv nx st₁ =>
  cases nx with | mk ow c F₁ m₁ w₁ =>
  have wo:=fun b hb=>(I.obj _ _ st₁ b hb).wo
  have hfp:∀ b∈fp,b∈fp++av:=fun b=>List.mem_append_left _
  cases ds' with
  | nil =>
   refine wpAny_mono (E:=NoE) (I.done A s₁ rm.hand st₁) (fun r s₃ h₃=>?_) fun _ _ f=>f.elim
   obtain ⟨rfl,on⟩:=h₃
   have f:=F₁.changed' (av':=av) on gf hfp (fun a=>List.mem_append_right _) wo fun b hb hb'=>(F.ec.avok b (List.mem_append_right _ hb')).elim fun o p=>(nos (hn b hb) p.1).elim
   exact wpAny_mono (hN σ' s₃ (L.st _ _ _ _ _ inv F₁.gk f.m (fun b hb hp=>prfp b hp hb) (I.tupK st₁ on)) ⟨ow,c,f.F,Mv.trans (outM m₁) f.m fun b hb=>.inr (hn b hb),outW w₁⟩) (fun _ _ q=>q) fun _ _ f=>f.elim
  | cons d ds' =>
   cases hb d ds' σ' s₁ inv with | mk b t hsa run =>
   refine wpAny_mono (E:=NoE) (I.item A d ds' s₁ (ow.adr++(fp++av)) rm.hand (fun b hb=>?_) (fun b hb=>(F₁.ec.avok b hb).elim fun o p q=>nos q p.1) st₁) (fun r s₃ h₃=>?_) fun _ _ f=>f.elim
   ·exact (List.mem_append.mp hb).elim (fun q=>(w₁ b (.inr (.inr q))).imp (fun z=>List.mem_append_right _ (List.mem_append_left _ ((F₁.isl b q).elim fun _ p=>p.elim fun _ e=>F₁.wlst' c e ⟨_,_,.inr rfl⟩ z))) id) fun q=>.inl ((List.mem_append.mp q).elim (List.mem_append_left _) fun q=>List.mem_append_right _ (List.mem_append_right _ q))
   cases h₃ with | mk h₃ =>
   refine wpAny_mono h₃ (fun _ s₄ h₄=>?_) fun _ _ f=>f.elim
   have f:=F₁.changed h₄.on gf hfp wo fun b hb=>(I.obj _ _ h₄.st b hb).wo
   refine wpAny_mono (wp_assign rm.hand he f.F t ((c.trans hoc).symm▸hsa) h₄.vd) (fun _ s₅ h₅=>?_) fun _ _ f=>f.elim
   cases h₅ with | mk ow₅ c₅ F₅ m₅ w₅ _ =>
   have ex₁:∀ b,(U b∨b∈fp)→s₁.heap.get? b≠none:=fun b hb q=>hb.elim (fun z=>(L.obj _ _ _ inv b (L.up b z)).elim fun o p=>nos q p.1) fun z=>(wo b z).rec fun o e _=>nos q e
   have n₅:NxU (fun b=>U b∨b∈fp) g T (fp++av) ow₀ env s₂ (bindAll b σ') s₅:=.then c F₁.gk m₁ w₁ ex₁ ⟨ow₅,c₅,F₅,Mv.trans (f.m.sub fun b hb=>.inl (.inr (.inr hb))) m₅ fun b hb=>.inl (.inl hb),fun b hb=>.inl (w₅ b hb)⟩
   have i₅:Inv (d::ds') σ' s₅:=L.st _ _ _ _ _ (L.st _ _ _ _ _ inv F₁.gk f.m (fun b hb hp=>prfp b hp hb) (I.tupK st₁ h₄.on)) f.F.gk m₅ (fun b hb hp=>prw w₁ b hp hb) fun _=>f.F.tupK m₅ fun b hb=>hb
   have c':=c₅.trans (c.trans hoc)
   have hw₅:=fun b hb=>w₁ b (w₅ b hb)
   have m₂₅:Mv g T (fun b=>Wr env ow₀ b∨(U b∨b∈fp)) s₂ s₅:=Mv.trans (Mv.trans m₁ f.m fun b hb=>.inl (.inr (.inr hb))) m₅ fun b hb=>(w₁ b hb).imp .inl id
   have fpk:∀ {s₆},Mv g T (fun b=>Wr env ow₅ b∨U b) s₅ s₆→∀ b∈fp,∀ o,s₄.heap.get? b=some o→s₆.heap.get? b=some o:=fun m b hb o e=>by
    have i:=(I.obj _ _ h₄.st b hb).wo.at e
    have nf:b∉ow.adr:=fun z=>F₁.apt b z (hfp b hb)
    exact (Mv.trans (W:=fun b=>Wr env ow b∨U b) (m₅.sub fun b q=>.inl (.inl q)) m fun b q=>.inl (q.imp (w₅ b) id)).get' f.F.gk e (fun q=>q.elim (wr_avoid f.F nf e i) fun z=>prfp b (L.up b z) hb) i.1.2
   have ex₅:∀ b,(U b∨b∈fp)→s₅.heap.get? b≠none:=fun b hb q=>hb.elim (fun z=>(L.obj _ _ _ i₅ b (L.up b z)).elim fun o p=>nos q p.1) fun z=>(I.obj _ _ h₄.st b z).rec fun o e _ _ _=>nos q (fpk .refl b z o e)
   have go:∀ {σ₆ s₆},NxU U g T (fp++av) ow₅ env s₅ σ₆ s₆→NxU (fun b=>U b∨b∈fp) g T (fp++av) ow₀ env s₂ σ₆ s₆:=fun k=>.then (c₅.trans c) F₅.gk m₂₅ hw₅ ex₅ (k.up fun _=>.inl)
   have again:∀ {σ₆ s₆},NxU U g T (fp++av) ow₅ env s₅ σ₆ s₆→Inv ds' σ₆ s₆→∃ m,m<k∧LoopU (fun b=>U b∨b∈fp) g T (fp++av) ow₀ env s₂ St Inv m s₆:=fun kx j=>by
    have n₆:=go kx
    refine ⟨ds'.length,l▸Nat.lt_succ_self _,ds',_,rfl,j,n₆,I.frame0 _ _ _ h₄.st (kx.rec fun _ _ _ m _=>fpk m) ?_⟩
    cases n₆ with | mk _ _ _ m _ =>
    exact m.seq F₂.gk fun b o e ho hb=>hb.elim (fun z=>List.mem_append_right _ (List.mem_append_left _ (F₂.wlst e ho z))) fun z=>z.elim (fun z=>List.mem_append_right _ (List.mem_append_right _ (L.seq _ _ _ i₂ b o z e ho))) (List.mem_append_left _)
   refine wpAny_mono (run fp s₅ ow₅ c' F₅ i₅ (prw hw₅)) (fun fl s₆ h₆=>?_) fun _ _ f=>f.elim
   cases h₆ with
   | next kx j=>exact again kx j
   | cont kx j=>exact again kx j
   | brk kx j=>exact hB _ _ j (out (go kx))
   | ret r m j=>exact hR _ _ _ j (r.sub fun a=>List.mem_append_right _) (outM (Mv.trans m₂₅ m fun b hb=>hb.elim (fun q=>(hw₅ b q).imp .inl id) fun q=>.inl (.inr (.inl q))))
 ·cases r with
  | ok f=>exact hr
  | error e=>exact hr.elim
end
end
section
section
variable (prog:Program) (w:World) (g:Heap) (T:Tabs) (n:Nat) (sc:Scope)
inductive ForN (N:Sto→Prop) (σ:Sto):Prop
 | mk (σ':Sto) (h:N σ') (hs:Sub σ' σ)
inductive ForS (tg:Expr) (body:List Stmt) (K B:Sto→Prop) (D':D→Prop) (d:D) (σ:Sto):Prop
 | mk (b:Bd) (R':Rz) (t:Tg tg d b) (st:stAll sc (cellNames sc.names) b) (run:SxL prog w g T n sc (bindAll b σ) body R') (go:R'.rec K K B D')
noncomputable def ForG (tg:Expr) (body:List Stmt) (N B:Sto→Prop) (D':D→Prop) (ds:List D):Sto→Prop:=ds.rec (ForN N) fun d _ ih=>ForS prog w g T n sc tg body ih B D' d
noncomputable def ForR (tg:Expr) (body:List Stmt) (ds:List D) (σ:Sto) (R:Rz):Prop:=ForG prog w g T n sc tg body (fun σ=>R=.next σ) (fun σ=>R=.next σ) (fun d=>R=.ret d) ds σ
inductive WhS (t:Expr) (body:List Stmt) (R:Rz) (K:Sto→Prop) (σ:Sto):Prop
 | stop (h:EvT prog w g T n sc (froz σ) t false) (σ':Sto) (e:R=.next σ') (hs:Sub σ' σ)
 | step (h:EvT prog w g T n sc (froz σ) t true) (σ₁:Sto) (run:SxL prog w g T n sc σ body (.next σ₁)) (k:K σ₁)
noncomputable def WhR (t:Expr) (body:List Stmt) (k:Nat) (σ:Sto) (R:Rz):Prop:=k.rec (WhS prog w g T n sc t body R fun _=>False) (fun _ ih=>WhS prog w g T n sc t body R ih) σ
end
theorem bindAll_mono (b:Bd):∀ {σ σ':Sto},Sub σ σ'→Sub (bindAll b σ) (bindAll b σ'):=by
 induction b with
 | nil=>exact fun h=>h
 | cons p r ih =>
  refine fun h=>ih fun y sl e=>?_
  rw [lookup_cons']
  rcases lookup_hit e with ⟨q,e⟩ | ⟨q,e⟩
  ·rw [if_pos q,e]
  ·rw [if_neg q]; exact h y sl e
theorem Sub.trans {a b c:Sto}(x:Sub a b) (y:Sub b c):Sub a c:=fun z sl e=>y z sl (x z sl e)
theorem Sub.refl {a:Sto}:Sub a a:=fun _ _ e=>e
theorem froz_sub {σ σ':Sto}(h:Sub σ σ'):Sub (froz σ) (froz σ'):=fun x sl e=>by
 rw [froz_lookup] at e ⊢
 obtain ⟨sl',e',rfl⟩:=Option.map_eq_some_iff.mp e
 rw [h x sl' e']; rfl
section
variable {prog:Program}{w:World}{g:Heap}{T:Tabs}{n:Nat}{sc scope:Scope}{σ σ' σ₁:Sto}{s s' s'':Shared}{av:List Addr}{ow ow' ow₀:Ow}{env:Env}{A:Around}{R:Rz}{tg t iter e:Expr}{body orelse:List Stmt}{N B:Sto→Prop}{D':D→Prop}{d:D}{ds:List D}{b:Bd}{pos:Pos}{Q:Flow→Shared→Prop}{k:Nat}{c:Bool}
theorem EvT.pre (hs:Sub σ₁ σ) (h:EvT prog w g T n sc σ₁ e c):EvT prog w g T n sc σ e c:=fun A s av env he rm hg hc=>h A s av env he rm hg ⟨hc.kind,hc.glob,hc.blt,hc.avok,fun x sl e=>hc.vars x sl (hs x sl e),hc.cells⟩
theorem ForG.weak (hs:Sub σ₁ σ) (h:ForG prog w g T n sc tg body N B D' ds σ₁):ForG prog w g T n sc tg body N B D' ds σ:=by
 cases ds with
 | nil=>cases h with | mk σ' h q=>exact ⟨σ',h,q.trans hs⟩
 | cons d ds=>cases h with | mk b R' t st run go=>exact ⟨b,R',t,st,run.pre (bindAll_mono b hs),go⟩
theorem ForR.nil:ForR prog w g T n sc tg body [] σ (.next σ):=⟨σ,rfl,.refl⟩
section
variable (ht:Tg tg d b) (hst:stAll sc (cellNames sc.names) b)
include ht hst
theorem ForR.step (h:SxL prog w g T n sc (bindAll b σ) body (.next σ₁)) (k:ForR prog w g T n sc tg body ds σ₁ R):ForR prog w g T n sc tg body (d::ds) σ R:=⟨b,.next σ₁,ht,hst,h,k⟩
theorem ForR.ret {r:D}(h:SxL prog w g T n sc (bindAll b σ) body (.ret r)):ForR prog w g T n sc tg body (d::ds) σ (.ret r):=⟨b,.ret r,ht,hst,h,rfl⟩
end
theorem ForR.weak (hs:Sub σ₁ σ) (h:ForR prog w g T n sc tg body ds σ₁ R):ForR prog w g T n sc tg body ds σ R:=ForG.weak hs h
theorem LoopP.none {K:Prop}{Inv:List D→Sto→Prop}:LoopP K g T av (fun _=>False) (fun _=>False) fun ds σ _=>Inv ds σ:=⟨fun _ _ _ _ _ f=>f.elim,fun _ _ _ _ _ _ f=>f.elim,fun _ f=>f,fun _ _ _ _ _ i _ _ _ _=>i⟩
theorem Mv.off {W:Addr→Prop}(m:Mv g T (fun b=>W b∨False) s s'):Mv g T W s s':=m.sub fun b q=>q.elim .inl False.elim
theorem wp_forG (h:ForG prog w g T n sc tg body N B D' ds σ) (hi:EvI prog w g T n sc σ tg iter ds) (hsd:NoSet iter) (he:env.scope=sc) (hoc:ow₀.c=cellNames sc.names) (rm:Rm n A) (F:Fm g T av ow₀ env σ s)
  (hN:∀ σ' s',N σ'→Nx g T av ow₀ env s σ' s'→wpAny (model prog w) A (execs orelse env) Q NoE s') (hB:∀ σ' s',B σ'→Nx g T av ow₀ env s σ' s'→Q .next s') (hR:∀ d v s',D' d→VD av s'.heap v d→Mv g T (Wr env ow₀) s s'→Q (.ret v) s') :
  wpAny (model prog w) A (exec (.For tg iter body orelse pos) env) Q NoE s:=by
 refine wp_for (Inv:=fun ds σ _=>ForG prog w g T n sc tg body N B D' ds σ) (B:=fun σ _=>B σ) LoopP.none hi hsd he hoc rm F (fun _ f=>f.elim) h (fun d ds' σ' s₁ i=>?_) (fun σ' s' i nx=>?_) (fun σ' s' j nx=>hB σ' s' j nx.nx) fun d v s' j r m=>hR d v s' j r m.off
 ·cases i with | mk b R' t st run go =>
  refine ⟨b,t,st,fun fp s ow c F _ _=>wp_to (run A s _ ow env he c rm F) fun fl s' k=>?_⟩
  cases k with
  | next nx=>exact .next (.of_nx nx) go
  | cont nx=>exact .cont (.of_nx nx) go
  | brk nx=>exact .brk (.of_nx nx) go
  | ret r m=>exact .ret r (m.sub fun b q=>.inl (.inl q)) go
 ·cases i with | mk σ'' h hs=>exact hN σ'' s' h (nx.nx.weak hs)
theorem Sx.for (hi:EvI prog w g T n sc σ tg iter ds) (hsd:NoSet iter) (h:ForR prog w g T n sc tg body ds σ R):Sx prog w g T n sc σ (.For tg iter body [] pos) R:=fun A s av ow₀ env he hoc rm F =>
 wp_forG h hi hsd he hoc rm F (fun σ' s' e nx=>wpAny_execs_nil (e▸.next nx)) (fun σ' s' e nx=>e▸.next nx) fun d v s' e r m=>e▸.ret r m
theorem WhR.weak (hs:Sub σ₁ σ) (h:WhR prog w g T n sc t body k σ₁ R):WhR prog w g T n sc t body k σ R:=by
 cases k <;> cases h with
 | stop h σ' e q=>exact .stop (h.pre (froz_sub hs)) σ' e (q.trans hs)
 | step h σ₂ run k=>exact .step (h.pre (froz_sub hs)) σ₂ (run.pre hs) k
theorem WhR.stop (h:EvT prog w g T n sc (froz σ) t false):WhR prog w g T n sc t body k σ (.next σ):=by cases k <;> exact .stop h σ rfl .refl
theorem WhR.step (h:EvT prog w g T n sc (froz σ) t true) (hb:SxL prog w g T n sc σ body (.next σ₁)) (hr:WhR prog w g T n sc t body k σ₁ R):WhR prog w g T n sc t body (k+1) σ R:=WhS.step h σ₁ hb hr
inductive LoopW (prog:Program) (w:World) (g:Heap) (T:Tabs) (n:Nat) (sc:Scope) (t:Expr) (body:List Stmt) (R:Rz) (av:List Addr) (ow:Ow) (env:Env) (s:Shared) (k:Nat) (s':Shared):Prop
 | mk (σ:Sto) (h:WhR prog w g T n sc t body k σ R) (nx:Nx g T av ow env s σ s')
theorem WhR.inv (h:WhR prog w g T n sc t body k σ R):WhS prog w g T n sc t body R (fun σ'=>∃ j,j<k∧WhR prog w g T n sc t body j σ' R) σ:=by
 cases k with
 | zero=>cases h with
  | stop h σ' e q=>exact .stop h σ' e q
  | step _ _ _ f=>exact f.elim
 | succ k=>cases h with
  | stop h σ' e q=>exact .stop h σ' e q
  | step h σ₁ r k=>exact .step h σ₁ r ⟨_,Nat.lt_succ_self _,k⟩
theorem EvT.go (h:EvT prog w g T n sc (froz σ) t c) (he:env.scope=sc) (rm:Rm n A) (F:Fm g T av ow env σ s) {K:Bool→Shared→Prop}{E:Value→Shared→Prop}(hK:∀ s₂,Ext g T s s₂→K c s₂):wpAny (model prog w) A (isTrue t env (eval t env)) K E s :=
 wpAny_mono (h A s _ env he rm F.gk F.froz) (fun c s₂ h₂=>h₂.1▸hK s₂ h₂.2) fun _ _ f=>f.elim
theorem Sx.while (h:WhR prog w g T n sc t body k σ R):Sx prog w g T n sc σ (.While t body [] pos) R:=fun A s av ow₀ env he hoc rm F=>by
 refine wpAny_While (codeAny_mono (codeAny_whileLoop (R:=fun r s'=>Except.rec (fun _=>False) (fun f=>Mtch g T av ow₀ env s R f s') r) (LoopW prog w g T n sc t body R av ow₀ env s) ?_ k ⟨σ,h,.of_ext F .refl⟩) fun r s' hr=>?_)
 ·intro k s₁ h₁
  cases h₁ with | mk σ₁ h nx =>
  cases nx with | mk ow c F₁ m₁ w₁ =>
  cases h.inv with
  | stop h σ' e q=>exact h.go he rm F₁ fun s₂ x=>wpAny_execs_nil (e▸.next ((Nx.then c F₁.gk m₁ w₁ (.of_ext F₁ x)).weak q))
  | step h σ₂ run hk =>
   refine h.go he rm F₁ fun s₂ x=>wpAny_mono (run A s₂ av ow env he (c.trans hoc) rm (F₁.ext x)) (fun fl s₃ h₃=>?_) fun _ _ f=>f.elim
   cases h₃ with | next nx=>exact hk.imp fun j p=>⟨p.1,σ₂,p.2,Nx.then c (x.gk F₁.gk) (Mv.trans m₁ x.mv fun _=>.inl) w₁ nx⟩
 ·cases r with
  | ok f=>exact hr
  | error e=>exact hr.elim
noncomputable def params (xs:List Str) (ds:List D):Sto:=bindAll (xs.zip ds) []
inductive BindO (P:Value→Str→Prop) (g:Heap) (fd:FuncData) (vs:List Value) (r:List (Str×Value)):Prop
 | pure (e:bindArgs fd ⟨vs,[]⟩=Pure.pure r)
 | look (n:¬ ∀ c q,P c q) (l:∀ M:Model,Looks M g (bindArgs fd ⟨vs,[]⟩) r)
inductive FnO (P:Value→Str→Prop) (g:Heap) (a:Addr) (sc:Scope) (cl:List (Str×Addr)) (xs:List Str) (body:List Stmt):Prop
 | mk (o:Obj) (fd:FuncData) (at_:g.get? a=some o) (dat:o.data=.func fd) (sc_:fd.scope=sc) (bd:fd.body=.stmts body) (clo:fd.closure=cl) (glob:fd.globals=mainGlobals) (blt:fd.builtins=builtinsNs) (code:g.CodeRec fd.code fd.qualname) (bind:∀ vals,vals.length=xs.length→BindO P g fd vals (xs.zip vals))
  (p:P fd.code (fd.qualname ++ ".<locals>.")) (lim:g.NoLimit)
noncomputable abbrev FnAtP (P:Value→Str→Prop) (g:Heap) (a:Addr) (sc:Scope) (xs:List Str) (body:List Stmt):Prop:=FnO P g a sc [] xs body
noncomputable abbrev FnAt:=FnAtP fun _ _=>True
structure FnS0 (sc:Scope) (xs:List Str):Prop where
 kind:sc.kind=.function
 coro:sc.isCoroutine=false
 gen:sc.isGenerator=false
 st:xs.all (stOk sc (cellNames sc.names))=true
structure FnS (sc:Scope) (xs:List Str):Prop extends FnS0 sc xs where
 nofree:(sc.names.all fun p=>p.2 != .free)=true
structure FnEnv (P:Value→Str→Prop) (sc:Scope) (cl:List (Str×Addr)) (env:Env):Prop where
 sc_:env.scope=sc
 cells:∀ x,(x,NameKind.cell)∉sc.names→env.cells.lookup x=cl.lookup x
 p:P env.code env.qual
inductive CapO (sc:Scope) (cl:List (Str×Addr)) (av:List Addr) (h:Heap) (x:Str):Sl→Prop
 | mk (d:D) (c:Addr) (v:Value) (ok:okName x=true) (k:sc.names.lookup x=some .free) (nc:(x,NameKind.cell)∉sc.names) (e:cl.lookup x=some c) (i:h.IsCell c (some v)) (r:VD av h v d):CapO sc cl av h x (.val d)
structure ClosOk (sc:Scope) (cl:List (Str×Addr)) (σc:Sto) (av:List Addr) (h:Heap):Prop where
 ce:∀ x c,cl.lookup x=some c→∃ v,h.IsCell c v
 free:∀ x,sc.names.lookup x=some .free→(cl.lookup x).isSome=true
 cap:∀ x sl,σc.lookup x=some sl→CapO sc cl av h x sl
variable {xs:List Str}{vs:List Value}{a:Addr}{P:Value→Str→Prop}{f:Str}
theorem wp_binds (he:env.scope=sc) (xs:List Str):∀ {vs:List Value}{ds:List D}{σ:Sto}{ow:Ow}{s:Shared},Fm g T av ow env σ s→xs.length=vs.length→VDs (ow.adr++av) s.heap vs ds→xs.all (stOk sc ow.c)=true →
  wpAny (model prog w) A (forIn (xs.zip vs) PUnit.unit (fun x _=>do storeName env x.1 x.2; pure (ForInStep.yield PUnit.unit))) (fun _ s'=>AsV g T av ow env (bindAll (xs.zip ds) σ) s s') NoE s:=by
 induction xs with
 | nil=>intro vs ds σ ow s F _ _ _; exact wpAny_pure ⟨ow,rfl,F,.refl,fun b h=>h,fun _ h=>h⟩
 | cons x xs ih =>
  intro vs ds σ ow s F hl hv hst
  cases hv with
  | nil=>cases hl
  | cons v1 vr =>
  obtain ⟨h1,h2⟩:=Bool.and_eq_true_iff.mp ((List.all_cons ..).symm.trans hst)
  rw [List.zip_cons_cons,List.forIn_cons]
  refine wpAny_bind (wpAny_bind (wp_to (wp_store F (canst F.ec he h1) v1) fun _ s₁ h=>wpAny_pure ?_))
  refine wp_to (ih h.F (Nat.succ.inj hl) ((vr.keep (h.m.seq F.gk (av:=ow.adr++av) F.wseq)).sub (sub_app fun _=>Ow.adr_drop)) h2) fun _ s₂ h₂=>?_
  cases h₂ with | mk ow' c F₂ m w l=>exact ⟨ow',c,F₂,h.m.trans m wr_drop_le,fun c hc=>(w c hc).drop,fun p hp=>(List.mem_filter.mp (l p hp)).1⟩
theorem ClosOk.nil {h:Heap}(hs:FnS sc xs):ClosOk sc [] [] av h:=⟨(nofun),fun x q=>(nomatch List.all_eq_true.mp hs.nofree _ (mem_lookup q)),(nofun)⟩
theorem FnO.looks {cl:List (Str×Addr)}(hf:FnO P g a sc cl xs body) (h:vs.length=xs.length) {o:Obj}{fd:FuncData}(e:g.get? a=some o) (d:o.data=.func fd):Looks (model prog w) g (bindArgs fd ⟨vs,[]⟩) (xs.zip vs):=by
 cases hf with | mk o' fd' e' d' _ _ _ _ _ _ b =>
 cases sinj e e'
 cases d.symm.trans d'
 cases b vs h with
 | pure e=>exact .of_pure e
 | look _ l=>exact l _
structure NewF (P:Value→Str→Prop) (g:Heap) (T:Tabs) (n:Nat) (a:Addr) (sc:Scope) (cl:List (Str×Addr)) (av:List Addr) (A:Around) (s:Shared) (σ:Sto) (env:Env) (ow:Ow) (s₁:Shared):Prop extends FnEnv P sc cl env where
 fn:env.func=some a
 c:ow.c=cellNames sc.names
 l:ow.l=[]
 rm:Rm n (A.deeper env)
 F:Fm g T av ow env σ s₁
 x:Ext g T s s₁
 w:∀ b,Wr env ow b→s.heap.get? b=none
noncomputable abbrev Ended (Q:Value→Shared→Prop) (r:Result) (s':Shared):Prop:=match r with | .ok (.ret v)=>Q v s' | .ok _=>False | .error e=>NoE e s'
theorem code_callX {vs':List Value}{cl:List (Str×Addr)}{σc:Sto}{Q:Value→Shared→Prop}(hf:FnO P g a sc cl xs body) (hs:FnS0 sc xs) (hb:∀ {o fd},g.get? a=some o→o.data=.func fd→Looks (model prog w) g (bindArgs fd ⟨vs,[]⟩) (xs.zip vs')) (hc:ClosOk sc cl σc av s.heap) (rm:Rm (n+1) A) (hg:GK g T s) (hav:AvOk av s.heap) (hv:VDs av s.heap vs' ds) (hl:ds.length=xs.length)
  (h:∀ (env:Env) (ow:Ow) (s₁:Shared),NewF P g T n a sc cl av A s (bindAll (xs.zip ds) σc) env ow s₁→_root_.PySem.wpAt (model prog w) (A.deeper env) (.func body env) (execs body env) (fun fl s'=>Q (match fl with | .ret v=>v | _=>.none) s') NoE s₁) :
  codeAny (model prog w) A (.call (.ref a) ⟨vs,[]⟩) (Ended Q) s:=by
 cases hf with | mk o fd ho hdat hsc hbody hclo hglob hblt hcr hbind hp hlim =>
 subst hsc
 have hvl:vs'.length=xs.length:=hv.length.trans hl
 refine codeAny_call_function (Nat.lt_of_le_of_lt (Nat.le_add_right _ _) rm.depth) (hg.keep _ _ ho) hdat hs.coro hs.gen hbody (hcr.keeps hg.keep) (hb ho hdat _ _ _ _ hg.keep ?_)
 rw [hclo,hglob,hblt]
 refine wp_newEnv fun env henv=>?_
 have N:NewEnv fd.scope.names cl s.heap env:=henv▸⟨hs.kind,rfl,rfl,rfl,rfl⟩
 have hes:env.scope=fd.scope:=henv▸rfl
 have hk:∀ x,env.kindOf x=fd.scope.names.lookup x:=fun x=>congrArg (fun z:Scope=>z.names.lookup x) hes
 have f:=Fm.fresh (b:=false) (tk:=s.toks) (σ:=σc) N hg hav hc.ce (fun x h=>h.imp (fun h=>mem_lookup (hk x▸h)) fun h=>hc.free x (hk x▸h)) fun x sl e=>(hc.cap x sl e).rec fun d c v ok k nc e i r=>⟨d,c,v,ok,.inr ((hk x).trans k),nc,e,i,r⟩
 refine wpAny_mono (wp_binds (prog:=prog) (w:=w) (A:=A.in1) hes xs (vs:=vs') (ds:=ds) f.F hvl.symm (f.x.vds hg hv) hs.st) (fun _ s₂ h₂=>?_) fun _ _ f=>f.elim
 cases h₂ with | mk ow₂ c₂ F₂ m₂ w₂ l₂ =>
 exact ⟨hlim.keeps F₂.gk.keep,ks_codeAny_funcAt (ks_wpAt_mono (h env ow₂ s₂ ⟨⟨hes,fun x=>N.out,henv▸hp⟩,henv▸rfl,c₂,List.eq_nil_iff_forall_not_mem.mpr (fun p hp=>nomatch l₂ p hp),rm.deeper,F₂,(Mv.trans f.x.mv m₂ fun b hb=>.inl hb).ext f.w,fun b hb=>f.w b (w₂ b hb)⟩) (fun _ _ q=>q) fun _ _ f=>f.elim)⟩
theorem wp_callX {cl:List (Str×Addr)}{σc:Sto}{Q:Value→Shared→Prop}(hf:FnO P g a sc cl xs body) (hs:FnS0 sc xs) (hc:ClosOk sc cl σc av s.heap) (rm:Rm (n+1) A) (hg:GK g T s) (hav:AvOk av s.heap) (hv:VDs av s.heap vs ds) (hl:ds.length=xs.length)
  (h:∀ (env:Env) (ow:Ow) (s₁:Shared),FnEnv P sc cl env→ow.c=cellNames sc.names→ow.l=[]→Rm n (A.deeper env)→Fm g T av ow env (bindAll (xs.zip ds) σc) s₁→Ext g T s s₁→(∀ b,Wr env ow b→s.heap.get? b=none) →
   wpAny (model prog w) (A.deeper env) (execs body env) (fun fl s'=>Q (match fl with | .ret v=>v | _=>.none) s') NoE s₁) :
  wpAny (model prog w) A (call (.ref a) vs) Q NoE s:=wpAny_call (code_callX hf hs (hf.looks (hv.length.trans hl)) hc rm hg hav hv hl fun env ow s₁ n=>wpAt_of_wpAny (h env ow s₁ n.toFnEnv n.c n.l n.rm n.F n.x n.w))
theorem wp_callFn (hf:FnAtP P g a sc xs body) (hs:FnS sc xs) (rm:Rm (n+1) A) (hg:GK g T s) (hav:AvOk av s.heap) (hv:VDs av s.heap vs ds) (hl:ds.length=xs.length)
  (h:∀ (env:Env) (ow:Ow) (s₁:Shared),FnEnv P sc [] env→ow.c=cellNames sc.names→Rm n (A.deeper env)→Fm g T av ow env (params xs ds) s₁→wpAny (model prog w) (A.deeper env) (execs body env) (Mtch g T av ow env s₁ (.ret d)) NoE s₁) :
  wpAny (model prog w) A (call (.ref a) vs) (Out g T av s d) NoE s:=wp_callX hf hs.toFnS0 (.nil hs) rm hg hav hv hl fun env ow s₁ E c _ rm F x hw=>wp_to (h env ow s₁ E c rm F) fun fl s₃ h₃=>by
 cases h₃ with | ret r m=>exact ⟨(Mv.trans x.mv m fun b hb=>.inr (hw b hb)).ext fun b q=>q,r⟩
theorem ClV.fnP (hx:Glb g f (.ref a)) (hf:FnAtP P g a sc xs body) (hs:FnS sc xs) (hl:ds.length=xs.length)
  (h:∀ (A:Around) (av:List Addr) (env:Env) (ow:Ow) (s₁:Shared),FnEnv P sc [] env→ow.c=cellNames sc.names→Rm n A→Fm g T av ow env (params xs ds) s₁→wpAny (model prog w) A (execs body env) (Mtch g T av ow env s₁ (.ret d)) NoE s₁):ClV prog w g T (n+1) f ds d :=
 ⟨_,hx,hf.rec fun _ _ e d _ _ _ _ _ _ _ _ _=>.fn e d,fun A s av vs rm hg hav hv=>wp_callFn hf hs rm hg hav hv hl fun env ow s₁=>h (A.deeper env) av env ow s₁⟩
theorem ClV.fn (hx:Glb g f (.ref a)) (hf:FnAt g a sc xs body) (hs:FnS sc xs) (hl:ds.length=xs.length) (h:SxL prog w g T n sc (params xs ds) body (.ret d)):ClV prog w g T (n+1) f ds d :=
 ClV.fnP hx hf hs hl fun A av env ow s₁ E c rm F=>h A s₁ av ow env E.sc_ c rm F
end
end
section
noncomputable abbrev NoT (e:Expr):Prop:=∀ (env:Env) (m:Sem Value),isTrue e env m=(do let v ← m; standAt e.pos; holding [v] (truthy v))
section
variable (prog:Program) (w:World) (g:Heap) (T:Tabs)
noncomputable def EvA (n:Nat) (sc:Scope) (σ:Sto) (op:BoolOp) (es:List Expr) (b:Bool):Prop :=
 ∀ (A:Around) (s:Shared) (av:List Addr) (env:Env),env.scope=sc→Rm n A→GK g T s→EC av env σ s.heap→wpAny (model prog w) A (allTrue op es env) (fun c s'=>c=b∧Ext g T s s') NoE s
noncomputable def EvV (n:Nat) (sc:Scope) (σ:Sto) (op:BoolOp) (es:List Expr) (b:Bool):Prop :=
 ∀ (A:Around) (s:Shared) (av:List Addr) (env:Env) (pos:Pos),env.scope=sc→Rm n A→GK g T s→EC av env σ s.heap→wpAny (model prog w) A (boolOp pos op (evalEach es env)) (Out g T av s (.bool b)) NoE s
end
section
variable {prog:Program}{w:World}{g:Heap}{T:Tabs}{n:Nat}{sc:Scope}{σ:Sto}{av:List Addr}{s s' s'':Shared}{A:Around}{e e':Expr}{es:List Expr}{pos:Pos}{a b c:Bool}{d:D}{op:BoolOp}
theorem EvT.val (h:Ev prog w g T n sc σ e d) (hp:NoT e) (ht:TruV prog w g T d b):EvT prog w g T n sc σ e b:=fun A s av env he rm hg hc =>
 wpAny_isTrue_value (wp_to (h A s av env he rm hg hc) fun v s₁ h₁=>wp_to (ht A s₁ av v h₁.2) fun c s₂ h₂=>⟨h₂.1,h₁.1.trans h₂.2⟩) (hp _ _)
theorem EvA.and_nil:EvA prog w g T n sc σ .And [] true:=fun A s av env he rm hg hc=>wpAny_allTrue_And_nil ⟨rfl,.refl⟩
theorem EvA.or_nil:EvA prog w g T n sc σ .Or [] false:=fun A s av env he rm hg hc=>wpAny_allTrue_Or_nil ⟨rfl,.refl⟩
theorem EvA.and_cons (h:EvT prog w g T n sc σ e a) (hs:a=true→EvA prog w g T n sc σ .And es b):EvA prog w g T n sc σ .And (e::es) (a&&b):=fun A s av env he rm hg hc =>
 wpAny_allTrue_And_cons (wp_to (h A s av env he rm hg hc) fun c s₁ h₁=>by
  cases h₁.1
  cases a with
  | false=>exact ⟨rfl,h₁.2⟩
  | true=>exact wp_to (hs rfl A s₁ av env he rm (h₁.2.gk hg) (hc.ext h₁.2 hg)) fun c s₂ h₂=>⟨h₂.1,h₁.2.trans h₂.2⟩)
theorem EvA.or_cons (h:EvT prog w g T n sc σ e a) (hs:a=false→EvA prog w g T n sc σ .Or es b):EvA prog w g T n sc σ .Or (e::es) (a||b):=fun A s av env he rm hg hc =>
 wpAny_allTrue_Or_cons (wp_to (h A s av env he rm hg hc) fun c s₁ h₁=>by
  cases h₁.1
  cases a with
  | true=>exact ⟨rfl,h₁.2⟩
  | false=>exact wp_to (hs rfl A s₁ av env he rm (h₁.2.gk hg) (hc.ext h₁.2 hg)) fun c s₂ h₂=>⟨h₂.1,h₁.2.trans h₂.2⟩)
theorem EvT.bool (h:EvA prog w g T n sc σ op es b):EvT prog w g T n sc σ (.BoolOp op es pos) b:=fun A s av env he rm hg hc=>wpAny_isTrue_BoolOp (h A s av env he rm hg hc)
theorem EvV.one (h:Ev prog w g T n sc σ e (.bool b)):EvV prog w g T n sc σ op [e] b:=fun A s av env pos he rm hg hc=>h A s av env he rm hg hc
theorem EvV.more (h:Ev prog w g T n sc σ e (.bool a)) (h0:(op=.And)=(a=false)→c=a) (hs:(op=.And)=(a=true)→EvV prog w g T n sc σ op (e'::es) c):EvV prog w g T n sc σ op (e::e'::es) c:=fun A s av env pos he rm hg hc =>
 (wpAny_bind (wp_to (h A s av env he rm hg hc) fun v s₁ h₁=>wpAny_bind (wpAny_standAt (wpAny_bind (wpAny_holding (by
  cases h₁.2.i3
  refine wpAny_truthy_bool ?_
  have go:=fun q=>wp_to (hs q A s₁ av env pos he rm (h₁.1.gk hg) (hc.ext h₁.1 hg)) fun v s₂ h₂=>Out.trans h₁.1 h₂
  cases op <;> cases a
  ·exact wpAny_pure ⟨h₁.1,h0 (by simp)▸.bool _⟩
  ·exact go (by simp)
  ·exact go (by simp)
  ·exact wpAny_pure ⟨h₁.1,h0 (by simp)▸.bool _⟩))))):wpAny _ A (eval e env >>= _) _ _ s)
theorem EvV.and_cons (h:Ev prog w g T n sc σ e (.bool a)) (hs:a=true→EvV prog w g T n sc σ .And (e'::es) b):EvV prog w g T n sc σ .And (e::e'::es) (a&&b):=by
 cases a with
 | false=>exact .more h (fun _=>rfl) fun q=>nomatch q.mp rfl
 | true=>exact .more h (fun q=>nomatch q.mp rfl) fun _=>hs rfl
theorem EvV.or_cons (h:Ev prog w g T n sc σ e (.bool a)) (hs:a=false→EvV prog w g T n sc σ .Or (e'::es) b):EvV prog w g T n sc σ .Or (e::e'::es) (a||b):=by
 cases a with
 | false=>exact .more h (fun q=>nomatch q.mpr rfl) fun _=>hs rfl
 | true=>exact .more h (fun _=>rfl) fun q=>nomatch q.mpr rfl
theorem Ev.bool2 (h:EvV prog w g T n sc σ op es b):Ev prog w g T n sc σ (.BoolOp op es pos) (.bool b):=fun A s av env he rm hg hc=>h A s av env pos he rm hg hc
end
end
section
section
variable {prog:Program}{w:World}{g:Heap}{T:Tabs}{n:Nat}{av:List Addr}{h:Heap}{vs:List Value}{ds:List D}{l:List Int}{f x:Str}{a b:Int}
theorem ints_are (l:List Int):∀ {vs:List Value},VDs av h vs (l.map .int)→PyProof.Rows.IntsAre vs l:=by
 induction l with
 | nil=>exact fun r=>r.i0▸.nil
 | cons i l ih =>
  intro vs r
  cases r.i1 with | mk a q =>
  obtain ⟨_,rfl⟩:=a.i4
  exact .cons _ _ (ih q)
inductive One (av:List Addr) (h:Heap) (d:D):List Value→Prop
 | mk {v:Value}(r:VD av h v d):One av h d [v]
theorem VDs.one1 {d:D}(r:VDs av h vs [d]):One av h d vs:=by
 cases r.i1 with | mk a q=>cases q.i0; exact ⟨a⟩
theorem cl_len_lst (hg:Glb g f (.builtin "len")) (hz:ds.length≤lim):ClV prog w g T n f [.lst ds] (.int ds.length):=⟨_,hg,.bi _,fun A s av vs rm hg hav hv=>by
 cases hv.one1 with | mk r =>
 cases r.i8 with | mk na eo q =>
 rw [← q.length]
 exact PyProof.Rows.len_list ⟨_,eo,rfl,_,rfl⟩ (by rw [List.size_toArray,q.length]; exact lim63 hz) (by rw [List.size_toArray]; exact out_int)⟩
theorem cl_len_str (hg:Glb g f (.builtin "len")) (hz:x.length≤lim):ClV prog w g T n f [.str x] (.int x.length):=⟨_,hg,.bi _,fun A s av vs rm hg hav hv=>by
 cases hv.one1 with | mk r =>
 obtain ⟨_,rfl⟩:=r.i5
 exact P.len_str (Int.not_le.mpr (lim63 hz)) out_int⟩
theorem cl_sum (hg:Glb g f (.builtin "sum")):ClV prog w g T n f [.lst (l.map .int)] (.int l.sum):=⟨_,hg,.bi _,fun A s av vs rm hg hav hv=>by
 cases hv.one1 with | mk r =>
 cases r.i8 with | mk na eo q =>
 have hi:=ints_are l q
 obtain ⟨xs,hx⟩:=hi.allInts.items
 refine sum_intListG rm.hand (xs:=xs) ⟨_,eo,rfl,_,congrArg (fun z=>Data.seq z _) hx⟩ fun h' tk t' hk=>?_
 have e1:l=xs.toList.map (·.1):=(show numsOf _=l from hi.numsOf).symm.trans (by rw [← nums_intItems, ← hx])
 rw [preSum_eq,List.take_of_length_le (by rw [← Array.length_toList]; simp), ← e1]
 exact ⟨.of h' tk hk,.int _ _⟩⟩
theorem cl_abs (hg:Glb g f (.builtin "abs")):ClV prog w g T n f [.int a] (.int (if a<0 then -a else a)):=⟨_,hg,.bi _,fun A s av vs rm hg hav hv=>by
 cases hv.one1 with | mk r=>obtain ⟨_,rfl⟩:=r.i4; exact call_abs_int fun u tk=>out_int⟩
theorem cl_int (hg:Glb g f (.type "int")):ClV prog w g T n f [.int a] (.int a):=⟨_,hg,.ty _,fun A s av vs rm hg hav hv=>by
 cases hv.one1 with | mk r=>obtain ⟨_,rfl⟩:=r.i4; exact call_int_int ⟨.refl,.int _ _⟩⟩
theorem cl_divmod (hg:Glb g f (.builtin "divmod")) (h0:b≠0) (hs:sm b=true):ClV prog w g T n f [.int a,.int b] (.tup [.int (a.fdiv b),.int (a.fmod b)]):=⟨_,hg,.bi _,fun A s av vs rm hg hav hv=>by
 cases hv.i1 with | mk r q =>
 cases q.one1 with | mk r' =>
 obtain ⟨_,rfl⟩:=r.i4
 obtain ⟨_,rfl⟩:=r'.i4
 exact divmod_int h0 (out_tup (n:=0) (vs:=[_,_]) hav (.cons (.int _ _) (.cons (.int _ _) .nil))) (.inl (Bool.not_eq_true _▸no_pylong hs))⟩
theorem cl_ord (hg:Glb g f (.builtin "ord")) (hz:x.length=1):ClV prog w g T n f [.str x] (.int (x.cps.getD 0 0:Nat)):=⟨_,hg,.bi _,fun A s av vs rm hg hav hv=>by
 cases hv.one1 with | mk r=>obtain ⟨_,rfl⟩:=r.i5; exact ord_of_one hz out_int⟩
end
end
section
noncomputable def sumLen (sep:Str) (l:List Str):Nat:=l.foldl (fun n p=>n+p.length+sep.length) 0
noncomputable def stripS (l r:Bool) (x y:Str):Str:=if stripSame y.cps.contains l r x then x else PySem.stripped y.cps.contains l r x
inductive StrsV (l:List Str):List Value→Prop
 | mk (p:List (Str×Tok)) (e:p.map (·.1)=l):StrsV l (strValues p)
section
variable {prog:Program}{w:World}{g:Heap}{T:Tabs}{n:Nat}{av:List Addr}{h:Heap}{s:Shared}{x y sep:Str}{l:List Int}{ls:List Str}{k a:Int}
theorem strs_vals (l:List Str):∀ {vs:List Value},VDs av h vs (l.map .str)→StrsV l vs:=by
 induction l with
 | nil=>exact fun r=>r.i0▸⟨[],rfl⟩
 | cons x l ih =>
  intro vs r
  cases r.i1 with | mk a q =>
  obtain ⟨t,rfl⟩:=a.i5
  cases ih q with | mk p e=>exact ⟨(x,t)::p,congrArg (x :: ·) e⟩
theorem join_post {p:List (Str×Tok)}(h:(Str.join sep (p.map (·.1))).length≤lim):(joinMade sep p).post (Out g T av s (.str (Str.join sep (p.map (·.1))))) s:=by
 unfold joinMade
 split
 ·exact ⟨.refl,.str _ _⟩
 ·rw [StrLaws.glued_eq_join]
  exact ⟨Nat.le_trans (Nat.le_trans h (Nat.le_add_left ..)) lim_le,out_str⟩
theorem mt_join (h1:sumLen sep ls≤lim) (h2:(Str.join sep ls).length≤lim):MtV prog w g T n "join" (.str sep) [.lst (ls.map .str)] (.str (Str.join sep ls)) :=
 ⟨_,_,F.plainAttrs_str,F.slot_str_join,F.type_str_join,fun _ _ _=>kind_str,fun A s av ov vs rm hg hav ho hv=>by
  obtain ⟨t,rfl⟩:=ho.i5
  cases hv.one1 with | mk r =>
  cases r.i8 with | mk na eo q =>
  cases strs_vals ls q with | mk p e =>
  subst e
  exact call_meets F.slot_str_join (typeIs_str _ _ _) F.entry_str_join (F.args_str_join_2 _ _) (meets_str_join_list sep t _ p (decide_eq_false (by
   rw [List.foldl_toArray]
   exact Nat.not_lt.mpr (Nat.le_trans (Nat.le_trans h1 (Nat.le_add_left ..)) lim_le)))) ⟨⟨_,eo,rfl,_,rfl⟩,join_post h2⟩⟩
theorem mt_strip (h:(stripS true true x y).length≤lim):MtV prog w g T n "strip" (.str x) [.str y] (.str (stripS true true x y)) :=
 ⟨_,_,F.plainAttrs_str,F.slot_str_strip,F.type_str_strip,fun _ _ _=>kind_str,fun A s av ov vs rm hg hav ho hv=>by
  obtain ⟨_,rfl⟩:=ho.i5
  cases hv.one1 with | mk r =>
  obtain ⟨_,rfl⟩:=r.i5
  exact call_gives F.slot_str_strip (typeIs_str _ _ _) F.entry_str_strip (F.args_str_strip_2 _ _) (gives_str_strip_chars _ _ _ _) (made_str h)⟩
theorem mt_lstrip (h:(stripS true false x y).length≤lim):MtV prog w g T n "lstrip" (.str x) [.str y] (.str (stripS true false x y)) :=
 ⟨_,_,F.plainAttrs_str,F.slot_str_lstrip,F.type_str_lstrip,fun _ _ _=>kind_str,fun A s av ov vs rm hg hav ho hv=>by
  obtain ⟨_,rfl⟩:=ho.i5
  cases hv.one1 with | mk r =>
  obtain ⟨_,rfl⟩:=r.i5
  exact call_gives F.slot_str_lstrip (typeIs_str _ _ _) F.entry_str_lstrip (F.args_str_lstrip_2 _ _) (gives_str_lstrip_chars _ _ _ _) (made_str h)⟩
theorem mt_count:MtV prog w g T n "count" (.lst (l.map .int)) [.int k] (.int (l.count k:Nat)) :=
 ⟨_,_,F.plainAttrs_list,F.slot_list_count,F.type_list_count,fun _ _ _=>kind_lst,fun A s av ov vs rm hg hav ho hv=>by
  cases hv.one1 with | mk r =>
  obtain ⟨_,rfl⟩:=r.i4
  cases ho.i8 with | mk na eo q=>exact count_list_ints ⟨_,eo,rfl,_,rfl⟩ (ints_are l q) out_int⟩
theorem mt_bits:MtV prog w g T n "bit_length" (.int a) [] (.int (Builtin.Int.intBits a)) :=
 ⟨_,_,F.plainAttrs_int,F.slot_int_bit_length,F.type_int_bit_length,fun _ _ _=>kind_int,fun A s av ov vs rm hg hav ho hv=>by
  obtain ⟨_,rfl⟩:=ho.i4
  cases hv.i0
  exact call_gives F.slot_int_bit_length (typeIs_int _ _ _) F.entry_int_bit_length (F.args_int_bit_length_1 _) (AutoIntG2.int_bit_length_int_0 _ _) out_int⟩
end
end
section
section
open Builtin
theorem dec_entry {c:UInt8}{cs:List UInt8}{t u:Tok} : «bytes.decode» ⟨[.bytes (c::cs).toArray t,.str (Str.ofString "ascii") u],[]⟩=(mkStr (Str.ofString "utf-8") >>= fun _=>mkStr (Str.ofString "ascii") >>= fun e=>mkStr (Str.ofString "bytes.decode") >>= fun d =>
  call (.builtin "_codecs.decode.text") [.bytes (c::cs).toArray t,e,.none,d] >>= fun v=>ret v):=by kernel_rfl
theorem dec_empty {t u:Tok} : «bytes.decode» ⟨[.bytes #[] t,.str (Str.ofString "ascii") u],[]⟩=(rule "bytes.decode.empty" >>= fun _=>retStr Str.empty):=by kernel_rfl
theorem dec_road {id:String}{b:Array UInt8}:_codecs.decodeRoad id b (Str.ofString "ascii") none []=(_codecs.runDecoder id _codecs.asciiDecoder none true b 0 [] >>= fun r=>mkStr ⟨r.1⟩):=by kernel_rfl
noncomputable def lows (b:Array UInt8):Bool:=b.all fun c=>decide (c.toNat<128)
theorem dec_loop {σ:Type}(b:List Nat) (f:Nat→Nat×Array Nat×σ→Sem (ForInStep (Nat×Array Nat×σ))) (hf:∀ x i out st c,b[i]?=some c→out.size=i→f x (i,out,st)=pure (.yield (i+1,out++[c].toArray,st))) :
  ∀ (l:List Nat) (i:Nat) (out:Array Nat) (st:σ),out.size=i→i+l.length=b.length→forIn l (i,out,st) f=pure (b.length,out++(b.drop i).toArray,st)
 | [],i,out,st,ho,hl=>by
  rw [List.forIn_nil]
  have:i=b.length:=by simpa using hl
  subst this
  simp
 | x::l,i,out,st,ho,hl=>by
  rw [List.length_cons] at hl
  have hlt:i<b.length:=by lia
  have hc:b[i]?=some b[i]:=List.getElem?_eq_getElem hlt
  rw [List.forIn_cons,hf x i out st b[i] hc ho]
  show forIn l (i+1,out++[b[i]].toArray,st) f=_
  rw [dec_loop b f hf l (i+1) _ st (by simp [ho]) (by lia)]
  congr 3
  rw [List.drop_eq_getElem_cons hlt]
  simp
theorem dec_run {id:String}{b:Array UInt8}(hb:lows b=true) (hz:b.size≤lim):_codecs.runDecoder id _codecs.asciiDecoder none true b 0 []=pure (b.map (·.toNat),b.size):=by
 unfold _codecs.runDecoder
 simp only [Std.Legacy.Range.forIn_eq_forIn_range']
 have hlen:(List.range' 0 [:b.size].size).length=b.size:=by simp [Std.Legacy.Range.size]
 refine (congrArg (fun z:Sem (Nat×Array Nat×_codecs.Faults)=>z >>= fun s=>pure (s.snd.fst,s.fst)) (dec_loop (b.toList.map (·.toNat)) _ (fun x i out st c hc ho=>?_) _ 0 #[] { } rfl (by rw [hlen]; simp))).trans ?_
 rotate_left
 ·show (pure (#[]++(List.drop 0 (b.toList.map (·.toNat))).toArray,(b.toList.map (·.toNat)).length):Sem (Array Nat×Nat))=_
  have e1:(#[]++(List.drop 0 (b.toList.map (·.toNat))).toArray:Array Nat)=b.map (·.toNat):=by
   apply Array.ext'; simp
  have e2:(b.toList.map (·.toNat)).length=b.size:=by simp
  rw [e1,e2]
 ·have hi:i<b.size:=by
   have:=lt_of_getElem? hc
   simpa using this
  have hc':(b.getD i 0).toNat=c:=by
   simp only [List.getElem?_map] at hc
   obtain ⟨y,hy,rfl⟩:=Option.map_eq_some_iff.mp hc
   have:b[i]?=some y:=by simpa using hy
   simp [Array.getD_eq_getD_getElem?,this]
  have hlow:c<128:=by
   rw [← hc']
   simp only [lows,Array.all_eq_true,decide_eq_true_eq] at hb
   have:=hb i hi
   simpa [Array.getD_eq_getD_getElem?,hi] using this
  have h1:¬ out.size>sizeLine:=by rw [ho]; have:=lim_le; lia
  have h2:¬ i≥b.size:=by lia
  simp only [if_neg h1,if_neg h2]
  have h3:_codecs.asciiDecoder.find true b i=.text [c] (i+1):=by
   show (if (b.getD i 0).toNat<128 then _codecs.Found.char (b.getD i 0).toNat (i+1) else _)=_
   rw [hc',if_pos hlow]; rfl
  simp only [h3]
theorem dec_text {b:Array UInt8}{t t1 t2:Tok}{d:Str}(hb:lows b=true) (hz:b.size≤lim) :
  Meets («_codecs.decode.text» ⟨[.bytes b t,.str (Str.ofString "ascii") t1,.none,.str d t2],[]⟩) (fun _ R s=>R (.ok (.ret (.str ⟨b.map (·.toNat)⟩ s.toks))) { s with toks:=s.toks+1 }):=by
 refine .of_wp fun prog w A R s h=>?_
 show wpAny _ _ (Bytes.bytesLike _ (.bytes b t) >>= fun r=>_) _ _ s
 refine wpAny_bind (wpAny_of_eq KBd.like_eq ?_)
 refine wpAny_bind (wpAny_of_eq KBd.held_eq ?_)
 show wpAny _ _ (_codecs.decodeRoad _ b (Str.ofString "ascii") none [] >>= fun v=>_) _ _ s
 rw [dec_road,dec_run hb hz]
 refine wpAny_bind (wpAny_bind (wpAny_pure ?_))
 refine wpAny_mkStr (wpAny_pure ⟨_,rfl,h⟩) ?_
 show (b.map (·.toNat)).size≤sizeLine
 rw [Array.size_map]
 have:=lim_le; lia
theorem args_decode2 (a b:Value):argsOk "bytes.decode" ⟨[a,b],[]⟩:=by unfold argsOk; kernel_rfl
end
noncomputable def textOf (b:Array UInt8):Str:=⟨b.map (·.toNat)⟩
section
variable {prog:Program}{w:World}{g:Heap}{T:Tabs}{n:Nat}
theorem mt_decode {b:Array UInt8}(hb:lows b=true) (hz:b.size≤lim):MtV prog w g T n "decode" (.bytes b) [.str (Str.ofString "ascii")] (.str (textOf b)) :=
 ⟨_,_,FB.plainAttrs_bytes,FB.slot_bytes_decode,FB.type_bytes_decode,fun _ _ _=>kind_byt,fun A s av ov vs rm hg hav ho hv=>by
  obtain ⟨t,rfl⟩:=ho.i6
  cases hv.one1 with | mk r =>
  obtain ⟨u,rfl⟩:=r.i5
  obtain ⟨l⟩:=b
  cases l with
  | nil =>
   rw [show textOf ⟨[]⟩=Str.empty from congrArg Str.mk Array.map_empty]
   exact call_meets FB.slot_bytes_decode (typeIs_bytes _ _ _) FB.entry_bytes_decode (args_decode2 _ _) (S:=fun _ R s=>R (.ok (.ret (.str Str.empty s.toks))) { s with toks:=s.toks+1 }) (.of_wp fun prog w A R s h=>by
    rw [dec_empty]
    exact wpAny_bind (wpAny_rule (wpAny_bind (m:=mkStr Str.empty) (wpAny_mkStr (wpAny_pure ⟨_,rfl,h⟩) (by decide))))) (out_str:Out g T av s (.str Str.empty) (.str Str.empty s.toks) { s with toks:=s.toks+1 })
  | cons c cs =>
   exact call_meets FB.slot_bytes_decode (typeIs_bytes _ _ _) FB.entry_bytes_decode (args_decode2 _ _) (S:=fun _ R s=>∀ t' k,R (.ok (.ret (.str (textOf (c::cs).toArray) t'))) { s with toks:=k }) (.of_wp fun prog w A R s h=>by
    rw [dec_entry]
    exact wpAny_bind (wpAny_mkStr (wpAny_bind (wpAny_mkStr (wpAny_bind (wpAny_mkStr (wpAny_bind (call_function_meets KBd.kind_text KBd.plain_text KBd.entry_text (KBd.args_text _ _ _ _) (dec_text hb hz) (wpAny_pure ⟨_,rfl,h _ _⟩))) (by decide))) (by decide))) (by decide))) fun t' k=>out_str⟩
end
end
section
theorem sm_of {i:Int}(h:i.natAbs≤2 ^ 64):sm i=true:=by
 simp only [sm,decide_eq_true_eq]
 exact Nat.lt_of_le_of_lt h (Nat.pow_lt_pow_right (by decide) (by decide))
theorem Sub.nil {σ:Sto}:Sub [] σ:=fun x sl e=>nomatch e
theorem Sub.cons {σ r:Sto}{x:Str}{sl:Sl}(h:σ.lookup x=some sl) (k:Sub r σ):Sub ((x,sl)::r) σ:=fun y sl' e=>(lookup_hit e).elim (fun q=>q.1▸q.2▸h) fun q=>k y sl' q.2
section
variable {prog:Program}{w:World}{g:Heap}{T:Tabs}{n:Nat}{sc:Scope}{σ:Sto}
theorem Ev.bytes {l:List UInt8}{k:Nat}{pos:Pos}:Ev prog w g T n sc σ (.Constant (.bytes l) k pos) (.bytes l.toArray):=fun A s av env he rm hg hc=>wpAny_mkTextBytes out_bytes
end
end
section
section
variable {prog:Program}{w:World}{g:Heap}{T:Tabs}{n m:Nat}{sc scope:Scope}{σ:Sto}{d x y:D}{e elt tg iter ce:Expr}{es:List Expr}{ds:List D}{pos p:Pos}{i:Int}{k:Nat}{f:Str}
theorem Ev.mono (h:Ev prog w g T n sc σ e d) (hm:n≤m):Ev prog w g T m sc σ e d:=fun A s av env he rm=>h A s av env he (rm.le hm)
theorem item_at (hi:i=(k:Int)) (hs:smallI i=true) (h:ds[k]?=some d):ItemV prog w g T (.lst ds) i d:=by
 subst hi
 exact it_nat (Int.ofNat_lt.mp (Int.lt_of_lt_of_le (of_decide_eq_true (Bool.and_eq_true_iff.mp hs).2) (by decide))) h
theorem item_last (h:(ds++[d]).length≤lim):ItemV prog w g T (.lst (ds++[d])) (-1) d:=by
 have e:(ds++[d]).length=ds.length+1:=List.length_append
 exact it_neg (k:=1) (Nat.le_refl 1) (e▸Nat.le_add_left 1 _) (by decide) (by rw [e]; exact List.getElem?_concat_length)
theorem cl_sumM {β:Type}{xs:List β}{h:β→Int}(hg:Glb g f (.builtin "sum")):ClV prog w g T n f [.lst (xs.map fun x=>D.int (h x))] (.int (xs.map h).sum) :=
 (List.map_map:(xs.map h).map D.int=_)▸cl_sum hg
theorem Ev.ite2 {t a b:Expr}{c:Bool}(ht:EvT prog w g T n sc σ t c) (ha:c=true→Ev prog w g T n sc σ a x) (hb:c=false→Ev prog w g T n sc σ b y):Ev prog w g T n sc σ (.IfExp t a b pos) (if c then x else y):=by
 cases c with
 | true=>exact Ev.ite ht (ha rfl)
 | false=>exact Ev.ite ht (hb rfl)
theorem SxL.retEq {sts:List Stmt}{d d':D}(h:SxL prog w g T n sc σ sts (.ret d)) (e:d=d'):SxL prog w g T n sc σ sts (.ret d'):=e▸h
theorem SxL.last {st:Stmt}{sts:List Stmt}{d:D}(h:Sx prog w g T n sc σ st (.ret d)):SxL prog w g T n sc σ (st::sts) (.ret d):=.one h nofun
theorem stAll_of {on:List Str}{b:Bd}(h:(b.all fun p=>stOk sc on p.1)=true):stAll sc on b:=fun x d hm=>List.all_eq_true.mp h _ hm
theorem fdiv_nat (a b:Nat):(a:Int).fdiv (b:Int)=((a / b:Nat):Int):=Int.fdiv_eq_ediv_of_nonneg _ (Int.natCast_nonneg b)
theorem fmod_nat (a b:Nat):(a:Int).fmod (b:Int)=((a % b:Nat):Int):=Int.fmod_eq_emod_of_nonneg _ (Int.natCast_nonneg b)
noncomputable def freshB (b:Bd) (σ:Sto):Bool:=b.all fun p=>(σ.lookup p.1).isNone
theorem fresh_of {b:Bd}(h:freshB b σ=true):∀ p∈b,σ.lookup p.1=none:=fun p hp=>Option.isNone_iff_eq_none.mp (List.all_eq_true.mp h p hp)
inductive Draw (sc:Scope) (on:List Str) (σ:Sto) (tg:Expr) (d:D) (P:Sto→Prop):Prop
 | mk (b:Bd) (t:Tg tg d b) (st:stAll sc on b) (fr:freshB b σ=true) (p:P (bindAll b σ))
structure Both (p q:Prop):Prop where
 l:p
 r:q
variable {α:Type}{on:List Str}{c:Comprehension}{cs:List Comprehension}{enc:α→D}{q:α→Bool}{xs:List α}
theorem loop_flat {f:α→List D}(h:∀ x∈xs,Draw sc on σ c.target (enc x) fun σ'=>Both (EvIfs prog w g T n sc σ' c.ifs (q x)) (q x=true→GBody prog w g T sc on elt n σ' cs (f x))) :
  GLoop prog w g T sc on elt n σ c cs (xs.map enc) (xs.flatMap fun x=>if q x then f x else []):=by
 induction xs with
 | nil=>exact loop_nil
 | cons x xs ih =>
  have ih:=ih fun y hy=>h y (.tail _ hy)
  cases h x (.head _) with | mk b t st fr z =>
  rw [List.map_cons,List.flatMap_cons]
  cases hq:q x with
  | true=>exact loop_yes t st (fresh_of fr) (hq▸z.l) (z.r hq) ih
  | false=>exact loop_no t st (fresh_of fr) (hq▸z.l) ih
variable {f:α→D}
theorem loop_each (h:∀ x∈xs,Draw sc on σ tg (enc x) fun σ'=>Ev prog w g T n sc σ' elt (f x)):GLoop prog w g T sc on elt n σ ⟨tg,iter,[],0⟩ [] (xs.map enc) (xs.map f):=by
 induction xs with
 | nil=>exact loop_nil
 | cons x xs ih=>cases h x (.head _) with | mk b t st fr z=>exact loop_yes (o:=[f x]) t st (fresh_of fr) .nil (body_emit z) (ih fun y hy=>h y (.tail _ hy))
theorem loop_some (h:∀ x∈xs,Draw sc on σ tg (enc x) fun σ'=>Both (EvT prog w g T n sc σ' ce (q x)) (q x=true→Ev prog w g T n sc σ' elt (f x))) :
  GLoop prog w g T sc on elt n σ ⟨tg,iter,[ce],0⟩ [] (xs.map enc) ((xs.filter q).map f):=by
 induction xs with
 | nil=>exact loop_nil
 | cons x xs ih =>
  have ih:=ih fun y hy=>h y (.tail _ hy)
  cases h x (.head _) with | mk b t st fr z =>
  cases hq:q x with
  | true=>rw [List.filter_cons_of_pos hq]; exact loop_yes (o:=[f x]) t st (fresh_of fr) (.yes (hq▸z.l) .nil) (body_emit (z.r hq)) ih
  | false=>rw [List.filter_cons_of_neg (by rw [hq]; exact Bool.false_ne_true)]; exact loop_no t st (fresh_of fr) (.no (hq▸z.l)) ih
section
variable (hok:compOk sc scope=true) (hcap:((cap scope σ).all fun p=>isVal p.2)=true) (hsd:NoSet iter) (hi:EvI prog w g T n sc σ tg iter (xs.map enc)) (hz:xs.length≤lim)
include hok hcap hsd hi hz
theorem EvO.each (h:∀ x∈xs,Draw (relabelS scope sc) (cellNames scope.names) (cap scope σ) tg (enc x) fun σ'=>Ev prog w g T n (relabelS scope sc) σ' elt (f x)):EvO prog w g T n sc σ (.ListComp elt [⟨tg,iter,[],0⟩] scope pos) (xs.map f) :=
 EvO.comp (c:=⟨tg,iter,[],0⟩) (fun c hc=>List.mem_singleton.mp hc▸rfl) hsd hok hcap hi (loop_each h) (List.length_map (as:=xs) f▸hz)
theorem EvO.some (h:∀ x∈xs,Draw (relabelS scope sc) (cellNames scope.names) (cap scope σ) tg (enc x) fun σ'=>Both (EvT prog w g T n (relabelS scope sc) σ' ce (q x)) (q x=true→Ev prog w g T n (relabelS scope sc) σ' elt (f x))) :
  EvO prog w g T n sc σ (.ListComp elt [⟨tg,iter,[ce],0⟩] scope pos) ((xs.filter q).map f) :=
 EvO.comp (c:=⟨tg,iter,[ce],0⟩) (fun c hc=>List.mem_singleton.mp hc▸rfl) hsd hok hcap hi (loop_some h) (List.length_map (as:=xs.filter q) f▸Nat.le_trans (List.length_filter_le _ _) hz)
end
theorem numbered_map (enc:α→D) (xs:List α):∀ i:Nat,numbered i (xs.map enc)=(xs.zipIdx i).map fun p=>D.tup [.int (p.2:Int),enc p.1]:=by
 induction xs with
 | nil=>exact fun _=>rfl
 | cons x xs ih=>exact fun i=>congrArg (_ :: ·) (ih (i+1))
theorem EvI.enumM {es':List Expr}{k':Nat}{p' p pos:Pos}{F:Str}(hx:sc.names.lookup F=some .globalImplicit) (hgl:Glb g F (.type "enumerate")) (hs:NoSt e) (he:Ev prog w g T n sc σ e (.lst (xs.map enc))) :
  EvI prog w g T n sc σ (.Tuple es' k' p') (.Call (.Name F p) [e] [] pos) (xs.zipIdx.map fun p=>D.tup [.int (p.2:Int),enc p.1]):=numbered_map enc xs 0▸EvI.enum hx hgl hs he
end
end
section
noncomputable def emptySc:Scope:={ kind:=.function,names:=[],isGenerator:=false,isCoroutine:=false,more:=[] }
structure StP where
 name:Str
 test:Expr
 iter:Expr
 body:List Stmt
 orelse:List Stmt
 scope:Scope
 args:Arguments
noncomputable def noE:Expr:=.Constant .none 0 ⟨0,0,0,0⟩
noncomputable def noA:Arguments:={ posonlyargs:=[],args:=[],vararg:=none,kwonlyargs:=[],kw_defaults:=[],kwarg:=none,defaults:=[] }
noncomputable def stP:Stmt→StP
 | .FunctionDef n a b _ _ _ sc .. => ⟨n,noE,noE,b,[],sc,a⟩
 | .While t b .. => ⟨Str.empty,t,noE,b,[],emptySc,noA⟩
 | .For t i b o .. => ⟨Str.empty,t,i,b,o,emptySc,noA⟩
 | .If t b o .. => ⟨Str.empty,t,noE,b,o,emptySc,noA⟩
 | .Assign _ v .. => ⟨Str.empty,v,noE,[],[],emptySc,noA⟩
 | .Return (some v) .. => ⟨Str.empty,v,noE,[],[],emptySc,noA⟩
 | .Expr v .. => ⟨Str.empty,v,noE,[],[],emptySc,noA⟩
 | .ClassDef n _ _ b .. => ⟨n,noE,noE,b,[],emptySc,noA⟩
 | _=>⟨Str.empty,noE,noE,[],[],emptySc,noA⟩
noncomputable abbrev prog1:Program:=PySem.Challenge.pw_wz0031_01
noncomputable def fn1 (x:String):Stmt:=(prog1.main.body.find? fun st=>(stP st).name==Str.ofString x).getD (.Pass ⟨0,0,0,0⟩)
noncomputable def bodyOf (st:Stmt):List Stmt:=(stP st).body
noncomputable def scopeOf (st:Stmt):Scope:=(stP st).scope
noncomputable def argsOf (st:Stmt):Arguments:=(stP st).args
noncomputable def whTest (st:Stmt):Expr:=(stP st).test
noncomputable def whBody (st:Stmt):List Stmt:=(stP st).body
noncomputable def forTg (st:Stmt):Expr:=(stP st).test
noncomputable def nth (l:List Stmt) (k:Nat):Stmt:=l.getD k (.Pass ⟨0,0,0,0⟩)
noncomputable def letter (k:Nat):UInt8:=(65+k).toUInt8
noncomputable def apL:Nat→Nat→List UInt8→List UInt8
 | 0,_,acc=>acc
 | f+1,n,acc=>if n=0 then acc else apL f (n / 16) (letter (n % 16)::acc)
noncomputable def apBytes:Array UInt8:=[65,66,67,68,69,70,71,72,73,74,75,76,77,78,79,80].toArray
theorem ap_picked (m:Nat) (hm:m<16):KBy.picked apBytes (some (m:Int)) (some ((m:Int)+1))=[letter m].toArray:=by
 have:∀ m:Fin 16,KBy.picked apBytes (some ((m:Nat):Int)) (some (((m:Nat):Int)+1))=[letter m].toArray:=by decide +kernel
 exact this ⟨m,hm⟩
section
variable {prog:Program}{w:World}{g:Heap}{T:Tabs}{n:Nat}
noncomputable def σ2ap (k:Nat) (acc:List UInt8):Sto:=[(Str.ofString "num",.val (.int k)),(Str.ofString "val",.val (.bytes acc.toArray)),(Str.ofString "AP",.val (.bytes apBytes))]
theorem wh_int2ap (k1:Glb g (Str.ofString "divmod") (.builtin "divmod")) (f:Nat):∀ (k:Nat) (acc:List UInt8),k<16 ^ f→acc.length+f≤1000 →
  WhR prog w g T n (scopeOf (fn1 "Int2AP")) (whTest (nth (bodyOf (fn1 "Int2AP")) 3)) (whBody (nth (bodyOf (fn1 "Int2AP")) 3)) f (σ2ap k acc) (.next (σ2ap 0 (apL f k acc))):=by
 induction f with
 | zero =>
  intro k acc hk ha
  cases Nat.lt_one_iff.mp hk
  exact WhR.stop (EvT.val (Ev.name rfl) (fun _ _=>rfl) tru_int)
 | succ f ih =>
  intro k acc hk ha
  by_cases h0:k=0
  ·subst h0
   exact WhR.stop (EvT.val (Ev.name rfl) (fun _ _=>rfl) tru_int)
  ·rw [show apL (f+1) k acc=apL f (k / 16) (letter (k % 16)::acc) from if_neg h0]
   have hp:KBy.picked apBytes (some ((k:Int).fmod 16)) (some ((k:Int).fmod 16+1))=[letter (k % 16)].toArray:=(fmod_nat k 16).symm▸ap_picked _ (Nat.mod_lt _ (by decide))
   have hl:(KBy.picked apBytes (some ((k:Int).fmod 16)) (some ((k:Int).fmod 16+1))).size≤lim:=hp▸(by decide:(1:Nat)≤lim)
   have ht:EvT prog w g T n (scopeOf (fn1 "Int2AP")) (froz (σ2ap k acc)) (whTest (nth (bodyOf (fn1 "Int2AP")) 3)) ((k:Int) != 0):=EvT.val (Ev.name rfl) (fun _ _=>rfl) tru_int
   rw [bne_iff_ne.mpr (show (k:Int)≠0 by omega)] at ht
   refine WhR.step ht (SxL.cons (Sx.assignTup (b:=[(Str.ofString "num",.int ((k:Int).fdiv 16)),(Str.ofString "mod",.int ((k:Int).fmod 16))]) (Ev.call rfl (EvL.more (fun _=>rfl) (Ev.name rfl) (EvL.more (fun _=>rfl) Ev.int EvL.nil)) (cl_divmod k1 (by decide) rfl)) (fun _ _ _=>rfl) (fun _=>rfl) (.cons (.cons .nil)) (stAll_of rfl)) (SxL.cons (Sx.assign (Ev.bin (Ev.slice (Ev.name rfl) (EvP.some' (Ev.name rfl)) (EvP.some' (Ev.bin (Ev.name rfl) Ev.int bin_add)) EvP.none' (slice_bytes hl)) (Ev.name rfl) (bin_bytes hl (Nat.le_trans (show acc.toArray.size≤1000 by rw [List.size_toArray]; omega) (by decide)))) (fun _ _ _=>rfl) rfl) SxL.nil)) ?_
   ·refine WhR.weak ?_ (ih (k / 16) (letter (k % 16)::acc) (by rw [Nat.pow_succ] at hk; omega) (by rw [List.length_cons]; omega))
    rw [hp,List.append_toArray,show ((k:Int).fdiv 16)=((k / 16:Nat):Int) from fdiv_nat k 16]
    exact Sub.cons rfl (Sub.cons rfl (Sub.cons rfl Sub.nil))
noncomputable def apB (k:Nat):Array UInt8:=(apL 200 k []).toArray
theorem fns_int2ap:FnS (scopeOf (fn1 "Int2AP")) [Str.ofString "num"]:=⟨⟨rfl,rfl,rfl,by decide +kernel⟩,by decide +kernel⟩
theorem cl_int2ap {a:Addr}{i:Int}(k1:Glb g (Str.ofString "divmod") (.builtin "divmod")) (k2:Glb g (Str.ofString "int") (.type "int")) (k3:Glb g (Str.ofString "abs") (.builtin "abs"))
  (hf:FnAt g a (scopeOf (fn1 "Int2AP")) [Str.ofString "num"] (bodyOf (fn1 "Int2AP"))) (hg:Glb g (Str.ofString "Int2AP") (.ref a)) (hi:i.natAbs<16 ^ 200):ClV prog w g T (n+1) (Str.ofString "Int2AP") [.int i] (.bytes (apB i.natAbs)):=by
 refine .fn hg hf fns_int2ap rfl ?_
 refine SxL.cons (Sx.assign Ev.bytes (fun _ _ _=>rfl) rfl) (SxL.cons (Sx.assign Ev.bytes (fun _ _ _=>rfl) rfl) (SxL.cons (Sx.assign (Ev.call rfl (EvL.more (fun _=>rfl) (Ev.call rfl (EvL.more (fun _=>rfl) (Ev.name rfl) EvL.nil) (cl_abs k3)) EvL.nil) (cl_int k2)) (fun _ _ _=>rfl) rfl) (SxL.cons (Sx.while (k:=200) (WhR.weak ?_ (wh_int2ap k1 200 i.natAbs [] hi (by decide)))) (SxL.last (Sx.ret (Ev.name rfl))))))
 rw [show (if i<0 then -i else i)=((i.natAbs:Nat):Int) by split <;> omega]
 exact Sub.cons rfl (Sub.cons rfl (Sub.cons rfl Sub.nil))
end
end
section
noncomputable def pick {α:Type}(xs:List α) (lo hi st:Option Int):List α:=(pickIdx xs.length lo hi st).filterMap (xs[·]?)
theorem pickL_map {α:Type}(enc:α→D) (xs:List α) (lo hi st:Option Int):pickL (xs.map enc) lo hi st=(pick xs lo hi st).map enc:=by
 unfold pickL pick
 rw [List.length_map,List.map_filterMap]
 exact congrArg (List.filterMap · _) (funext fun k=>List.getElem?_map)
theorem div_le_self' (d k:Int) (hd:1≤d) (hk:1≤k):(d+k - 1) / k≤d:=Int.ediv_le_of_le_mul hk (by
 have h:0≤(d - 1)*(k - 1):=Int.mul_nonneg (Int.sub_nonneg.mpr hd) (Int.sub_nonneg.mpr hk)
 rw [Int.sub_mul,Int.mul_sub,Int.mul_one,Int.one_mul] at h; omega)
theorem pick_length {α:Type}(xs:List α) {lo hi st:Option Int}(hk:st.getD 1>0):(pick xs lo hi st).length≤xs.length:=by
 refine Nat.le_trans (List.length_filterMap_le _ _) ?_
 have h1:0≤(sliceBounds lo hi st xs.length).1:=by
  cases lo with
  | none=>exact Int.le_of_eq (if_pos hk).symm
  | some i=>exact Int.le_trans (Int.le_max_left ..) (Int.le_of_eq (if_pos hk).symm)
 have h2:(sliceBounds lo hi st xs.length).2.1≤xs.length:=by
  cases hi with
  | none=>exact Int.le_of_eq (if_pos hk)
  | some i=>exact Int.le_trans (Int.le_of_eq (if_pos hk)) (Int.max_le.mpr ⟨Int.natCast_nonneg _,Int.min_le_right ..⟩)
 rw [pickIdx,sliceRange,List.length_map,List.length_range,if_pos (show (sliceBounds lo hi st xs.length).2.2>0 from hk)]
 refine Int.toNat_le.mpr ?_
 split
 ·rename_i h
  exact Int.le_trans (div_le_self' _ _ (Int.sub_pos_of_lt h) hk) (Int.le_trans (Int.sub_le_self _ h1) h2)
 ·exact Int.natCast_nonneg _
section
variable {prog:Program}{w:World}{g:Heap}{T:Tabs}{n:Nat}
theorem slice_map {α:Type}{enc:α→D}{xs:List α}{lo hi st:Option Int}(hs:(st==some 0)=false) (h:xs.length≤lim):SliV prog w g T (.lst (xs.map enc)) lo hi st (.lst ((pick xs lo hi st).map enc)) :=
 pickL_map enc xs lo hi st▸slice_lst hs (by rwa [List.length_map])
noncomputable def cellsP (script cells:List Int):List Int :=
 cells.zipIdx.map fun p=>p.1+((pick script (some (p.2:Int)) (some 60) (some (cells.length:Int))).map fun x=>x.fmod 1000003).sum
theorem fns_cells:FnS (scopeOf (fn1 "_law_cells")) [Str.ofString "script",Str.ofString "cells"]:=⟨⟨rfl,rfl,rfl,by decide +kernel⟩,by decide +kernel⟩
theorem cl_cells {a:Addr}{script cells:List Int}(k1:Glb g (Str.ofString "len") (.builtin "len")) (k2:Glb g (Str.ofString "sum") (.builtin "sum")) (k3:Glb g (Str.ofString "enumerate") (.type "enumerate"))
  (hf:FnAt g a (scopeOf (fn1 "_law_cells")) [Str.ofString "script",Str.ofString "cells"] (bodyOf (fn1 "_law_cells"))) (hg:Glb g (Str.ofString "_law_cells") (.ref a)) (hs:script.length≤1000) (hc:cells.length≤1000) (h0:cells.length≠0) :
  ClV prog w g T (n+1) (Str.ofString "_law_cells") [.lst (script.map .int),.lst (cells.map .int)] (.lst ((cellsP script cells).map .int)):=by
 refine .fn hg hf fns_cells rfl ?_
 have hlim:1000≤lim:=by decide
 have hl:cells.length≤lim:=Nat.le_trans hc hlim
 have hm:(cells.map D.int).length=cells.length:=List.length_map ..
 have h0:((cells.map D.int).length:Int)>0:=by omega
 unfold cellsP
 rw [List.map_map, ← hm]
 refine SxL.cons (Sx.assign (Ev.call rfl (EvL.more (fun _=>rfl) (Ev.name rfl) EvL.nil) (cl_len_lst k1 (hm.symm▸hl))) (fun _ _ _=>rfl) rfl) (SxL.last (Sx.ret (EvO.ev (EvO.each (xs:=cells.zipIdx) rfl rfl (fun _ _=>rfl) (EvI.enumM rfl k3 (fun _ _=>rfl) (Ev.name rfl)) (List.length_zipIdx.symm▸hl) fun p hp=>⟨[(Str.ofString "place",.int (p.2:Int)),(Str.ofString "cell",.int p.1)],.tup (.cons (.cons .nil)),stAll_of rfl,rfl,Ev.bin (Ev.name rfl) (Ev.call rfl (EvL.more (fun _=>rfl) (EvO.ev (EvO.each rfl rfl (fun _ _=>rfl) (EvI.list (Ev.slice (Ev.name rfl) (EvP.some' (Ev.name rfl)) (EvP.some' Ev.int) (EvP.some' (Ev.name rfl)) (slice_map (beq_eq_false_iff_ne.mpr fun q=>Int.ne_of_gt h0 (Option.some.inj q)) (Nat.le_trans hs hlim)))) (Nat.le_trans (pick_length _ h0) (Nat.le_trans hs hlim)) fun x _=>⟨_,.name,stAll_of rfl,rfl,Ev.bin (Ev.name rfl) Ev.int (bin_mod (by decide))⟩)) EvL.nil) (cl_sumM k2)) bin_add⟩))))
end
end
section
theorem letter_low (m:Nat) (h:m<16):(letter m).toNat<128:=(by decide:∀ m:Fin 16,(letter m).toNat<128) ⟨m,h⟩
theorem apL_lows (f:Nat):∀ (n:Nat) (acc:List UInt8),(∀ c∈acc,c.toNat<128)→∀ c∈apL f n acc,c.toNat<128:=by
 induction f with
 | zero=>exact fun n acc h=>h
 | succ f ih =>
  intro n acc h
  rw [apL]
  split
  ·exact h
  ·exact ih _ _ fun c hc=>(List.mem_cons.mp hc).elim (fun q=>q▸letter_low _ (Nat.mod_lt _ (by decide))) (h c)
theorem apL_length (f:Nat):∀ (n:Nat) (acc:List UInt8),(apL f n acc).length≤f+acc.length:=by
 induction f with
 | zero=>exact fun n acc=>Nat.le_add_left ..
 | succ f ih =>
  intro n acc
  rw [apL]
  split
  ·exact Nat.le_add_left ..
  ·exact Nat.le_trans (ih _ _) (Nat.le_of_eq (Nat.succ_add_eq_add_succ f acc.length).symm)
theorem apB_lows (k:Nat):lows (apB k)=true:=List.all_toArray.trans (List.all_eq_true.mpr fun c hc=>decide_eq_true (apL_lows 200 k [] nofun c hc))
theorem apB_size (k:Nat):(apB k).size≤200:=apL_length 200 k []
noncomputable def apS (k:Nat):Str:=textOf (apB k)
noncomputable def low (size:Int):Int:=16 ^ (size - 2).toNat
noncomputable def wvalue (size seed:Int):Int:=low size+(seed.fdiv 2).fmod (15*low size)
noncomputable def wordP (size seed:Int):D:=if size=1 then .tup [.str (apS 0),.int 0] else .tup [.str (apS (wvalue size seed).natAbs),.int (wvalue size seed)]
theorem fns_word:FnS (scopeOf (fn1 "_law_word")) [Str.ofString "size",Str.ofString "seed"]:=⟨⟨rfl,rfl,rfl,by decide +kernel⟩,by decide +kernel⟩
theorem low_bd (size:Int) (h:size≤9):1≤low size∧low size≤16 ^ 7 :=
 (by decide +kernel:∀ k:Fin 8,(1:Int)≤16 ^ (k:Nat)∧(16:Int) ^ (k:Nat)≤16 ^ 7) ⟨(size - 2).toNat,by lia⟩
theorem wvalue_bd (size seed:Int) (h:size≤9):0≤wvalue size seed∧wvalue size seed≤16 ^ 8:=by
 have hl:=low_bd size h
 unfold wvalue
 have h15:(0:Int)<15*low size:=by lia
 have a1:=Int.fmod_nonneg_of_pos (seed.fdiv 2) h15
 have a2:=Int.fmod_lt_of_pos (seed.fdiv 2) h15
 exact ⟨by lia,by lia⟩
section
variable {prog:Program}{w:World}{g:Heap}{T:Tabs}{n:Nat}
theorem cl_word {a:Addr}{size seed:Int}(k1:∀ i:Int,i.natAbs<16 ^ 200→ClV prog w g T (n+1) (Str.ofString "Int2AP") [.int i] (.bytes (apB i.natAbs)))
  (hf:FnAt g a (scopeOf (fn1 "_law_word")) [Str.ofString "size",Str.ofString "seed"] (bodyOf (fn1 "_law_word"))) (hg:Glb g (Str.ofString "_law_word") (.ref a)) (h0:1≤size) (h9:size≤9):ClV prog w g T (n+2) (Str.ofString "_law_word") [.int size,.int seed] (wordP size seed):=by
 refine .fn hg hf fns_word rfl ?_
 have hz:∀ k,(apB k).size≤lim:=fun k=>Nat.le_trans (apB_size k) (by decide)
 by_cases h1:size=1
 ·subst h1
  rw [wordP,if_pos rfl]
  exact SxL.last (Sx.ite (b:=true) (EvT.cmp (Ev.name rfl) Ev.int rfl cmp_eq) (SxL.last (Sx.ret (Ev.tup (EvL.more (fun _=>rfl) (Ev.methG (fun _=>rfl) rfl (by decide) (Ev.call rfl (EvL.more (fun _=>rfl) Ev.int EvL.nil) (k1 0 (by decide))) (EvL.more (fun _=>rfl) Ev.str EvL.nil) (mt_decode (apB_lows _) (hz _))) (EvL.more (fun _=>rfl) Ev.int EvL.nil)) (show (2:Nat)≤lim by decide)))))
 ·have hb:(size==1)=false:=beq_eq_false_iff_ne.mpr h1
  have hlow:=low_bd size h9
  have hv:=wvalue_bd size seed h9
  have e2:(if (seed.fmod 2 != 0)=true then wvalue size seed else - wvalue size seed).natAbs=(wvalue size seed).natAbs:=by split <;> lia
  have k:=k1 (if (seed.fmod 2 != 0)=true then wvalue size seed else - wvalue size seed) (e2▸Nat.lt_of_le_of_lt (show _≤16 ^ 8 by lia) (Nat.pow_lt_pow_right (by decide) (by decide)))
  rw [e2,show D.int (if (seed.fmod 2 != 0)=true then wvalue size seed else - wvalue size seed)=(if (seed.fmod 2 != 0)=true then D.int (wvalue size seed) else D.int (-wvalue size seed)) by split <;> rfl] at k
  rw [wordP,if_neg h1]
  refine SxL.cons (Sx.ite (b:=false) (hb▸EvT.cmp (Ev.name rfl) Ev.int rfl cmp_eq) SxL.nil) (SxL.cons (Sx.assign (Ev.bin Ev.int (Ev.bin (Ev.name rfl) Ev.int bin_sub) (bin_pow ?_ ?_ rfl)) (fun _ _ _=>rfl) rfl) (SxL.cons (Sx.assign (Ev.bin (Ev.name rfl) (Ev.bin (Ev.bin (Ev.name rfl) Ev.int (bin_div (by decide) rfl)) (Ev.bin Ev.int (Ev.name rfl) (bin_mul rfl (sm_of ?_))) (bin_mod ?_)) bin_add) (fun _ _ _=>rfl) rfl)
   (SxL.last (Sx.ret (Ev.tup (EvL.more (fun _=>rfl) (Ev.methG (fun _=>rfl) rfl (by decide) (Ev.call rfl (EvL.more (fun _=>rfl) (Ev.ite2 (EvT.val (Ev.bin (Ev.name rfl) Ev.int (bin_mod (by decide))) (fun _ _=>rfl) tru_int) (fun _=>Ev.name rfl) fun _=>Ev.neg (Ev.name rfl)) EvL.nil) k) (EvL.more (fun _=>rfl) Ev.str EvL.nil) (mt_decode (apB_lows _) (hz _))) (EvL.more (fun _=>rfl) (Ev.name rfl) EvL.nil)) (show (2:Nat)≤lim by decide))))))
  ·lia
  ·lia
  ·unfold low at hlow; lia
  ·unfold low at hlow; lia
end
end
section
theorem among_snoc {pos:Pos}{a b:Int}{c cv:Value}{ta tb:Tok}{l:List Value}:TriplesOk l→codeAmong pos (l++[.int a ta,.int b tb,c])=some cv→codeAmong pos l=some cv∨cv=c:=by
 fun_induction TriplesOk l with
 | case1 =>
  intro _ h
  by_cases q:(a==pos.line&&b==pos.col)=true
  ·exact .inr (Option.some.inj ((if_pos q).symm.trans h)).symm
  ·exact nomatch (if_neg q).symm.trans h
 | case2 a' t b' u x rest ih =>
  intro ht h
  by_cases q:(a'==pos.line&&b'==pos.col)=true
  ·exact .inl ((if_pos q).trans ((if_pos q).symm.trans h))
  ·exact (ih ht ((if_neg q).symm.trans h)).imp (if_neg q).trans id
 | case3 l h1 h2=>intro h; exact h.elim
theorem tab_no_code {ps vs:Array Value}{q:Str}{t:Tok}(htr:TriplesOk ps.toList) (e3:(tabObj ps).data=.fields vs) (e4:vs[1]?=some (.str q t)):False:=by
 cases e3
 rw [← Array.getElem?_toList] at e4
 revert htr e4
 fun_induction TriplesOk ps.toList with
 | case1=>exact fun _=>nofun
 | case2=>exact fun _=>nofun
 | case3 l h1 h2=>exact fun f=>f.elim
theorem code_at {h h':Heap}{cv:Value}{q:Str}(x:h.CodeRec cv q) (k:∀ c o vs t,h.get? c=some o→o.data=.fields vs→vs[1]?=some (.str q t)→h'.get? c=some o):h'.CodeRec cv q:=by
 obtain ⟨c,oc,vs,t,e1,e2,e3,e4⟩:=x
 exact ⟨c,oc,vs,t,e1,k c oc vs t e2 e3 e4,e3,e4⟩
inductive MakerOk (g:Heap) (T:Tabs) (cv:Value) (q:Str):Prop
 | mk (mg:Str→Option Value) (c P:Addr) (code:cv=.ref c) (ns:g.Ns mainGlobals mg) (hd:CodeHd g c P) (b:g.BuiltinsAt mg P) (m:(P,q)∈T) (one:∀ P q q',(P,q)∈T→(P,q')∈T→q=q')
section
variable {prog:Program}{w:World}{g:Heap}{T:Tabs}{n:Nat}{sc scope:Scope}{σ σ' σ₁:Sto}{s s' s'':Shared}{av:List Addr}{ow ow':Ow}{env:Env}{A:Around}{R:Rz}{f:Addr}{cl:List (Str×Addr)}{xs:List Str}{body:List Stmt}{name q:Str}{ps:Arguments}{pos:Pos}
theorem TabOk.off {h h':Heap}{P:Addr}{tab:Array Value}{b:Addr}(x:TabOk h b q) (hP:h.get? P=some (tabObj tab)) (htr:TriplesOk tab.toList) (hb:b≠P) (k:∀ b o,b≠P→h.get? b=some o→h'.get? b=some o):TabOk h' b q:=by
 obtain ⟨ps',e,t,cs⟩:=x
 exact ⟨ps',k _ _ hb e,t,fun pos cv hc=>code_at (cs pos cv hc) fun c o vs t e2 e3 e4=>k c o (fun z=>tab_no_code htr (sinj (z▸e2) hP▸e3) e4) e2⟩
theorem ext_table {P c':Addr}{tab:Array Value}{h':Heap}{o:Obj}{tk:Nat}{line col:Int}{t1 t2:Tok}(hone:∀ P q q',(P,q)∈T→(P,q')∈T→q=q') (hm:(P,q)∈T) (hP:s.heap.get? P=some (tabObj tab)) (htr:TriplesOk tab.toList)
  (hcs:∀ pos cv,codeAmong pos tab.toList=some cv→s.heap.CodeRec cv q) (hx:Heap.ExtBut P s.heap h') (hrec:h'.CodeRec (.ref c') q) (htb:h'.get? P=some (tabObj (tab ++ #[Value.int line t1,Value.int col t2,Value.ref c']))) (htr':TriplesOk (tab ++ #[Value.int line t1,Value.int col t2,Value.ref c']).toList) :
  Ext g T s { s with heap:=h'.push o,toks:=tk }:=by
 have k:∀ b ob,b≠P→s.heap.get? b=some ob→(h'.push o).get? b=some ob:=fun b ob n e=>Heap.get?_push_of_some _ (hx b ob n e)
 refine ⟨rfl,rfl,fun b ob e hoff=>k b ob (fun q=>hoff _ hm q.symm) e,fun Q=>⟨fun b ob e=>k b ob (fun z=>nos (Q.off _ hm) (z▸e)) (Q.keep b ob e),fun p hp=>?_,Q.off,Q.bare⟩⟩
 by_cases hpP:p.1=P
 ·have e:p.2=q:=hone P _ _ (hpP▸hp) hm
  rw [hpP,e]
  refine ⟨_,Heap.get?_push_of_some _ htb,htr',fun pos cv hc=>?_⟩
  rw [Array.toList_append] at hc
  rcases among_snoc htr hc with h1 | rfl
  ·exact code_at (hcs pos cv h1) fun c o vs t e2 e3 e4=>k c o (fun z=>tab_no_code htr (sinj (z▸e2) hP▸e3) e4) e2
  ·exact hrec.push o
 ·exact (Q.tabs p hp).off hP htr hpP k
noncomputable abbrev Binds (ps:Arguments) (xs:List Str):Prop:=∀ (fd:FuncData) (vals:List Value),fd.params=ps→fd.defaults=.none→fd.kwdefaults=.none→vals.length=xs.length→bindArgs fd ⟨vals,[]⟩=pure (xs.zip vals)
noncomputable abbrev CloO:=FnO fun _ _=>True
inductive MadeF (g:Heap) (T:Tabs) (sc:Scope) (cl:List (Str×Addr)) (xs:List Str) (body:List Stmt) (s:Shared):Value→Shared→Prop
 | mk {f:Addr}{s':Shared}(x:Ext g T s s') (n:s.heap.get? f=none) (o:CloO s'.heap f sc cl xs body):MadeF g T sc cl xs body s (.ref f) s'
theorem lim_ext (x:Ext g T s s') (hg:GK g T s) (h:s.heap.NoLimit):s'.heap.NoLimit:=h.imp fun _ p=>⟨x.ns hg p.1,p.2⟩
theorem wp_make {fl:Nat}(hb:Binds ps xs) (hlim:g.NoLimit) (hg:GK g T s) (mk:MakerOk g T env.code q) (hge:env.globals=mainGlobals) (hcl:closureFor scope env=pure cl) :
  wpAny (model prog w) A (makeFunction name q ps (.stmts body) scope env [] [] [] pos fl) (MadeF g T scope cl xs body s) NoE s:=by
 cases mk with | mk mg c P hcode hns hcd hbi hm hone =>
 obtain ⟨tab,hP,htr,hcs⟩:=hg.tabs (P,q) hm
 have hbi:s.heap.BuiltinsAt mg P:=by
  obtain ⟨bm,o,b1,b2,b3,b4,b5,r⟩:=hbi
  exact ⟨bm,o,b1,b2,b3,b4,hg.keep _ _ b5,r⟩
 have hlim:=hlim.keeps hg.keep
 cases hf:codeAmong pos tab.toList with
 | none =>
  refine makeFunction_K hcl hge (hns.keeps hg.keep) hcode (hcd.keeps hg.keep) hP htr hf (fun z=>hns.elim fun o n=>n.elim fun _ n=>n.elim fun _ n=>nos (hg.off (P,q) hm) (z▸n.1)) hbi fun c' ctv doc h' tk hx hge' hlt hrec htb=>?_
  have x:=ext_table (g:=g) (tk:=tk) (o:=fnMade name q ps body scope cl doc ((mg "__name__").getD .none) c' ctv) hone hm hP htr hcs hx hrec htb (by rw [Array.toList_append]; exact TriplesOk_snoc _ _ _ _ htr)
  exact ⟨x,not_new (Nat.le_of_lt (Nat.lt_of_le_of_lt hge' hlt)),_,_,Heap.get?_push_size _ rfl,rfl,rfl,rfl,rfl,rfl,rfl,hrec.push _,fun vals h=>.pure (hb _ vals rfl rfl rfl h),trivial,lim_ext x hg hlim⟩
 | some cv =>
  refine makeFunction_hit hcl hge (hns.keeps hg.keep) hcode (hcd.keeps hg.keep) hP htr hf hbi fun ctv doc h' tk hk hsz=>?_
  exact ⟨.of _ _ fun b o e=>Heap.get?_push_of_some _ (hk b o e),not_new hsz,_,_,Heap.get?_push_size _ rfl,rfl,rfl,rfl,rfl,rfl,rfl,((hcs pos cv hf).keeps hk).push _,fun vals h=>.pure (hb _ vals rfl rfl rfl h),trivial,hlim.keeps fun b o e=>Heap.get?_push_of_some _ (hk b o e)⟩
end
end
section
inductive DefR (g:Heap) (T:Tabs) (av:List Addr) (ow:Ow) (env:Env) (σ:Sto) (name:Str) (sc:Scope) (xs:List Str) (body:List Stmt) (s:Shared):Flow→Shared→Prop
 | mk {f:Addr}{cl:List (Str×Addr)}{s':Shared}(n:s.heap.get? f=none) (o:CloO s'.heap f sc cl xs body) (F:Fm g T av (ow.drop name) env ((name,.val (.adr f))::σ) s') (m:Mv g T (Wr env ow) s s') (c:ClAt env sc.names cl):DefR g T av ow env σ name sc xs body s .next s'
noncomputable def coreH (T:Tabs) (h:Heap):Heap:={ h with objs:=h.objs.mapIdx fun i o=>if T.any (fun p=>p.1==i) then { o with data:=.freed } else o }
section
variable {prog:Program}{w:World}{g g':Heap}{T:Tabs}{n:Nat}{sc scope:Scope}{σ σ' σc:Sto}{s s' s₁:Shared}{av:List Addr}{ow ow':Ow}{env:Env}{A:Around}{f b:Addr}{cl:List (Str×Addr)}{xs:List Str}{body:List Stmt}{name q x:Str}{ps:Arguments}{pos p:Pos}{h h':Heap}{o:Obj}{P:Value→Str→Prop}{e:Expr}{es:List Expr}{ds:List D}{d:D}
theorem core_off (hb:Off T b):(coreH T h).get? b=h.get? b:=by
 have e:T.any (fun p=>p.1==b)=false:=List.any_eq_false.mpr fun p hp q=>hb p hp (eq_of_beq q)
 unfold Heap.get? coreH
 rw [Array.getElem?_mapIdx]
 cases h.objs[b]? with
 | none=>rfl
 | some o=>rw [Option.map_some,e]; rfl
theorem core_tab {p:Addr×Str}(hp:p∈T):(coreH T h).get? p.1=none:=by
 have e:T.any (fun q=>q.1==p.1)=true:=List.any_eq_true.mpr ⟨p,hp,beq_self_eq_true _⟩
 unfold Heap.get? coreH
 rw [Array.getElem?_mapIdx]
 cases h.objs[p.1]? with
 | none=>rfl
 | some o=>rw [Option.map_some,e]; rfl
theorem core_some (e:(coreH T h).get? b=some o):Off T b∧h.get? b=some o:=by
 have hb:Off T b:=fun p hp q=>nos (core_tab (h:=h) hp) (q▸e)
 exact ⟨hb,core_off hb▸e⟩
theorem GK.core (q:GK g T s) (x:Ext g T s s₁):GK (coreH T s.heap) T s₁:=⟨fun b o e=>x.keep b o (core_some e).2 (core_some e).1,(x.gk q).tabs,fun p=>core_tab,(x.gk q).bare⟩
theorem Ext.base (x:Ext g' T s s') (q':GK g' T s):Ext g T s s':=⟨x.dr,x.os,x.keep,fun q=>⟨fun b o e=>x.keep b o (q.keep b o e) fun p hp z=>nos (q.off p hp) (z▸e),(x.gk q').tabs,q.off,(x.gk q').bare⟩⟩
theorem GK.core_get (q:GK g T s) (e:s.heap.get? b=some o) (nt:NT o):(coreH T s.heap).get? b=some o:=(core_off (q.away e nt)).trans e
theorem GK.code_off (q:GK g T s) {vs:Array Value}{t:Str}{u:Tok}(e:s.heap.get? b=some o) (e3:o.data=.fields vs) (e4:vs[1]?=some (.str t u)):Off T b:=fun p hp z=>by
 obtain ⟨tab,e',htr,_⟩:=q.tabs p hp
 exact tab_no_code htr (sinj (z▸e) e'▸e3) e4
theorem FnO.to (hP:∀ c q,P c q) (hf:FnO P h f sc cl xs body) (hlim:h'.NoLimit) (k1:∀ o,h.get? f=some o→NT o→h'.get? f=some o) (k2:∀ c o vs q t,h.get? c=some o→o.data=.fields vs→vs[1]?=some (.str q t)→h'.get? c=some o):FnO P h' f sc cl xs body:=by
 cases hf with | mk o fd ho hd a1 a2 a3 a4 a5 hcr hb hp _=>exact ⟨o,fd,k1 o ho (by rintro ps rfl; cases hd),hd,a1,a2,a3,a4,a5,code_at hcr fun c o vs t=>k2 c o vs _ t,fun vs h=>(hb vs h).rec .pure fun n _=>(n hP).elim,hp,hlim⟩
theorem wp_def (hb:Binds ps xs) (hlim:g.NoLimit) (F:Fm g T av ow env σ s) (mk:MakerOk g T env.code q) (hq:qualnameIn env name name=q) (hst:Canst env ow.c name) (hd0:ps.defaults=[]) (hk0:ps.kw_defaults=[]) (ha:annTrees ps none env=[])
  (hfree:∀ x,(x,NameKind.free)∈scope.names→env.kindOf x=some .cell∨env.kindOf x=some .free):wpAny (model prog w) A (exec (.FunctionDef name ps body [] none [] scope none name pos) env) (DefR g T av ow env σ name scope xs body s) NoE s:=by
 obtain ⟨cl,hcl,hat⟩:=closureFor_eq (scope:=scope) (env:=env) fun x hx=>(F.ec.cells x (hfree x hx)).imp fun _ p=>p.1
 refine nestDef_K hd0 hk0 ha (hq.symm▸wp_to (wp_make hb hlim F.gk mk F.ec.glob hcl) fun v s₁ h₁=>?_)
 cases h₁ with | @mk f _ x hn ho =>
 refine wp_to (wp_store (F.ext x) hst (d:=.adr f) (.adr f)) fun _ s₂ h₂=>⟨hn,ho.to (fun _ _=>trivial) (hlim.keeps h₂.F.gk.keep) (fun o e nt=>h₂.m.get' (x.gk F.gk) e (F.wr_not hn) nt) fun c o vs q t e e3 e4=>h₂.m.get e (fun hw=>((F.ext x).wcode c hw).2 o e |>.1 vs q t e3 e4) ((x.gk F.gk).code_off e e3 e4),h₂.F,Mv.trans x.mv h₂.m fun b h=>.inl h,hat⟩
inductive ClA (prog:Program) (w:World) (g:Heap) (T:Tabs) (n:Nat) (a:Addr) (ds:List D) (d:D):Prop
 | mk (o:Obj) (fd:FuncData) (e:g.get? a=some o) (h:o.data=.func fd) (run:∀ (A:Around) (s:Shared) (vs:List Value),Rm n A→GK g T s→VDs [] s.heap vs ds→wpAny (model prog w) A (call (.ref a) vs) (Out g T [] s d) NoE s)
noncomputable abbrev Flat (d:D):Prop:=∀ (av:List Addr) (h:Heap) (v:Value),VD [] h v d→VD av h v d
theorem flat_int {i:Int}:Flat (.int i):=fun av h v r=>by obtain ⟨_,rfl⟩:=r.i4; exact .int _ _
theorem wp_callB (he:env.scope=sc) (rm:Rm n A) (q:GK g T s) (hg':∀ {s₁},Ext g T s s₁→GK g' T s₁) (c:EC av env σ s.heap) (hx:σ.lookup x=some (.val (.adr f))) (ha:EvL prog w g T n sc σ (e::es) ds) (h:ClA prog w g' T n f ds d) (hd:Flat d) :
  wpAny (model prog w) A (eval (.Call (.Name x p) (e::es) [] pos) env) (Out g T av s d) NoE s:=by
 cases h with | mk o fd ho hdat run =>
 exact wpAny_Call_NameR (wp_load c.kind (c.adr hx) (callWith_def hdat (wp_to (ha.run A s av env pos he rm q c) fun vs s₁ h₁=>⟨(hg' h₁.1).keep _ _ ho,wp_to (run A s₁ vs rm (hg' h₁.1) (h₁.2.sub fun a (ha:a∈([]:List Addr))=>nomatch ha)) fun v s₂ h₂=>⟨h₁.1.trans (h₂.1.base (hg' h₁.1)),hd _ _ _ h₂.2⟩⟩) (ha.plain.1 _)))
theorem Ev.callA (hx:σ.lookup x=some (.val (.adr f))) (ha:EvL prog w g T n sc σ (e::es) ds) (h:ClA prog w g T n f ds d) (hd:Flat d):Ev prog w g T n sc σ (.Call (.Name x p) (e::es) [] pos) d:=fun A s av env he rm hg hc=>wp_callB he rm hg (fun x=>x.gk hg) hc hx ha h hd
theorem ClosOk.keeps (c:ClosOk sc cl σc av h) (k:∀ b o,h.get? b=some o→h'.get? b=some o):ClosOk sc cl σc av h' :=
 ⟨fun x a e=>(c.ce x a e).imp fun _ i=>cell_get i fun o e _=>k _ _ e,c.free,fun x sl e=>(c.cap x sl e).rec fun d a v ok kk nc e i r=>⟨d,a,v,ok,kk,nc,e,cell_get i fun o e _=>k _ _ e,r.keep fun b o e _ _=>k _ _ e⟩⟩
theorem ClA.fn (hf:CloO g f sc cl xs body) (hs:FnS0 sc xs) (hc:ClosOk sc cl σc [] g) (hl:ds.length=xs.length) (h:SxL prog w g T n sc (bindAll (xs.zip ds) σc) body (.ret d)):ClA prog w g T (n+1) f ds d :=
 hf.rec fun o fd ho hd a1 a2 a3 a4 a5 a6 a7 a8 a9=>⟨o,fd,ho,hd,fun A s vs rm hg hv=>wp_callX hf hs (hc.keeps hg.keep) rm hg nofun hv hl fun env ow s₁ E c _ rm F x hw=>wp_to (h _ s₁ [] ow env E.sc_ c rm F) fun fl s₃ h₃=>by
  cases h₃ with | ret r m=>exact ⟨(Mv.trans x.mv m fun b hb=>.inr (hw b hb)).ext fun b q=>q,r⟩⟩
end
end
section
section
variable {prog:Program}{w:World}{g:Heap}{T:Tabs}{n:Nat}{sc scope:Scope}{σ:Sto}{s:Shared}{av:List Addr}{env:Env}{A:Around}{cl:List (Str×Addr)}{x:Str}{v:Value}{e:Expr}{d:D}{pos:Pos}
theorem GK.sub (q:GK g T s) (b:Addr) (o:Obj) (e:g.get? b=some o):(coreH T s.heap).get? b=some o:=(core_off fun p hp z=>nos (q.off p hp) (z▸e)).trans (q.keep b o e)
theorem Glb.core (q:GK g T s) (h:Glb g x v):Glb (coreH T s.heap) x v:=by
 cases h with
 | glob o m n e=>exact .glob o m (n.keeps q.sub) e
 | blt o m b n e n' e'=>exact .blt o m b (n.keeps q.sub) e (n'.keeps q.sub) e'
theorem Ev.core (h:Ev prog w (coreH T s.heap) T n sc σ e d) (he:env.scope=sc) (rm:Rm n A) (q:GK g T s) (c:EC av env σ s.heap):wpAny (model prog w) A (eval e env) (Out g T av s d) NoE s :=
 wp_to (h A s av env he rm (q.core .refl) c) fun v s' h=>⟨h.1.base (q.core .refl),h.2⟩
theorem closOk_of {σc:Sto}{av':List Addr}{h':Heap}(hok:compOk sc scope=true) (hnc:cellNames scope.names=[]) (hcap:(σc.all fun p=>scope.names.lookup p.1==some .free&&isVal p.2)=true) (hs:Sub σc σ) (he:env.scope=sc) (c:EC av env σ s.heap) (H:ClAt env scope.names cl)
  (kc:∀ {a u},s.heap.IsCell a u→h'.IsCell a u) (kd:∀ {v d},VD av s.heap v d→VD av' h' v d):ClosOk scope cl σc av' h':=by
 refine ⟨fun x a e=>?_,fun x h=>(H.all x (mem_lookup h)).elim fun a e=>e▸rfl,fun x sl e=>?_⟩
 ·have h:=H.at_ x a e
  obtain ⟨b,e',i⟩:=c.cells x (show env.scope.names.lookup x=_∨env.scope.names.lookup x=_ from he▸(ok_free hok h.1).2.1)
  cases sinj e' h.2
  exact i.imp fun _=>kc
 ·have hv:=Bool.and_eq_true_iff.mp (List.all_eq_true.mp hcap _ (mem_of_lookup e))
  obtain ⟨a,ea⟩:=H.all x (mem_lookup (eq_of_beq hv.1))
  have h:=H.at_ x a ea
  cases sl with
  | own _=>cases hv.2
  | val d =>
  cases c.vars x _ (hs _ _ e) with | mk v l r =>
  have hk:env.kindOf x=some .cell∨env.kindOf x=some .free:=show env.scope.names.lookup x=_∨env.scope.names.lookup x=_ from he▸(ok_free hok h.1).2.1
  cases l with
  | loc o k=>rw [k] at hk; exact hk.elim nofun nofun
  | cel o k b e' i =>
   cases sinj e' h.2
   exact ⟨d,_,v,o,eq_of_beq hv.1,(fun z=>nomatch hnc▸mem_cellNames.mpr z),ea,kc i,kd r⟩
theorem GK.core_cell (q:GK g T s) {a:Addr}{u:Option Value}(i:s.heap.IsCell a u):(coreH T s.heap).IsCell a u:=cell_get i fun o e nt=>q.core_get e nt
theorem GK.core_vd (q:GK g T s) {v:Value}{d:D}(r:VD av s.heap v d):VD [] (coreH T s.heap) v d:=(VD.sub (av':=[]) (fun _ z=>nomatch z) r).keep fun _ o e ho _=>q.core_get e ho.nt
theorem qual_in (he:env.scope=sc) (hk:sc.names.lookup x=some .cell):qualnameIn env x x=env.qual++x:=by
 have:env.kindOf x=some .cell:=(congrArg (fun z:Scope=>z.names.lookup x) he).trans hk
 unfold qualnameIn; rw [this]; rfl
end
noncomputable def dval (k:Nat):List Int→Int
 | []=>0
 | d::r=>d+dval k r*2 ^ k
theorem dval_append (k:Nat) (a b:List Int):dval k (a++b)=dval k a+dval k b*2 ^ (k*a.length):=by
 induction a with
 | nil=>simp [dval]
 | cons d a ih=>rw [List.cons_append,dval,dval,ih,List.length_cons,Nat.mul_add,Int.add_mul,Int.add_assoc,Int.mul_assoc, ← Int.pow_add,Nat.mul_one]
theorem dval_bound (k:Nat) (a:List Int):(∀ d∈a,0≤d∧d<2 ^ k)→0≤dval k a∧dval k a<2 ^ (k*a.length):=by
 induction a with
 | nil=>exact fun _=>⟨Int.le_refl 0,by rw [List.length_nil,Nat.mul_zero]; exact (by decide:(0:Int)<2 ^ 0)⟩
 | cons d a ih =>
  intro h
  have h1:=h d (.head _)
  have i:=ih fun x hx=>h x (.tail _ hx)
  have hp:(0:Int)<2 ^ k:=Int.pow_pos (by decide)
  rw [dval,List.length_cons,Nat.mul_add,Nat.mul_one,Int.pow_add]
  refine ⟨Int.add_nonneg h1.1 (Int.mul_nonneg i.1 (Int.le_of_lt hp)),?_⟩
  have:=Int.mul_le_mul_of_nonneg_right (show dval k a+1≤_ from i.2) (Int.le_of_lt hp)
  rw [Int.add_mul] at this; lia
noncomputable def dstm:Stmt:=nth (bodyOf (fn1 "_digits2int")) 0
noncomputable abbrev LR:List Str:=[Str.ofString "L",Str.ofString "R"]
theorem cons_of {α:Type}{l:List α}{n:Nat}(h:l.length=n+1):∃ a r,l=a::r∧r.length=n:=by
 cases l with
 | nil=>cases h
 | cons a r=>exact ⟨a,r,rfl,Nat.succ.inj h⟩
theorem two_of {α:Type}{l:List α}(h:l.length=2):∃ a b,l=[a,b]:=by
 obtain ⟨a,r,e,h1⟩:=cons_of h
 obtain ⟨b,r',e',h2⟩:=cons_of h1
 exact ⟨a,b,by rw [e,e',List.eq_nil_of_length_eq_zero h2]⟩
theorem binds_d2i:Binds (argsOf dstm) LR:=fun fd vals h1 h2 h3 hl=>by
 obtain ⟨a,b,rfl⟩:=two_of hl
 cases fd; cases h1; cases h2; cases h3; rfl
theorem clos_d2i:FnS0 (scopeOf dstm) LR:=⟨rfl,rfl,rfl,by decide +kernel⟩
noncomputable def σd2i (f:Addr) (k:Nat) (digits:List Int):Sto:=[(Str.ofString "inner",.val (.adr f)),(Str.ofString "n",.val (.int k)),(Str.ofString "digits",.val (.lst (digits.map .int)))]
theorem small_of {L:Nat}(h:L≤1000):smallI (L:Int)=true:=Bool.and_eq_true_iff.mpr ⟨decide_eq_true (Int.le_trans (by decide) (Int.natCast_nonneg L)),decide_eq_true (Int.lt_of_le_of_lt (Int.ofNat_le.mpr h) (by decide))⟩
theorem seg_split {α:Type}(l:List α) (L M R:Nat) (h1:L≤M) (h2:M≤R):(l.drop L).take (R - L)=(l.drop L).take (M - L)++(l.drop M).take (R - M):=by
 rw [← Nat.sub_add_sub_cancel h2 h1,Nat.add_comm,List.take_add,List.drop_drop,Nat.add_sub_of_le h1]
theorem seg_mem {α:Type}{l:List α}{L k:Nat}{x:α}(h:x∈(l.drop L).take k):x∈l:=List.mem_of_mem_drop (List.mem_of_mem_take h)
section
variable {prog:Program}{w:World}{g:Heap}{T:Tabs}{n:Nat}{f:Addr}{cl:List (Str×Addr)}{k:Nat}{digits:List Int}
theorem dval_sm (hk:k*digits.length≤400) (hd:∀ d∈digits,0≤d∧d<2 ^ k) (L m:Nat):sm (dval k ((digits.drop L).take m))=true:=by
 have h:=dval_bound k ((digits.drop L).take m) fun d hm=>hd d (seg_mem hm)
 have hl:((digits.drop L).take m).length≤digits.length:=Nat.le_trans (List.length_take_le' ..) (Nat.le_trans (Nat.le_of_eq List.length_drop) (Nat.sub_le ..))
 have h4:(2:Nat) ^ (k*((digits.drop L).take m).length)<2 ^ 500:=Nat.pow_lt_pow_right (by decide) (Nat.lt_of_le_of_lt (Nat.le_trans (Nat.mul_le_mul_left k hl) hk) (by decide))
 refine decide_eq_true (Nat.lt_trans ?_ h4)
 have h5:((2:Int) ^ (k*((digits.drop L).take m).length))=((2 ^ (k*((digits.drop L).take m).length):Nat):Int):=(Int.natCast_pow 2 _).symm
 rw [h5] at h
 lia
theorem sm_nat {n:Nat}(h:n≤400):sm (n:Int)=true:=sm_of (Nat.le_trans h (by decide))
section
variable (hd:∀ d∈digits,0≤d∧d<2 ^ k) (hk:1≤k) (hk2:k*digits.length≤400)
theorem base_d2i {L:Nat}(hlen:digits.length≤400) (hL:L<digits.length):SxL prog w g T (n+1) (scopeOf dstm) (bindAll (LR.zip [D.int L,D.int (L+1:Nat)]) (σd2i f k digits)) (bodyOf dstm) (.ret (.int digits[L])):=by
 have hb:((L:Int)+1==((L+1:Nat):Int))=true:=beq_iff_eq.mpr rfl
 apply SxL.last
 apply Sx.ite (b:=true)
 ·rw [← hb]; exact EvT.cmp (Ev.bin (Ev.name rfl) Ev.int bin_add) (Ev.name rfl) rfl cmp_eq
 apply SxL.last
 apply Sx.ret
 exact Ev.item (Ev.name rfl) (Ev.name rfl) (fun _ _=>rfl) (item_at (k:=L) rfl (small_of (by lia)) (List.getElem?_map.trans (congrArg _ (List.getElem?_eq_getElem hL))))
include hd hk hk2
theorem inner_d2i (hf:CloO g f (scopeOf dstm) cl LR (bodyOf dstm)) (hc:ClosOk (scopeOf dstm) cl (σd2i f k digits) [] g) (m:Nat):∀ L R:Nat,L<R→R≤digits.length→R≤L+2 ^ m→ClA prog w g T (m+2) f [.int L,.int R] (.int (dval k ((digits.drop L).take (R - L)))):=by
 have hlen:digits.length≤400:=Nat.le_trans (Nat.le_mul_of_pos_left _ hk) hk2
 have base:∀ (n L R:Nat),R≤digits.length→L+1=R→ClA prog w g T (n+2) f [.int L,.int R] (.int (dval k ((digits.drop L).take (R - L)))):=fun n L R hr e=>by
  subst e
  rw [Nat.add_sub_cancel_left,List.drop_eq_getElem_cons hr,show dval k (List.take 1 (digits[L]::digits.drop (L+1)))=digits[L] from (congrArg (digits[L] + ·) (Int.zero_mul _)).trans (Int.add_zero _)]
  exact .fn hf clos_d2i hc rfl (base_d2i hlen hr)
 induction m with
 | zero=>exact fun L R h1 h2 h3=>base 0 L R h2 (Nat.le_antisymm h1 h3)
 | succ m ih =>
  intro L R hlr hr hm
  by_cases h1:L+1=R
  ·exact base (m+1) L R hr h1
  have hb:((L:Int)+1==(R:Int))=false:=beq_eq_false_iff_ne.mpr fun q=>h1 (Int.ofNat.inj q)
  rw [Nat.pow_succ] at hm
  obtain ⟨M,hM⟩:∃ M,M=(L+R) / 2:=⟨_,rfl⟩
  have h2:L<M:=by lia
  have h3:M<R:=by lia
  have c1:=ih M R h3 hr (by lia)
  have c2:=ih L M h2 (Nat.le_trans (Nat.le_of_lt h3) hr) (by lia)
  have hk3:k≤400:=Nat.le_trans (Nat.le_mul_of_pos_right k (Nat.zero_lt_of_lt (Nat.lt_of_lt_of_le hlr hr))) hk2
  have hML:M - L≤digits.length:=Nat.le_trans (Nat.sub_le ..) (Nat.le_trans (Nat.le_of_lt h3) hr)
  have hsh:(M - L)*k≤400:=Nat.le_trans (Nat.mul_comm .. ▸ Nat.mul_le_mul_left k hML) hk2
  refine .fn hf clos_d2i hc rfl (SxL.retEq (d:=.int (dval k ((digits.drop M).take (R - M))*2 ^ (((M - L)*k:Nat):Int).toNat+dval k ((digits.drop L).take (M - L)))) ?_ ?_)
  ·apply SxL.cons
   ·apply Sx.ite (b:=false)
    ·rw [← hb]; exact EvT.cmp (Ev.bin (Ev.name rfl) Ev.int bin_add) (Ev.name rfl) rfl cmp_eq
    ·exact SxL.nil
   refine SxL.cons (σ₁:=(Str.ofString "mid",.val (.int (M:Int)))::_) (Sx.assign (Ev.bin (Ev.bin (Ev.name rfl) (Ev.name rfl) bin_add) Ev.int ?_) (fun _ _ _=>rfl) rfl) ?_
   ·rw [hM]; exact fdiv_nat (L+R) 2▸bin_shr (b:=1)
   refine SxL.cons (σ₁:=(Str.ofString "shift",.val (.int (((M - L)*k:Nat):Int)))::_) (Sx.assign (Ev.bin (Ev.bin (Ev.name rfl) (Ev.name rfl) bin_sub) (Ev.name rfl) ?_) (fun _ _ _=>rfl) rfl) ?_
   ·rw [Int.natCast_mul, ← Int.natCast_sub (Nat.le_of_lt h2)]
    exact bin_mul (sm_nat (Nat.le_trans hML hlen)) (sm_nat hk3)
   apply SxL.last
   apply Sx.ret
   exact Ev.bin (Ev.bin (Ev.callA rfl (EvL.more (fun _=>rfl) (Ev.name rfl) (EvL.more (fun _=>rfl) (Ev.name rfl) EvL.nil)) c1 flat_int) (Ev.name rfl) (bin_shl (Int.natCast_nonneg _) (Int.ofNat_le.mpr (Nat.le_trans hsh (by decide))) (dval_sm hk2 hd _ _))) (Ev.callA rfl (EvL.more (fun _=>rfl) (Ev.name rfl) (EvL.more (fun _=>rfl) (Ev.name rfl) EvL.nil)) c2 flat_int) bin_add
  ·rw [seg_split digits L M R (Nat.le_of_lt h2) (Nat.le_of_lt h3),dval_append,List.length_take,List.length_drop,Nat.min_eq_left (Nat.sub_le_sub_right (Nat.le_trans (Nat.le_of_lt h3) hr) L),Nat.mul_comm k,Int.toNat_natCast,Int.add_comm]
end
end
end
section
theorem fns_d2i:FnS (scopeOf (fn1 "_digits2int")) [Str.ofString "digits",Str.ofString "n"]:=⟨⟨rfl,rfl,rfl,by decide +kernel⟩,by decide +kernel⟩
noncomputable abbrev FnMk (g:Heap) (T:Tabs) (a:Addr) (sc:Scope) (xs:List Str) (body:List Stmt) (sub:Str):Prop:=FnAtP (fun c q=>MakerOk g T c (q++sub)) g a sc xs body
section
variable {prog:Program}{w:World}{g:Heap}{T:Tabs}{n:Nat}{sc scope:Scope}{s:Shared}{f:Addr}{cl:List (Str×Addr)}{xs:List Str}{body:List Stmt}{P:Value→Str→Prop}
theorem FnO.lim (hf:FnO P g f sc cl xs body):g.NoLimit:=hf.rec fun _ _ _ _ _ _ _ _ _ _ _ _ l=>l
theorem FnO.core (hP:∀ c q,P c q) (hf:FnO P s.heap f sc cl xs body) (q:GK g T s) (hlim:g.NoLimit):FnO P (coreH T s.heap) f sc cl xs body:=hf.to hP (hlim.keeps q.sub) (fun o e nt=>q.core_get e nt) fun c o vs u t e e3 e4=>(core_off (q.code_off e e3 e4)).trans e
theorem free_in {env:Env}(he:env.scope=sc) (h:∀ p∈scope.names,p.2=.free→sc.names.lookup p.1=some .cell):∀ x,(x,NameKind.free)∈scope.names→env.kindOf x=some .cell∨env.kindOf x=some .free:=fun x hx=>.inl ((congrArg (fun z:Scope=>z.names.lookup x) he).trans (h _ hx rfl))
theorem cl_d2i {a:Addr}{l:List Int}{k:Nat}(k1:Glb g (Str.ofString "len") (.builtin "len")) (hf:FnMk g T a (scopeOf (fn1 "_digits2int")) [Str.ofString "digits",Str.ofString "n"] (bodyOf (fn1 "_digits2int")) (Str.ofString "inner")) (hg:Glb g (Str.ofString "_digits2int") (.ref a))
  (hk:1≤k) (hk2:k*l.length≤400) (hd:∀ d∈l,0≤d∧d<2 ^ k):ClV prog w g T 13 (Str.ofString "_digits2int") [.lst (l.map .int),.int k] (.int (dval k l)):=.fnP hg hf fns_d2i rfl fun A av env ow s E hoc rm F=>by
 have hm:(l.map D.int).length=l.length:=List.length_map ..
 have hlen:l.length≤400:=Nat.le_trans (Nat.le_mul_of_pos_left _ hk) hk2
 have hz:(l.map D.int).length≤lim:=hm▸Nat.le_trans hlen (by decide)
 refine wpAny_execs_cons (wp_to (wp_def (scope:=scopeOf dstm) binds_d2i hf.lim F E.p (qual_in E.sc_ rfl) (canst F.ec E.sc_ (by rw [hoc]; decide +kernel)) rfl rfl rfl (free_in E.sc_ (by decide +kernel))) fun fl s₁ h₁=>?_)
 cases h₁ with | @mk f cl _ hnf ho F₁ m₁ hat =>
 have hc:ClosOk (scopeOf dstm) cl (σd2i f k l) [] (coreH T s₁.heap):=closOk_of (sc:=scopeOf (fn1 "_digits2int")) (σ:=froz ((Str.ofString "inner",.val (.adr f))::params [Str.ofString "digits",Str.ofString "n"] [.lst (l.map .int),.int k])) (by decide +kernel) rfl rfl (Sub.cons rfl (Sub.cons rfl (Sub.cons rfl Sub.nil))) E.sc_ F₁.froz hat F₁.gk.core_cell F₁.gk.core_vd
 refine wpAny_execs_cons (wpAny_Return_some (wp_to (Ev.core (n:=12) (d:=.int (dval k l)) ?_ E.sc_ rm F₁.gk F₁.froz) fun v s₂ h₂=>.ret (VD.sub (fun a ha=>ha) h₂.2) (Mv.trans m₁ h₂.1.mv fun b hb=>.inl hb)))
 refine Ev.ite (c := !(l.map D.int).isEmpty) (EvT.val (Ev.name rfl) (fun _ _=>rfl) (tru_lst hz)) ?_
 cases l with
 | nil=>exact Ev.int
 | cons i l =>
  have c:=inner_d2i (prog:=prog) (w:=w) (T:=T) hd hk hk2 (ho.core (fun _ _=>trivial) F₁.gk hf.lim) hc 10 0 ((i::l).map D.int).length (Nat.succ_pos _) (Nat.le_of_eq hm) (hm▸Nat.le_trans hlen (by decide))
  rw [hm,List.drop_zero,Nat.sub_zero,List.take_length, ← hm] at c
  exact Ev.callA rfl (EvL.more (fun _=>rfl) Ev.int (EvL.more (fun _=>rfl) (Ev.call rfl (EvL.more (fun _=>rfl) (Ev.name rfl) EvL.nil) (cl_len_lst (k1.core F₁.gk) hz)) EvL.nil)) c flat_int
end
end
section
section
variable {prog:Program}{w:World}{g:Heap}{T:Tabs}{n:Nat}{sc scope:Scope}{σ σ' σ₁ σc:Sto}{s s' s'':Shared}{av:List Addr}{ow ow':Ow}{env:Env}{A:Around}{R:Rz}{body:List Stmt}
theorem wp_setItem0 {l:Addr}{vs:List Value}{n:Nat}{k:Int}{t:Tok}{v:Value}{Q:Unit→Shared→Prop}{E:Value→Shared→Prop}(ho:s.heap.get? l=some (lstO vs n)) (h0:0≤k) (hfit:k<2 ^ 63) (hn:k<vs.length)
  (h:∀ h' n',h'.get? l=some (lstO (vs.set k.toNat v) n')→Heap.SameBut l s.heap h'→Q () { s with heap:=h' }):wpAny (model prog w) A (setItem (.ref l) (.int k t) v) Q E s:=by
 have hl:s.heap.IsList l vs.toArray:=⟨_,ho,rfl,n,rfl⟩
 unfold setItem
 try with_reducible refine wpAny_holding ?_
 first | refine wpAny_bind (wpAny_pure ?_) | skip
 refine wpAny_bind (wpAny_sequenceKey hl.typeIs (by decide) ?_)
 refine wpAny_bind (wpAny_callSpecial?_slot (name:=Str.ofString "__setitem__") hl.typeIs slot_list_setitem
  (wpAny_call_entry slot_list_setitem hl.typeIs entry_list_setitem ?_ (args_list_setitem _ _ _)))
 show wpAny _ _ (Builtin.List.listSubscript? (.int k t) >>= _) _ _ s
 refine wpAny_bind (wpAny_listSubscript_int (fitsIndex_of h0 hfit) ?_)
 clear hfit
 obtain ⟨j,rfl⟩:=Int.eq_ofNat_of_zero_le h0
 have hj:j<vs.length:=by lia
 have hx':vs.toArray[j]?=some vs[j]:=by simp [hj]
 show wpAny _ _ ((seqItemAt l j >>= fun r=>pure (r.map (j, ·))) >>= _) _ _ s
 refine wpAny_bind (wpAny_bind (wpAny_seqItemAt ho rfl (wpAny_pure ?_)))
 rw [hx']
 show wpAny _ _ (setSeqItemAt l j v >>= _) _ _ s
 have hfin:(s.heap.update l (Obj.mapSeq (·.setIfInBounds j v))).get? l=some (lstO (vs.set j v) n):=by
  have:=PySem.IsL.update (h:=s.heap) (l:=l) (items:=vs.toArray) (n:=n) ho (fun x=>x.setIfInBounds j v)
  simpa [lstO] using this
 refine wpAny_bind (wpAny_setSeqItemAt ho rfl ?_)
 first
  | exact wpAny_bind (wpAny_pure (wpAny_pure ⟨.none,rfl,wpAny_pure (h _ _ hfin (Heap.SameBut.update ..))⟩))
  | exact wpAny_pure ⟨.none,rfl,wpAny_pure (h _ _ hfin (Heap.SameBut.update ..))⟩
theorem wp_setItem {l:Addr}{vs:List Value}{n i:Nat}{t:Tok}{v:Value}{Q:Unit→Shared→Prop}{E:Value→Shared→Prop}(ho:s.heap.get? l=some (lstO vs n)) (hi:i<vs.length) (hz:vs.length≤lim)
  (h:∀ h' n',h'.get? l=some (lstO (vs.set i v) n')→Heap.SameBut l s.heap h'→Q () { s with heap:=h' }):wpAny (model prog w) A (setItem (.ref l) (.int (i:Int) t) v) Q E s :=
 wp_setItem0 ho (by omega) (Int.lt_of_lt_of_le (Int.ofNat_lt.mpr (Nat.lt_of_lt_of_le hi hz)) (by decide)) (by lia) h
theorem VDs.set {av:List Addr}{h:Heap}{v:Value}{d:D}(hv:VD av h v d) (ds:List D):∀ {vs:List Value}{i:Nat},VDs av h vs ds→VDs av h (vs.set i v) (ds.set i d):=by
 induction ds with
 | nil=>exact fun r=>r.i0▸.nil
 | cons e ds ih =>
  intro vs i r
  cases r.i1 with | mk a q =>
  cases i with
  | zero=>exact .cons hv q
  | succ i=>exact .cons a (ih q)
theorem wp_repList {l:Addr}{items:Array Value}{n:Nat}{x:Int}{u:Tok}{Q:Value→Shared→Prop}{E:Value→Shared→Prop}(hl:s.heap.get? l=some { cls:=.type "list",dict:=none,data:=.seq items n,slots := #[] }) (hlo : -(2 ^ 63:Int)≤x) (hhi:x<2 ^ 63) (hsz:items.size*x.toNat≤2 ^ 24)
  (h:Q (.ref s.heap.objs.size) { s with heap:=s.heap.push { cls:=.type "list",data:=.seq (List.foldl (fun x1 x2=>x1++x2) #[] (List.replicate (if items.isEmpty=true then 0 else x.toNat) items)) } }) :
  wpAny (model prog w) A (binaryOp .Mult (.ref l) (.int x u)) Q E s :=
 wpAny_binaryOp_repeat_ref (T := "list") (U := "int") (by decide) ⟨_,hl,rfl⟩ (fun s'=>typeIs_int s' x u) noFill_list_mul F.fills_int_mul F.slot_int_rmul repeat_list F.slot_int_index.lookup
  (call_meets F.slot_int_rmul (typeIs_int s x u) F.entry_int_rmul (F.args_int_rmul_2 _ _) (int___rmul___int_list x u l items n)
   ⟨hl,rfl,⟨_,hl,rfl⟩,call_meets F.slot_list_mul ⟨_,hl,rfl⟩ F.entry_list_mul (F.args_list_mul_2 _ _)
    (AutoListH.list___mul___list_int_3 l items n x u (by simp [Builtin.List.listFitsIndex]; lia) (by lia) (by simp [Builtin.List.listTooLong,sizeLine]; lia))
    ⟨hl,h⟩⟩)
theorem foldl_rep (vs:List Value) (k:Nat):∀ acc:Array Value,List.foldl (fun x1 x2=>x1++x2) acc (List.replicate k vs.toArray)=acc++(List.replicate k vs).flatten.toArray:=by
 induction k with
 | zero=>exact fun acc=>Array.append_empty.symm
 | succ k ih=>exact fun acc=>(ih _).trans (by rw [List.replicate_succ,List.flatten_cons, ← List.append_toArray, ← Array.append_assoc])
theorem VDs.rep {av:List Addr}{h:Heap}{vs:List Value}{ds:List D}(r:VDs av h vs ds) (k:Nat):VDs av h (List.replicate k vs).flatten (List.replicate k ds).flatten:=by
 induction k with
 | zero=>exact .nil
 | succ k ih =>
  rw [List.replicate_succ,List.flatten_cons,List.replicate_succ,List.flatten_cons]
  exact r.append ih
theorem EvO.rep {l r:Expr}{pos:Pos}{d:D}{k:Nat}(hl:EvO prog w g T n sc σ l [d]) (hr:Ev prog w g T n sc σ r (.int (k:Int))) (hk:k≤2 ^ 20):EvO prog w g T n sc σ (.BinOp l .Mult r pos) (List.replicate k [d]).flatten:=fun A s av env he rm hg hc =>
 wpAny_BinOp (wp_to (hl A s av env he rm hg hc) fun u s₁ h₁=>by
  cases h₁ with | @mk P vs m _ x₁ hn ho hd =>
  have g₁:=x₁.gk hg
  refine wp_to (hr A s₁ av env he rm g₁ (hc.ext x₁ hg)) fun v s₂ h₂=>?_
  obtain ⟨_,rfl⟩:=h₂.2.i4
  have x:=x₁.trans h₂.1
  have hd2:=h₂.1.vds g₁ hd
  cases hd2.one1 with | mk hv =>
  have hk':(k:Int)≤2 ^ 20:=Int.ofNat_le.mpr hk
  have hne:=size_fresh s₂.heap
  refine wp_repList (h₂.1.get' g₁ ho (nt_lst _ _)) (Int.le_trans (by decide) (Int.natCast_nonneg k)) (Int.lt_of_le_of_lt hk' (by decide)) (by rw [Int.toNat_natCast,List.size_toArray,List.length_singleton,Nat.one_mul]; exact Nat.le_trans hk (by decide)) ?_
  rw [foldl_rep,Array.empty_append]
  exact ⟨x.trans (.push _),x.none hg hne,Heap.get?_push_size _ rfl,((VDs.rep (hd2.sub (av':=av) fun a ha=>.tail _ ha) k).avoid hne).keep (.of_keeps (push_keeps s₂ (lstO _ 0)))⟩)
end
end
noncomputable def digs (k:Nat):Nat→Nat→List Nat
 | 0,_=>[]
 | m+1,x=>(x % 2 ^ k)::digs k m (x / 2 ^ k)
theorem digs_length (k m:Nat):∀ x,(digs k m x).length=m:=by
 induction m with
 | zero=>exact fun _=>rfl
 | succ m ih=>exact fun x=>congrArg (· + 1) (ih _)
theorem digs_append (k i j:Nat):∀ x,digs k (i+j) x=digs k i x++digs k j (x / 2 ^ (k*i)):=by
 induction i with
 | zero=>intro x; rw [Nat.zero_add,Nat.mul_zero,Nat.pow_zero,Nat.div_one]; rfl
 | succ i ih=>intro x; rw [Nat.succ_add,digs,digs,ih,List.cons_append,Nat.div_div_eq_div_mul, ← Nat.pow_add,Nat.mul_add,Nat.mul_one,Nat.add_comm k]
theorem digs_mod (k i:Nat):∀ x,digs k i (x % 2 ^ (k*i))=digs k i x:=by
 induction i with
 | zero=>exact fun _=>rfl
 | succ i ih =>
  intro x
  rw [digs,digs,Nat.mod_mod_of_dvd _ (Nat.pow_dvd_pow 2 (Nat.le_mul_of_pos_right k (Nat.succ_pos i))),Nat.mul_add,Nat.mul_one,Nat.add_comm,Nat.pow_add,Nat.mod_mul_right_div_self,ih]
theorem digs_lt (k m:Nat):∀ x,∀ d∈digs k m x,d<2 ^ k:=by
 induction m with
 | zero=>exact fun _ _ h=>nomatch h
 | succ m ih=>exact fun x d h=>(List.mem_cons.mp h).elim (fun q=>q▸Nat.mod_lt _ (Nat.pow_pos (by decide))) (ih _ d)
theorem cast_pow (s:Nat):((2:Int) ^ s)=((2 ^ s:Nat):Int):=(Int.natCast_pow 2 s).symm
theorem dval_digs (k m:Nat):∀ x,x<2 ^ (k*m)→dval k ((digs k m x).map fun (d:Nat)=>(d:Int))=(x:Int):=by
 induction m with
 | zero=>intro x h; rw [Nat.mul_zero] at h; cases Nat.lt_one_iff.mp h; rfl
 | succ m ih =>
  intro x h
  rw [Nat.mul_add,Nat.mul_one,Nat.pow_add,Nat.mul_comm] at h
  rw [digs,List.map_cons,dval,ih _ (Nat.div_lt_of_lt_mul h),cast_pow, ← Int.natCast_mul, ← Int.natCast_add,Nat.mul_comm]
  exact congrArg _ (Nat.mod_add_div x (2 ^ k))
theorem land_high (x s:Nat):x &&& (x / 2 ^ s*2 ^ s)=x / 2 ^ s*2 ^ s:=by
 rw [← Nat.shiftRight_eq_div_pow, ← Nat.shiftLeft_eq]
 refine Nat.eq_of_testBit_eq fun i=>?_
 rw [Nat.testBit_and,Nat.testBit_shiftLeft,Nat.testBit_shiftRight]
 by_cases h:s≤i
 ·rw [Nat.add_sub_of_le h,decide_eq_true h,Bool.true_and,Bool.and_self]
 ·rw [decide_eq_false h,Bool.false_and,Bool.and_false]
theorem xor_high (x s:Nat):Builtin.bitXor (x:Int) (((x / 2 ^ s:Nat):Int)*2 ^ s)=((x % 2 ^ s:Nat):Int):=by
 have e2:Builtin.bitAnd (x:Int) ((x / 2 ^ s*2 ^ s:Nat):Int)=((x / 2 ^ s*2 ^ s:Nat):Int):=by
  unfold Builtin.bitAnd
  rw [decide_eq_true (Int.natCast_nonneg x),decide_eq_true (Int.natCast_nonneg (x / 2 ^ s*2 ^ s))]
  exact congrArg _ (land_high x s)
 rw [cast_pow, ← Int.natCast_mul,bitXor_and,e2]
 have:=Nat.mod_add_div x (2 ^ s)
 rw [Nat.mul_comm] at this
 lia
section
noncomputable abbrev nsD (l:List Nat):List D:=l.map fun (d:Nat)=>D.int d
inductive HasP (P:Addr) (xs:List Nat) (h:Heap):Prop
 | mk (us:List Value) (k:Nat) (e:h.get? P=some (lstO us k)) (r:VDs [P] h us (nsD xs))
inductive DidP (g:Heap) (T:Tabs) (P:Addr) (ys:List Nat) (s:Shared):Value→Shared→Prop
 | mk {s':Shared}(m:Mv g T (fun b=>b=P) s s') (h:HasP P ys s'.heap):DidP g T P ys s .none s'
inductive ClM (prog:Program) (w:World) (g:Heap) (T:Tabs) (n:Nat) (f P:Addr) (ds:List D) (xs ys:List Nat):Prop
 | mk (o:Obj) (fd:FuncData) (e:g.get? f=some o) (h:o.data=.func fd)
  (run:∀ (A:Around) (s:Shared) (vs:List Value),Rm n A→GK g T s→VDs [P] s.heap vs ds→HasP P xs s.heap→wpAny (model prog w) A (call (.ref f) vs) (DidP g T P ys s) NoE s)
section
variable {prog:Program}{w:World}{g:Heap}{T:Tabs}{n:Nat}{sc scope:Scope}{σ σ' σ₁ σc:Sto}{s s' s₁ s'':Shared}{av:List Addr}{ow ow':Ow}{env:Env}{A:Around}{P f:Addr}{us us':List Value}{kk kk':Nat}{U:Addr→Prop}{xs ys zs:List Nat}{x:Str}{e:Expr}{es:List Expr}{ds:List D}{p pos cpos:Pos}{cl:List (Str×Addr)}{ps:List Str}{body:List Stmt}{R:Rz}
theorem Fm.beside (F:Fm g T av ow env σ s) (m:Mv g T U s s') (hl:∀ b∈ow.adr,¬ U b) (hs:∀ b o,s.heap.get? b=some o→SeqObj o→U b→b∈av) (hL:¬ U env.locals) (hc:∀ x c,env.cells.lookup x=some c→¬ U c) (ho:∀ b∈av,U b→∃ o,s'.heap.get? b=some o∧NT o):Fm g T av ow env σ s':=by
 have kcell:∀ {x c v},env.cells.lookup x=some c→s.heap.IsCell c v→s'.heap.IsCell c v:=fun e i=>cell_get i fun o eo nt=>m.get' F.gk eo (hc _ _ e) nt
 have kns:∀ {m'},s.heap.Ns env.locals m'→s'.heap.Ns env.locals m':=fun n=>ns_get n fun o eo nt=>m.get' F.gk eo hL nt
 have kl:∀ {x v},Loads env s.heap x v→Loads env s'.heap x v:=fun l=>l.to kns fun e=>kcell e
 have ks:KeepSeq (ow.adr++av) s.heap s'.heap:=m.seq F.gk fun b o e q u=>List.mem_append_right _ (hs b o e q u)
 have klst:∀ {a},a∈ow.adr→∀ {vs k},s.heap.get? a=some (lstO vs k)→s'.heap.get? a=some (lstO vs k):=fun ha _ _ e=>m.get' F.gk e (hl _ ha) (nt_lst _ _)
 refine ⟨m.gk F.gk,⟨F.ec.kind,F.ec.glob,F.ec.blt,fun a ha=>?_,fun x sl e=>?_,fun x h=>(F.ec.cells x h).imp fun c p=>⟨p.1,p.2.imp fun _=>kcell p.1⟩⟩,F.ns.imp fun _=>kns,fun x c hm k e=>(F.own x c hm k e).imp fun _=>kcell e,F.inj,F.off,fun x ds e=>(F.reg x ds e).imp fun _ p=>⟨p.1,kl p.2⟩,F.nd,F.apt,fun a ha=>(F.isl a ha).imp fun _=>Exists.imp fun _=>klst ha⟩
 ·by_cases u:U a
  ·exact ho a ((List.mem_append.mp ha).resolve_left fun q=>hl a q u) u
  ·exact (F.ec.avok a ha).imp fun o p=>⟨m.get' F.gk p.1 u p.2,p.2⟩
 ·cases F.ec.vars x sl e with | mk v l r =>
  refine ⟨v,kl l,?_⟩
  cases sl with
  | val d=>exact VD.keep ks r
  | own ds =>
   obtain ⟨a,hm,l'⟩:=F.reg x ds e
   cases r with | mk m e r=>cases l.uniq l'; exact ⟨m,klst (own_adr hm) e,r.keep ks⟩
theorem HasP.ext (h:HasP P xs s.heap) (x:Ext g T s s') (q:GK g T s):HasP P xs s'.heap:=h.rec fun us k e r=>⟨us,k,x.get' q e (nt_lst _ _),x.vds q r⟩
theorem HasP.avok (h:HasP P xs s.heap):AvOk [P] s.heap:=fun a ha=>List.mem_singleton.mp ha▸h.rec fun us k e r=>⟨_,e,nt_lst _ _⟩
theorem Fm.did (F:Fm g T [P] ow env σ s) (hp:HasP P xs s.heap) (hc:∀ x c,env.cells.lookup x=some c→∃ v,g.IsCell c v) (m:Mv g T (fun b=>b=P) s s') (h:HasP P ys s'.heap):Fm g T [P] ow env σ s':=by
 cases hp with | mk us k e r =>
 refine F.beside m (fun b hb u=>F.apt b hb (u▸.head _)) (fun b o _ _ u=>u▸.head _) (fun u=>?_) (fun x c q u=>(hc x c q).elim fun v i=>cell_nsq (u▸cell_get i fun o e _=>F.gk.keep _ o e) e ⟨_,_,.inr rfl⟩) fun b hb u=>h.avok b hb
 exact F.ns.elim fun m n=>ns_nsq (u▸n) e ⟨_,_,.inr rfl⟩
theorem execs_append (env:Env) (a b:List Stmt):execs (a++b) env=(execs a env >>= fun f=>match f with | .next=>execs b env | f=>pure f):=by
 induction a with
 | nil=>rfl
 | cons st a ih =>
  rw [List.cons_append,execs_cons,execs_cons,ih,bind_assoc]
  congr 1
  funext f
  cases f <;> rfl
theorem wp_prefix {pre post:List Stmt}{Q:Flow→Shared→Prop}(h:SxL prog w g T n sc σ pre (.next σ₁)) (he:env.scope=sc) (hc:ow.c=cellNames sc.names) (rm:Rm n A) (F:Fm g T av ow env σ s) (k:∀ s₁,Nx g T av ow env s σ₁ s₁→wpAny (model prog w) A (execs post env) Q NoE s₁) :
  wpAny (model prog w) A (execs (pre++post) env) Q NoE s:=by
 rw [execs_append]
 refine wpAny_bind (wp_to (h A s av ow env he hc rm F) fun fl s₁ h₁=>?_)
 cases h₁ with | next nx=>exact k s₁ nx
theorem wp_callM {Q:Flow→Shared→Prop}(F:Fm g T [P] ow env σ s) (he:env.scope=sc) (rm:Rm n A) (hp:HasP P xs s.heap) (hc:∀ x c,env.cells.lookup x=some c→∃ v,g.IsCell c v) (hx:(froz σ).lookup x=some (.val (.adr f))) (ha:EvL prog w g T n sc (froz σ) (e::es) ds) (h:ClM prog w g T n f P ds xs ys)
  (k:∀ s',Fm g T [P] ow env σ s'→HasP P ys s'.heap→Mv g T (fun b=>b=P) s s'→Q .next s'):wpAny (model prog w) A (exec (.Expr (.Call (.Name x p) (e::es) [] cpos) pos) env) Q NoE s:=by
 cases h with | mk o fd ho hdat run =>
 have c:=F.froz
 refine wpAny_Expr_any (wpAny_Call_NameR (wp_load c.kind (c.adr hx) (callWith_def hdat (wp_to (ha.run A s _ env cpos he rm F.gk c) fun vs s₁ h₁=>⟨(h₁.1.gk F.gk).keep _ _ ho,wp_to (run A s₁ vs rm (h₁.1.gk F.gk) h₁.2 (hp.ext h₁.1 F.gk)) fun v s₂ h₂=>?_⟩) (ha.plain.1 _)))) (interactive_no F) rfl
 cases h₂ with | mk m h=>exact k s₂ ((F.ext h₁.1).did (hp.ext h₁.1 F.gk) hc m h) h (Mv.trans h₁.1.mv m fun b q=>.inl q)
inductive RetP (g:Heap) (T:Tabs) (P:Addr) (ow:Ow) (env:Env) (ys:List Nat) (s:Shared):Flow→Shared→Prop
 | next {s':Shared}(m:Mv g T (fun b=>Wr env ow b∨b=P) s s') (h:HasP P ys s'.heap):RetP g T P ow env ys s .next s'
 | ret {s':Shared}(m:Mv g T (fun b=>Wr env ow b∨b=P) s s') (h:HasP P ys s'.heap):RetP g T P ow env ys s (.ret .none) s'
theorem ClM.fn (hf:CloO g f sc cl ps body) (hs:FnS0 sc ps) (hc:ClosOk sc cl σc [P] g) (hnc:cellNames sc.names=[]) (hl:ds.length=ps.length)
  (h:∀ (A:Around) (s:Shared) (ow:Ow) (env:Env),env.scope=sc→(∀ x c,env.cells.lookup x=some c→∃ v,g.IsCell c v)→ow.c=cellNames sc.names→Rm n A→Fm g T [P] ow env (bindAll (ps.zip ds) σc) s→HasP P xs s.heap→wpAny (model prog w) A (execs body env) (RetP g T P ow env ys s) NoE s) :
  ClM prog w g T (n+1) f P ds xs ys:=hf.rec fun o fd ho hd a1 a2 a3 a4 a5 a6 a7 a8 a9=>⟨o,fd,ho,hd,fun A s vs rm hg hv hp=>wp_callX hf hs (hc.keeps hg.keep) rm hg hp.avok hv hl fun env ow s₁ E c _ rm F x hw =>
   wp_to (h _ s₁ ow env E.sc_ (fun y b e=>hc.ce y b ((E.cells y fun z=>nomatch hnc▸mem_cellNames.mpr z).symm.trans e)) c rm F (hp.ext x hg)) fun fl s₃ h₃=>by
    cases h₃ with
    | next m h=>exact ⟨Mv.trans x.mv m fun b q=>q.elim (fun z=>.inr (hw b z)) .inl,h⟩
    | ret m h=>exact ⟨Mv.trans x.mv m fun b q=>q.elim (fun z=>.inr (hw b z)) .inl,h⟩⟩
end
end
section
noncomputable def istm:Stmt:=nth (bodyOf (fn1 "_int2digits")) 1
noncomputable abbrev XLR:List Str:=[Str.ofString "x",Str.ofString "L",Str.ofString "R"]
theorem binds_i2d:Binds (argsOf istm) XLR:=fun fd vals h1 h2 h3 hl=>by
 obtain ⟨a,r,e,h⟩:=cons_of hl
 obtain ⟨b,c,e'⟩:=two_of h
 subst e' e
 cases fd; cases h1; cases h2; cases h3; rfl
theorem clos_i2d:FnS0 (scopeOf istm) XLR:=⟨rfl,rfl,rfl,by decide +kernel⟩
noncomputable def σi2d (f P:Addr) (k:Nat):Sto:=[(Str.ofString "inner",.val (.adr f)),(Str.ofString "a_digits",.val (.adr P)),(Str.ofString "n",.val (.int k))]
noncomputable def putN (xs:List Nat) (L:Nat) (ys:List Nat):List Nat:=xs.take L++ys++xs.drop (L+ys.length)
theorem putN_one {xs:List Nat}{L x:Nat}(h:L<xs.length):putN xs L [x]=xs.set L x:=by
 rw [List.set_eq_take_append_cons_drop,if_pos h]
 exact (List.append_assoc ..).trans rfl
theorem putN_length {xs ys:List Nat}{L:Nat}(h:L+ys.length≤xs.length):(putN xs L ys).length=xs.length:=by
 rw [putN,List.length_append,List.length_append,List.length_take,List.length_drop]; lia
theorem putN_put {xs ys zs:List Nat}{L:Nat}(h:L+ys.length+zs.length≤xs.length):putN (putN xs L ys) (L+ys.length) zs=putN xs L (ys++zs):=by
 have hl:(xs.take L++ys).length=L+ys.length:=by rw [List.length_append,List.length_take]; lia
 unfold putN
 rw [List.take_append_of_le_length (Nat.le_of_eq hl.symm),List.take_of_length_le (Nat.le_of_eq hl),List.drop_append,hl,Nat.add_sub_cancel_left,List.drop_drop,List.drop_of_length_le (hl▸Nat.le_add_right ..),List.nil_append,List.length_append,Nat.add_assoc,List.append_assoc,List.append_assoc,List.append_assoc,List.append_assoc]
section
variable {prog:Program}{w:World}{g:Heap}{T:Tabs}{n:Nat}{σ:Sto}{s s':Shared}{av av':List Addr}{ow:Ow}{env:Env}{A:Around}{f P:Addr}{cl:List (Str×Addr)}{k N:Nat}{us:List Value}{h h':Heap}
theorem nums_flat (xs:List Nat):∀ {us:List Value},VDs av h us (nsD xs)→VDs av' h' us (nsD xs):=by
 induction xs with
 | nil=>exact fun r=>r.i0▸.nil
 | cons x xs ih =>
  intro us r
  cases r.i1 with | mk a q =>
  obtain ⟨_,rfl⟩:=a.i4
  exact .cons (.int _ _) (ih q)
theorem Fm.hasP {xs:List Nat}(F:Fm g T [P] ow env σ s) (hp:HasP P xs s.heap) (m:Mv g T (Wr env ow) s s'):HasP P xs s'.heap:=hp.rec fun us k e r=>⟨us,k,m.get' F.gk e (fun hw=>F.apt P (F.wlst e ⟨_,_,.inr rfl⟩ hw) (.head _)) (nt_lst _ _),nums_flat xs r⟩
variable (hf:CloO g f (scopeOf istm) cl XLR (bodyOf istm)) (hc:ClosOk (scopeOf istm) cl (σi2d f P k) [P] g) (hgP:g.get? P=none)
include hf hc hgP
theorem base_i2d {x L:Nat}{xs:List Nat}(hL:L<xs.length) (hz:xs.length≤400):ClM prog w g T (n+2) f P [.int x,.int L,.int (L+1:Nat)] xs (xs.set L x) :=
 .fn hf clos_i2d hc rfl rfl fun A s ow env he hcc hoc rm F hp=>by
 have hb:((L:Int)+1==((L+1:Nat):Int))=true:=beq_iff_eq.mpr rfl
 have ht:EvT prog w g T (n+1) (scopeOf istm) (froz (bindAll (XLR.zip [D.int x,D.int L,D.int (L+1:Nat)]) (σi2d f P k))) (stP (nth (bodyOf istm) 0)).test true:=by rw [← hb]; exact EvT.cmp (Ev.bin (Ev.name rfl) Ev.int bin_add) (Ev.name rfl) rfl cmp_eq
 refine wpAny_execs_cons (wpAny_If (ht.go he rm F fun s₁ x₁=>?_))
 have F₁:=F.ext x₁
 have c:=F₁.froz
 refine wpAny_execs_cons (wpAny_Assign_Subscript (wp_to ((Ev.name (x:=Str.ofString "x") (d:=.int (x:Int)) rfl) A s₁ _ env he rm F₁.gk c) fun v s₂ h₂=>wp_load c.kind ((c.adr (x:=Str.ofString "a_digits") (a:=P) rfl).ext h₂.1 F₁.gk) (wp_to ((Ev.name (x:=Str.ofString "L") (d:=.int (L:Int)) rfl) A s₂ _ env he rm (h₂.1.gk F₁.gk) (c.ext h₂.1 F₁.gk)) fun u s₃ h₃=>?_)) rfl)
 obtain ⟨_,rfl⟩:=h₃.2.i4
 have x:=(x₁.trans h₂.1).trans h₃.1
 cases hp.ext x F.gk with | mk us kk e r =>
 have hl:us.length=xs.length:=r.length.trans (List.length_map ..)
 refine wp_setItem e (hl▸hL) (hl▸Nat.le_trans hz (by decide)) fun h' k' e6 hs=>wpAny_execs_cons (wpAny_Return_none (.ret (Mv.trans x.mv (Mv.one (tk:=s₃.toks) hs e (lst_data us kk) hgP (.inr rfl)) fun b h=>.inl h) ⟨_,k',e6,?_⟩))
 have r':=VDs.set (h₃.1.vd (h₂.1.gk F₁.gk) h₂.2) (i:=L) _ r
 rw [nsD, ← List.map_set] at r'
 exact nums_flat _ r'
end
end
section
theorem sm_lt {x j:Nat}(h:x<2 ^ j) (hj:j≤450):sm (x:Int)=true:=decide_eq_true (Nat.lt_of_lt_of_le h (Nat.pow_le_pow_right (by decide) (Nat.le_trans hj (by decide))))
section
variable {prog:Program}{w:World}{g:Heap}{T:Tabs}{n:Nat}{f P:Addr}{cl:List (Str×Addr)}{k N:Nat}
noncomputable def σ5 (f P:Addr) (k x L R M:Nat):Sto:=(Str.ofString "lower",.val (.int ((x % 2 ^ ((M - L)*k):Nat):Int)))::(Str.ofString "upper",.val (.int ((x / 2 ^ ((M - L)*k):Nat):Int))) ::
 (Str.ofString "shift",.val (.int (((M - L)*k:Nat):Int)))::(Str.ofString "mid",.val (.int (M:Int)))::bindAll (XLR.zip [D.int x,D.int L,D.int R]) (σi2d f P k)
theorem pre_i2d {x L R M j:Nat}(h1:¬ L+1=R) (hM:M=(L+R) / 2) (h2:L<M) (hz:M - L≤400) (hk:k≤400) (hsh:(M - L)*k≤450) (hj:j≤450) (hx:x<2 ^ j) :
  SxL prog w g T (n+1) (scopeOf istm) (bindAll (XLR.zip [D.int x,D.int L,D.int R]) (σi2d f P k)) (List.take 5 (bodyOf istm)) (.next (σ5 f P k x L R M)):=by
 have hb:((L:Int)+1==(R:Int))=false:=beq_eq_false_iff_ne.mpr fun q=>h1 (Int.ofNat.inj q)
 apply SxL.cons
 ·apply Sx.ite (b:=false)
  ·rw [← hb]; exact EvT.cmp (Ev.bin (Ev.name rfl) Ev.int bin_add) (Ev.name rfl) rfl cmp_eq
  ·exact SxL.nil
 refine SxL.cons (σ₁:=(Str.ofString "mid",.val (.int (M:Int)))::_) (Sx.assign (Ev.bin (Ev.bin (Ev.name rfl) (Ev.name rfl) bin_add) Ev.int ?_) (fun _ _ _=>rfl) rfl) ?_
 ·rw [hM]; exact fdiv_nat (L+R) 2▸bin_shr (b:=1)
 refine SxL.cons (σ₁:=(Str.ofString "shift",.val (.int (((M - L)*k:Nat):Int)))::_) (Sx.assign (Ev.bin (Ev.bin (Ev.name rfl) (Ev.name rfl) bin_sub) (Ev.name rfl) ?_) (fun _ _ _=>rfl) rfl) ?_
 ·rw [Int.natCast_mul, ← Int.natCast_sub (Nat.le_of_lt h2)]
  exact bin_mul (sm_nat hz) (sm_nat hk)
 refine SxL.cons (σ₁:=(Str.ofString "upper",.val (.int ((x / 2 ^ ((M - L)*k):Nat):Int)))::_) (Sx.assign (Ev.bin (Ev.name rfl) (Ev.name rfl) ?_) (fun _ _ _=>rfl) rfl) ?_
 ·have b:=bin_shr (prog:=prog) (w:=w) (g:=g) (T:=T) (a:=(x:Int)) (b:=(M - L)*k)
  rwa [cast_pow,fdiv_nat] at b
 refine SxL.cons (σ₁:=σ5 f P k x L R M) (Sx.assign (Ev.bin (Ev.name rfl) (Ev.bin (Ev.name rfl) (Ev.name rfl) (bin_shl (Int.natCast_nonneg _) (Int.ofNat_le.mpr (Nat.le_trans hsh (by decide))) (sm_lt (Nat.lt_of_le_of_lt (Nat.div_le_self _ _) hx) hj))) ?_) (fun _ _ _=>rfl) rfl) SxL.nil
 rw [Int.toNat_natCast, ← xor_high]
 exact bin_xor
theorem inner_i2d (hf:CloO g f (scopeOf istm) cl XLR (bodyOf istm)) (hc:ClosOk (scopeOf istm) cl (σi2d f P k) [P] g) (hgP:g.get? P=none) (hk:k≤400) (hN:N≤400) (hkN:k*N≤450) (m:Nat):∀ (x L R:Nat) (xs:List Nat),L<R→R≤N→R≤L+2 ^ m→xs.length=N→x<2 ^ (k*(R - L)) →
  ClM prog w g T (m+2) f P [.int x,.int L,.int R] xs (putN xs L (digs k (R - L) x)):=by
 have base:∀ (n x L R:Nat) (xs:List Nat),R≤N→xs.length=N→x<2 ^ (k*(R - L))→L+1=R→ClM prog w g T (n+2) f P [.int x,.int L,.int R] xs (putN xs L (digs k (R - L) x)):=fun n x L R xs hr hl hx e=>by
  subst e
  rw [Nat.add_sub_cancel_left,Nat.mul_one] at hx
  rw [Nat.add_sub_cancel_left,show digs k 1 x=[x] from congrArg (· :: []) (Nat.mod_eq_of_lt hx),putN_one (hl▸hr)]
  exact base_i2d hf hc hgP (hl▸hr) (hl▸hN)
 induction m with
 | zero=>exact fun x L R xs h1 h2 h3 hl hx=>base 0 x L R xs h2 hl hx (Nat.le_antisymm h1 h3)
 | succ m ih =>
  intro x L R xs hlr hr hm hl hx
  by_cases h1:L+1=R
  ·exact base (m+1) x L R xs hr hl hx h1
  rw [Nat.pow_succ] at hm
  obtain ⟨M,hM⟩:∃ M,M=(L+R) / 2:=⟨_,rfl⟩
  have h2:L<M:=by lia
  have h3:M<R:=by lia
  have h4:M - L+(R - M)=R - L:=(Nat.add_comm ..).trans (Nat.sub_add_sub_cancel (Nat.le_of_lt h3) (Nat.le_of_lt h2))
  have hML:M - L≤N:=Nat.le_trans (Nat.sub_le ..) (Nat.le_trans (Nat.le_of_lt h3) hr)
  have hsh:(M - L)*k≤450:=Nat.le_trans (Nat.mul_comm .. ▸ Nat.mul_le_mul_left k hML) hkN
  have hlow:x % 2 ^ ((M - L)*k)<2 ^ (k*(M - L)):=Nat.mul_comm k (M - L)▸Nat.mod_lt _ (Nat.pow_pos (by decide))
  have hupp:x / 2 ^ ((M - L)*k)<2 ^ (k*(R - M)):=Nat.div_lt_of_lt_mul (by rw [← Nat.pow_add,Nat.mul_comm _ k, ← Nat.mul_add,h4]; exact hx)
  have hA:=digs_length k (M - L) (x % 2 ^ ((M - L)*k))
  have hB:=digs_length k (R - M) (x / 2 ^ ((M - L)*k))
  have c1:=ih (x % 2 ^ ((M - L)*k)) L M xs h2 (Nat.le_trans (Nat.le_of_lt h3) hr) (by lia) hl hlow
  have c2:=ih (x / 2 ^ ((M - L)*k)) M R (putN xs L (digs k (M - L) (x % 2 ^ ((M - L)*k)))) h3 hr (by lia) ((putN_length (by rw [hA,Nat.add_sub_of_le (Nat.le_of_lt h2)]; exact hl▸Nat.le_trans (Nat.le_of_lt h3) hr)).trans hl) hupp
  have e1:=putN_put (xs:=xs) (L:=L) (ys:=digs k (M - L) (x % 2 ^ ((M - L)*k))) (zs:=digs k (R - M) (x / 2 ^ ((M - L)*k))) (by rw [hA,hB,Nat.add_assoc,h4,Nat.add_sub_of_le (Nat.le_of_lt hlr)]; exact hl▸hr)
  rw [hA,Nat.add_sub_of_le (Nat.le_of_lt h2),Nat.mul_comm (M - L) k,digs_mod, ← digs_append,h4] at e1
  rw [Nat.mul_comm (M - L) k,digs_mod,e1] at c2
  rw [Nat.mul_comm (M - L) k,digs_mod] at c1
  refine .fn hf clos_i2d hc rfl rfl fun A s ow env he hcc hoc rm F hp=>?_
  rw [← List.take_append_drop 5 (bodyOf istm)]
  refine wp_prefix (pre_i2d h1 hM h2 (Nat.le_trans hML hN) hk hsh (Nat.le_trans (Nat.mul_le_mul_left k (Nat.le_trans (Nat.sub_le ..) hr)) hkN) hx) he hoc rm F fun s₁ nx=>?_
  cases nx with | mk ow₁ cc₁ F₁ m₁ w₁ =>
  have hp₁:=F.hasP hp m₁
  rw [Nat.mul_comm k (M - L)] at c1 c2
  refine wpAny_execs_cons (wp_callM F₁ he rm hp₁ hcc rfl (EvL.more (fun _=>rfl) (Ev.name rfl) (EvL.more (fun _=>rfl) (Ev.name rfl) (EvL.more (fun _=>rfl) (Ev.name rfl) EvL.nil))) c1 fun s₂ F₂ hp₂ m₂=>?_)
  refine wpAny_execs_cons (wp_callM F₂ he rm hp₂ hcc rfl (EvL.more (fun _=>rfl) (Ev.name rfl) (EvL.more (fun _=>rfl) (Ev.name rfl) (EvL.more (fun _=>rfl) (Ev.name rfl) EvL.nil))) c2 fun s₃ F₃ hp₃ m₃=>?_)
  exact wpAny_execs_nil (.next (Mv.trans (m₁.sub fun b q=>.inl (.inl q)) (Mv.trans m₂ m₃ fun b q=>.inl q) fun b q=>.inl (.inr q)) hp₃)
end
end
section
noncomputable def nbits (a:Nat):Nat:=if a=0 then 0 else a.log2+1
theorem lt_nbits (a:Nat):a<2 ^ nbits a:=by
 unfold nbits
 split
 ·rename_i h; subst h; decide
 ·exact Nat.lt_log2_self
noncomputable def ndig (a k:Nat):Nat:=(nbits a+k - 1) / k
theorem ndig_ok {a k:Nat}(hk:1≤k):a<2 ^ (k*ndig a k):=by
 refine Nat.lt_of_lt_of_le (lt_nbits a) (Nat.pow_le_pow_right (by decide) ?_)
 have h1:=Nat.div_add_mod (nbits a+k - 1) k
 have h2:=Nat.mod_lt (nbits a+k - 1) hk
 unfold ndig
 lia
theorem fns_i2d:FnS (scopeOf (fn1 "_int2digits")) [Str.ofString "a",Str.ofString "n"]:=⟨⟨rfl,rfl,rfl,by decide +kernel⟩,by decide +kernel⟩
theorem intBits_nat (x:Nat):((Builtin.Int.intBits (x:Int):Nat):Int)=(nbits x:Int):=by
 unfold Builtin.Int.intBits nbits
 by_cases h:x=0
 ·subst h; rfl
 ·rw [if_neg h,if_neg (by simpa using h)]; rfl
theorem rep_zero (m:Nat):(List.replicate m [D.int 0]).flatten=nsD (List.replicate m 0):=by
 induction m with
 | zero=>rfl
 | succ m ih=>rw [List.replicate_succ,List.flatten_cons,ih]; rfl
section
variable {prog:Program}{w:World}{g:Heap}{T:Tabs}{n:Nat}{σ:Sto}{s s':Shared}{av:List Addr}{env:Env}{P:Addr}{y x:Str}{v:Value}
theorem EC.adrOwn (c:EC av env σ s.heap) (l:Loads env s.heap y (.ref P)):EC av env ((y,.val (.adr P))::σ) s.heap:={ c with vars:=fun x sl e=>(lookup_hit e).elim (fun q=>q.1▸q.2▸⟨_,l,.adr P⟩) fun q=>c.vars x sl q.2 }
noncomputable abbrev coreP (T:Tabs) (P:Addr) (h:Heap):Heap:=coreH ((P,Str.empty)::T) h
theorem coreP_off {h:Heap}{b:Addr}(q:Off T b) (n:b≠P):(coreP T P h).get? b=h.get? b:=core_off fun p hp=>(List.mem_cons.mp hp).elim (fun e=>e▸n.symm) (q p)
theorem coreP_some {h:Heap}{b:Addr}{o:Obj}(e:(coreP T P h).get? b=some o):Off T b∧b≠P∧h.get? b=some o:=⟨fun p hp=>(core_some e).1 p (.tail _ hp),fun z=>(core_some e).1 _ (.head _) z.symm,(core_some e).2⟩
theorem GK.coreP_get (q:GK g T s) {b:Addr}{o:Obj}(e:s.heap.get? b=some o) (n:b≠P) (nt:NT o):(Mine.coreP T P s.heap).get? b=some o:=(coreP_off (q.away e nt) n).trans e
theorem GK.subP (q:GK g T s) (hP:g.get? P=none) (b:Addr) (o:Obj) (e:g.get? b=some o):(Mine.coreP T P s.heap).get? b=some o:=(coreP_off (fun p hp z=>nos (q.off p hp) (z▸e)) fun z=>nos hP (z▸e)).trans (q.keep b o e)
end
section
variable {prog:Program}{w:World}{g:Heap}{T:Tabs}{x k:Nat}
theorem Mv.base {g':Heap}{W:Addr→Prop}{s s':Shared}(m:Mv g' T W s s') (q':GK g' T s) (hW:∀ b,W b→g.get? b=none):Mv g T W s s':=⟨m.dr,m.os,m.keep,fun q=>⟨fun b o e=>m.keep b o (q.keep b o e) (fun w=>nos (hW b w) e) fun p hp z=>nos (q.off p hp) (z▸e),(m.gk q').tabs,q.off,(m.gk q').bare⟩⟩
theorem wp_callS {n:Nat}{sc:Scope}{σ:Sto}{s:Shared}{av:List Addr}{ow:Ow}{env:Env}{A:Around}{f:Addr}{o:Obj}{fd:FuncData}{y:Str}{e:Expr}{es:List Expr}{ds:List D}{p cpos pos:Pos}{Q:Flow→Shared→Prop}(F:Fm g T av ow env σ s) (he:env.scope=sc) (rm:Rm n A) (hx:(froz σ).lookup y=some (.val (.adr f))) (ha:EvL prog w g T n sc (froz σ) (e::es) ds) (hdat:o.data=.func fd)
  (k:∀ vs s₁,Ext g T s s₁→VDs av s₁.heap vs ds→s₁.heap.get? f=some o∧wpAny (model prog w) A (call (.ref f) vs) (fun _ s'=>Q .next s') NoE s₁):wpAny (model prog w) A (exec (.Expr (.Call (.Name y p) (e::es) [] cpos) pos) env) Q NoE s :=
 wpAny_Expr_any (wpAny_Call_NameR (wp_load F.ec.kind (F.froz.adr hx) (callWith_def hdat (wp_to (ha.run A s _ env cpos he rm F.gk F.froz) fun vs s₁ h=>k vs s₁ h.1 h.2) (ha.plain.1 _)))) (interactive_no F) rfl
noncomputable abbrev σi0 (x k:Nat):Sto:=params [Str.ofString "a",Str.ofString "n"] [D.int x,.int k]
theorem first_i2d (hk:1≤k) (hk4:k≤400) (hn:ndig x k≤400):Sx prog w g T 12 (scopeOf (fn1 "_int2digits")) (σi0 x k) (nth (bodyOf (fn1 "_int2digits")) 0) (.next ((Str.ofString "a_digits",.own (nsD (List.replicate (ndig x k) 0)))::σi0 x k)):=by
 rw [← rep_zero]
 refine Sx.assignOwn (EvO.rep (d:=.int 0) (EvO.list (EvL.more (fun _=>rfl) Ev.int EvL.nil) (by decide)) (Ev.bin (a:=.int ((nbits x:Int)+k - 1)) (Ev.bin (Ev.bin ?_ (Ev.name rfl) bin_add) Ev.int bin_sub) (Ev.name rfl) ?_) (Nat.le_trans hn (by decide))) (fun _ _ _=>rfl) rfl
 ·exact intBits_nat x▸Ev.meth0 (fun _=>rfl) rfl (Ev.name rfl) mt_bits
 ·have b:=bin_div (prog:=prog) (w:=w) (g:=g) (T:=T) (a:=((nbits x+k - 1:Nat):Int)) (b:=(k:Int)) (by lia) (sm_nat hk4)
  rw [fdiv_nat] at b
  rwa [show ((nbits x:Int)+k - 1)=((nbits x+k - 1:Nat):Int) by lia]
theorem cl_i2d {a:Addr}(k1:Glb g (Str.ofString "len") (.builtin "len")) (hf:FnMk g T a (scopeOf (fn1 "_int2digits")) [Str.ofString "a",Str.ofString "n"] (bodyOf (fn1 "_int2digits")) (Str.ofString "inner")) (hg:Glb g (Str.ofString "_int2digits") (.ref a))
  (hk:1≤k) (hk4:k≤400) (hn:ndig x k≤400) (hkn:k*ndig x k≤450):ClV prog w g T 13 (Str.ofString "_int2digits") [.int x,.int k] (.lst (nsD (digs k (ndig x k) x))):=.fnP hg hf fns_i2d rfl fun A av env ow s E hoc rm F=>by
 refine wpAny_execs_cons (wp_to (first_i2d hk hk4 hn A s av ow env E.sc_ hoc rm F) fun fl s₁ h₁=>?_)
 cases h₁ with | next nx =>
 cases nx with | mk ow₁ c₁ F₁ m₁ w₁ =>
 refine wpAny_execs_cons (wp_to (wp_def (scope:=scopeOf istm) binds_i2d hf.lim F₁ E.p (qual_in E.sc_ rfl) (canst F₁.ec E.sc_ (by rw [c₁,hoc]; decide +kernel)) rfl rfl rfl (free_in E.sc_ (by decide +kernel))) fun fl s₂ h₂=>?_)
 cases h₂ with | @mk f cl _ hnf ho F₂ m₂ hat =>
 cases F₂.ownAt (x:=Str.ofString "a_digits") (ds:=nsD (List.replicate (ndig x k) 0)) rfl with | @mk P us kk hPm lP eP rP =>
 have hPa:=own_adr hPm
 have hgP:g.get? P=none:=F₂.off P (.inr (.inr hPa))
 have q:=F₂.gk
 have hc:ClosOk (scopeOf istm) cl (σi2d f P k) [P] (coreP T P s₂.heap):=closOk_of (sc:=scopeOf (fn1 "_int2digits")) (by decide +kernel) rfl rfl (Sub.cons rfl (Sub.cons rfl (Sub.cons rfl Sub.nil))) E.sc_ (F₂.ec.adrOwn lP) hat (fun i=>cell_get i fun o e nt=>q.coreP_get e (fun z=>cell_nsq i (z▸eP) ⟨_,_,.inr rfl⟩) nt)
  fun r=>(VD.sub (av':=[P]) (fun b hb=>List.mem_singleton.mp hb▸List.mem_append_left _ hPa) r).keep fun b o e ho nb=>q.coreP_get e (fun z=>nb (z▸.head _)) ho.nt
 have hfP:f≠P:=ho.rec fun o fd e hd _ _ _ _ _ _ _ _ _ z=>by cases sinj (z▸e) eP; cases hd
 have ho':CloO (coreP T P s₂.heap) f (scopeOf istm) cl XLR (bodyOf istm):=ho.to (fun _ _=>trivial) (hf.lim.keeps (q.subP hgP)) (fun o e nt=>q.coreP_get e hfP nt) fun c o vs u t e e3 e4=>(coreP_off (q.code_off e e3 e4) fun z=>by cases sinj (z▸e) eP; cases e3).trans e
 have ht:EvT prog w g T 12 (scopeOf (fn1 "_int2digits")) (froz ((Str.ofString "inner",.val (.adr f))::(Str.ofString "a_digits",.own (nsD (List.replicate (ndig x k) 0)))::σi0 x k)) (stP (nth (bodyOf (fn1 "_int2digits")) 2)).test ((x:Int) != 0):=EvT.val (Ev.name rfl) (fun _ _=>rfl) tru_int
 have tail:∀ {s₄:Shared},Fm g T av (ow₁.drop (Str.ofString "inner")) env ((Str.ofString "a_digits",.own (nsD (digs k (ndig x k) x)))::(Str.ofString "inner",.val (.adr f))::(Str.ofString "a_digits",.own (nsD (List.replicate (ndig x k) 0)))::σi0 x k) s₄→Mv g T (Wr env (ow₁.drop (Str.ofString "inner"))) s₂ s₄ →
   wpAny (model prog w) A (execs [nth (bodyOf (fn1 "_int2digits")) 3] env) (Mtch g T av ow env s (.ret (.lst (nsD (digs k (ndig x k) x))))) NoE s₄:=fun F₄ m₄ =>
  wp_to (SxL.last (d:=.lst (nsD (digs k (ndig x k) x))) (Sx.retF (Ev.name rfl)) A _ av (Ow.drop (Str.ofString "inner") ow₁) env E.sc_ (c₁.trans hoc) rm F₄) fun fl s₅ h₅=>Mtch.then (ow:=ow) (ow₁:=Ow.drop (Str.ofString "inner") ow₁) c₁ F₄.gk (Mv.trans (Mv.trans m₁ m₂ w₁) m₄ fun b hb=>w₁ b hb.drop) (fun b hb=>w₁ b hb.drop) h₅
 refine wpAny_execs_cons (wpAny_If (ht.go E.sc_ rm F₂ fun s₃ x₃=>?_))
 have F₃:=F₂.ext x₃
 by_cases hx:x=0
 ·subst hx
  refine wpAny_execs_nil (tail (F₃.weak ?_) x₃.mv)
  have hn0:ndig 0 k=0:=Nat.div_eq_of_lt (show 0+k - 1<k by lia)
  rw [hn0]
  exact Sub.cons rfl .refl
 ·rw [bne_iff_ne.mpr (show (x:Int)≠0 by lia)]
  have hN:0<ndig x k:=Nat.pos_of_ne_zero fun z=>hx (Nat.lt_one_iff.mp (by have:=ndig_ok (a:=x) hk; rwa [z,Nat.mul_zero] at this))
  have hlr:(List.replicate (ndig x k) 0).length=ndig x k:=List.length_replicate
  have hlD:(nsD (List.replicate (ndig x k) 0)).length=ndig x k:=(List.length_map ..).trans hlr
  have c:=inner_i2d (prog:=prog) (w:=w) (T:=T) ho' hc (core_tab (.head _)) hk4 hn hkn 10 x 0 (ndig x k) (List.replicate (ndig x k) 0) hN (Nat.le_refl _) (Nat.le_trans hn (by decide)) hlr (ndig_ok hk)
  rw [Nat.sub_zero,putN,List.take_zero,List.nil_append,Nat.zero_add,digs_length,List.drop_of_length_le (Nat.le_of_eq hlr),List.append_nil] at c
  cases c with | mk o fd hfo hdat run =>
  refine wpAny_execs_cons (wp_callS F₃ E.sc_ rm (f:=f) rfl (EvL.more (fun _=>rfl) (Ev.name (d:=.int x) rfl) (EvL.more (fun _=>rfl) Ev.int (EvL.more (fun _=>rfl) (Ev.call rfl (EvL.more (fun _=>rfl) (Ev.name (d:=.lst (nsD (List.replicate (ndig x k) 0))) rfl) EvL.nil) (cl_len_lst k1 (Nat.le_trans (Nat.le_of_eq hlD) (Nat.le_trans hn (by decide:400≤lim))))) EvL.nil))) hdat fun vs s₄ x₃₄ h₄=>?_)
  have x₄:=x₃.trans x₃₄
  have q₄:GK (coreP T P s₂.heap) T s₄:=⟨fun b o e=>x₄.keep b o (coreP_some e).2.2 (coreP_some e).1,(x₄.gk q).tabs,fun p hp=>core_tab (.tail _ hp),(x₄.gk q).bare⟩
  refine ⟨q₄.keep _ _ hfo,wp_to (run A s₄ vs rm q₄ (nums_flat [x,0,ndig x k] (hlD▸h₄)) ⟨us,kk,x₄.get' q eP (nt_lst _ _),nums_flat _ rP⟩) fun v s₅ h₅=>?_⟩
  cases h₅ with | mk m hp =>
  cases hp with | mk us' kk' e' r' =>
  have mb:=m.base q₄ fun b z=>z▸hgP
  exact wpAny_execs_nil (tail ((F₂.ext x₄).ownMv hPm (lP.ext x₄ q) (mb.gk (x₄.gk q)) (fun b o n e nt=>m.get' q₄ e n nt) e' (nums_flat _ r')) (Mv.trans x₄.mv mb fun b z=>.inl (z▸.inr (.inr hPa))))
end
end
section
section
variable {prog:Program}{w:World}{g:Heap}{T:Tabs}{n:Nat}{sc:Scope}{σ:Sto}{R:Rz}
theorem SxL.frz {x:Str}{ds:List D}{sts:List Stmt}(h:σ.lookup x=some (.own ds)) (k:SxL prog w g T n sc ((x,.val (.lst ds))::σ) sts R):SxL prog w g T n sc σ sts R:=fun A s av ow env he hc rm F =>
 wp_to (k A s av (ow.drop x) env he hc rm (F.freeze h)) fun fl s' m=>Mtch.then (ow:=ow) (ow₁:=ow.drop x) rfl F.gk .refl (fun b hb=>.inl hb.drop) m
theorem fns_div2:FnS (scopeOf (fn1 "_div2n1n")) [Str.ofString "a",Str.ofString "b",Str.ofString "n"]:=⟨⟨rfl,rfl,rfl,by decide +kernel⟩,by decide +kernel⟩
theorem cl_div2 {a:Addr}{tk:Tok}{x y z:Int}(k1:Glb g (Str.ofString "divmod") (.builtin "divmod")) (hlimit:Glb g (Str.ofString "_DIV_LIMIT") (.int 4000 tk)) (hf:FnAt g a (scopeOf (fn1 "_div2n1n")) [Str.ofString "a",Str.ofString "b",Str.ofString "n"] (bodyOf (fn1 "_div2n1n")))
  (hg:Glb g (Str.ofString "_div2n1n") (.ref a)) (h0:y≠0) (hs:sm y=true) (hz:(Builtin.Int.intBits x:Int) - z≤4000):ClV prog w g T (n+2) (Str.ofString "_div2n1n") [.int x,.int y,.int z] (.tup [.int (x.fdiv y),.int (x.fmod y)]):=by
 refine .fn hg hf fns_div2 rfl (SxL.last (Sx.ite (b:=true) ?_ (SxL.last (Sx.ret (Ev.call rfl (EvL.more (fun _=>rfl) (Ev.name rfl) (EvL.more (fun _=>rfl) (Ev.name rfl) EvL.nil)) (cl_divmod k1 h0 hs))))))
 rw [← (decide_eq_true hz:decide ((Builtin.Int.intBits x:Int) - z≤4000)=true)]
 exact EvT.cmp (Ev.bin (Ev.meth0 (fun _=>rfl) rfl (Ev.name rfl) mt_bits) (Ev.name rfl) bin_sub) (Ev.globInt rfl hlimit) rfl cmp_le
end
end
section
noncomputable def ldivQ (b k:Nat) (ds:List Nat):Nat→List Nat:=ds.rec (fun _=>[]) fun d _ q r=>(r*2 ^ k+d) / b::q ((r*2 ^ k+d) % b)
noncomputable def ldivR (b k:Nat) (ds:List Nat):Nat→Nat:=ds.rec id fun d _ q r=>q ((r*2 ^ k+d) % b)
noncomputable def σdm (b k r:Nat) (qs:List Nat):Sto:=[(Str.ofString "r",.val (.int r)),(Str.ofString "q_digits",.own (nsD qs)),(Str.ofString "n",.val (.int k)),(Str.ofString "b",.val (.int b))]
theorem nbits_le {x j:Nat}(h:x<2 ^ j):nbits x≤j:=by
 unfold nbits
 by_cases h0:x=0
 ·rw [if_pos h0]; exact Nat.zero_le j
 ·rw [if_neg h0]; exact (Nat.log2_lt h0).mpr h
theorem step_lt {b k r d:Nat}(hr:r<b) (hd:d<2 ^ k):r*2 ^ k+d<b*2 ^ k:=by
 have h:=Nat.mul_le_mul_right (2 ^ k) (show r+1≤b from hr)
 rw [Nat.add_mul,Nat.one_mul] at h
 exact Nat.lt_of_lt_of_le (Nat.add_lt_add_left hd _) h
theorem sm_bits {x j:Nat}(h:x<2 ^ j) (hj:j≤400):sm (x:Int)=true:=decide_eq_true (Nat.lt_of_lt_of_le h (Nat.pow_le_pow_right (by decide) (Nat.le_trans hj (by decide))))
noncomputable abbrev Div2 (prog:Program) (w:World) (g:Heap) (T:Tabs) (n:Nat):Prop:=∀ {x y z:Int},y≠0→sm y=true→(Builtin.Int.intBits x:Int) - z≤4000→ClV prog w g T n (Str.ofString "_div2n1n") [.int x,.int y,.int z] (.tup [.int (x.fdiv y),.int (x.fmod y)])
section
variable {prog:Program}{w:World}{g:Heap}{T:Tabs}{n:Nat}{b k:Nat}
theorem turn_dm {d r:Nat}{qs:List Nat}(k1:Div2 prog w g T n) (hb:1≤b) (hbk:b<2 ^ k) (hk:k≤400) (hd:d<2 ^ k) (hr:r<b) (hz:qs.length≤1000) :
  SxL prog w g T n (scopeOf (fn1 "_divmod_pos")) ((Str.ofString "a_digit",.val (.int d))::σdm b k r qs) (whBody (nth (bodyOf (fn1 "_divmod_pos")) 4))
   (.next ((Str.ofString "q_digits",.own (nsD qs++[.int ((r*2 ^ k+d) / b:Nat)]))::(Str.ofString "r",.val (.int ((r*2 ^ k+d) % b:Nat)))::(Str.ofString "q_digit",.val (.int ((r*2 ^ k+d) / b:Nat)))::(Str.ofString "a_digit",.val (.int d))::σdm b k r qs)):=by
 have e0:(r:Int)*2 ^ (k:Int).toNat+(d:Int)=((r*2 ^ k+d:Nat):Int):=by rw [Int.toNat_natCast,cast_pow, ← Int.natCast_mul, ← Int.natCast_add]
 have h3:(Builtin.Int.intBits ((r*2 ^ k+d:Nat):Int):Int) - (k:Int)≤4000:=by
  rw [intBits_nat]
  have:=nbits_le (Nat.lt_of_lt_of_le (step_lt hr hd) (Nat.le_trans (Nat.mul_le_mul_right _ (Nat.le_of_lt hbk)) (Nat.le_of_eq (Nat.pow_add 2 k k).symm)))
  lia
 have c:=k1 (x:=((r*2 ^ k+d:Nat):Int)) (y:=(b:Int)) (z:=(k:Int)) (by lia) (sm_bits hbk hk) h3
 rw [fdiv_nat,fmod_nat] at c
 refine SxL.cons (Sx.assignTup (b:=[(Str.ofString "q_digit",.int ((r*2 ^ k+d) / b:Nat)),(Str.ofString "r",.int ((r*2 ^ k+d) % b:Nat))]) (Ev.call rfl (EvL.more (fun _=>rfl) ?_ (EvL.more (fun _=>rfl) (Ev.name rfl) (EvL.more (fun _=>rfl) (Ev.name rfl) EvL.nil))) c) (fun _ _ _=>rfl) (fun _=>rfl) (.cons (.cons .nil)) (stAll_of rfl)) (SxL.cons (Sx.append (ds:=nsD qs) rfl (fun _=>rfl) rfl (Ev.name rfl) ?_) SxL.nil)
 ·exact e0▸Ev.bin (Ev.bin (Ev.name rfl) (Ev.name rfl) (bin_shl (by lia) (by lia) (sm_bits (Nat.lt_trans hr hbk) hk))) (Ev.name rfl) bin_add
 ·rw [List.length_map]; exact Nat.le_trans hz (by decide)
theorem for_dm (k1:Div2 prog w g T n) (hb:1≤b) (hbk:b<2 ^ k) (hk:k≤400) (ds:List Nat):∀ (r:Nat) (qs:List Nat),(∀ d∈ds,d<2 ^ k)→r<b→qs.length+ds.length≤1000 →
  ForR prog w g T n (scopeOf (fn1 "_divmod_pos")) (forTg (nth (bodyOf (fn1 "_divmod_pos")) 4)) (whBody (nth (bodyOf (fn1 "_divmod_pos")) 4)) (nsD ds) (σdm b k r qs) (.next (σdm b k (ldivR b k ds r) (qs++ldivQ b k ds r))):=by
 induction ds with
 | nil=>intro r qs _ _ _; exact (List.append_nil qs).symm▸ForR.nil
 | cons d ds ih =>
  intro r qs hd hr hz
  rw [List.length_cons] at hz
  have ih:=ih ((r*2 ^ k+d) % b) (qs++[(r*2 ^ k+d) / b]) (fun x hx=>hd x (.tail _ hx)) (Nat.mod_lt _ hb) (by rw [List.length_append,List.length_singleton]; lia)
  rw [List.append_assoc] at ih
  refine ForR.step Tg.name (stAll_of rfl) (turn_dm k1 hb hbk hk (hd d (.head _)) hr (Nat.le_trans (Nat.le_add_right ..) hz)) (ForR.weak ?_ ih)
  unfold σdm nsD
  rw [List.map_append]
  exact Sub.cons rfl (Sub.cons rfl (Sub.cons rfl (Sub.cons rfl Sub.nil)))
end
end
section
noncomputable def horn (k:Nat) (l:List Nat):Nat→Nat:=l.rec id fun d _ q r=>q (r*2 ^ k+d)
theorem horn_snoc (k x:Nat) (l:List Nat):∀ r:Nat,horn k (l++[x]) r=horn k l r*2 ^ k+x:=by
 induction l with
 | nil=>exact fun _=>rfl
 | cons d l ih=>exact fun r=>ih _
theorem dval_horn (k:Nat) (l:List Nat):dval k (l.map fun (d:Nat)=>(d:Int))=(horn k l.reverse 0:Nat):=by
 induction l with
 | nil=>rfl
 | cons d l ih=>rw [List.map_cons,dval,ih,List.reverse_cons,horn_snoc,cast_pow, ← Int.natCast_mul,Int.add_comm]; rfl
section
variable {b k:Nat}(hb:1≤b) (ds:List Nat)
include hb
theorem ldiv_val:∀ r q:Nat,horn k ds (b*q+r)=b*horn k (ldivQ b k ds r) q+ldivR b k ds r:=by
 induction ds with
 | nil=>exact fun _ _=>rfl
 | cons d ds ih =>
  intro r q
  refine (congrArg (horn k ds) ?_).trans (ih ((r*2 ^ k+d) % b) (q*2 ^ k+(r*2 ^ k+d) / b))
  have h:=Nat.div_add_mod (r*2 ^ k+d) b
  rw [Nat.add_mul,Nat.mul_add,Nat.mul_assoc,Nat.add_assoc,Nat.add_assoc,h]
theorem ldivR_lt:∀ r,r<b→ldivR b k ds r<b:=by
 induction ds with
 | nil=>exact fun _ h=>h
 | cons d ds ih=>exact fun r _=>ih _ (Nat.mod_lt _ hb)
theorem ldivQ_lt:∀ r,r<b→(∀ d∈ds,d<2 ^ k)→∀ q∈ldivQ b k ds r,q<2 ^ k:=by
 induction ds with
 | nil=>exact fun _ _ _ _ h=>nomatch h
 | cons d ds ih=>exact fun r hr hd q hq=>(List.mem_cons.mp hq).elim (fun e=>e▸Nat.div_lt_of_lt_mul (step_lt hr (hd d (.head _)))) (ih _ (Nat.mod_lt _ hb) (fun x hx=>hd x (.tail _ hx)) q)
omit hb
theorem ldivQ_length:∀ r,(ldivQ b k ds r).length=ds.length:=by
 induction ds with
 | nil=>exact fun _=>rfl
 | cons d ds ih=>exact fun r=>congrArg (· + 1) (ih _)
end
theorem ldiv_ok {a b k m:Nat}(hb:1≤b) (ha:a<2 ^ (k*m)):horn k (ldivQ b k (digs k m a).reverse 0) 0=a / b∧ldivR b k (digs k m a).reverse 0=a % b:=by
 have h1:horn k (digs k m a).reverse 0=a:=Int.ofNat.inj ((dval_horn k _).symm.trans (dval_digs k m a ha))
 have h2:=ldiv_val (k:=k) hb (digs k m a).reverse 0 0
 rw [Nat.mul_zero,Nat.add_zero,h1] at h2
 have h3:=ldivR_lt (k:=k) hb (digs k m a).reverse 0 hb
 have h4:=(Nat.div_mod_unique hb (a:=a)).mpr ⟨(Nat.add_comm ..).trans h2.symm,h3⟩
 exact ⟨h4.1.symm,h4.2.symm⟩
theorem ndig_le {a k:Nat}:k*ndig a k≤nbits a+k - 1:=Nat.mul_div_le _ _
theorem fns_dm:FnS (scopeOf (fn1 "_divmod_pos")) [Str.ofString "a",Str.ofString "b"]:=⟨⟨rfl,rfl,rfl,by decide +kernel⟩,by decide +kernel⟩
theorem nsD_rev (l:List Nat):(nsD l).reverse=nsD l.reverse:=List.map_reverse.symm
theorem nsD_ints (l:List Nat):nsD l=(l.map fun (d:Nat)=>(d:Int)).map D.int:=List.map_map.symm
section
variable {prog:Program}{w:World}{g:Heap}{T:Tabs}{n:Nat}
theorem cl_dm {a:Addr}{x y:Nat}(k1:Div2 prog w g T n)
  (k2:∀ {x k:Nat},1≤k→k≤400→ndig x k≤400→k*ndig x k≤450→ClV prog w g T n (Str.ofString "_int2digits") [.int x,.int k] (.lst (nsD (digs k (ndig x k) x))))
  (k3:∀ {l:List Int}{k:Nat},1≤k→k*l.length≤400→(∀ d∈l,0≤d∧d<2 ^ k)→ClV prog w g T n (Str.ofString "_digits2int") [.lst (l.map .int),.int k] (.int (dval k l)))
  (hrev:Glb g (Str.ofString "reversed") (.type "reversed")) (hf:FnAt g a (scopeOf (fn1 "_divmod_pos")) [Str.ofString "a",Str.ofString "b"] (bodyOf (fn1 "_divmod_pos"))) (hg:Glb g (Str.ofString "_divmod_pos") (.ref a)) (hx:x<2 ^ 150) (h1:1≤y) (hy:y<2 ^ 150) :
  ClV prog w g T (n+1) (Str.ofString "_divmod_pos") [.int x,.int y] (.tup [.int (x / y:Nat),.int (x % y:Nat)]):=by
 obtain ⟨k,hk⟩:∃ k,k=nbits y:=⟨_,rfl⟩
 obtain ⟨m,hm⟩:∃ m,m=ndig x k:=⟨_,rfl⟩
 have hyk:y<2 ^ k:=hk▸lt_nbits y
 have hk0:1≤k:=Nat.pos_of_ne_zero fun z=>by rw [z] at hyk; exact absurd h1 (Nat.not_le.mpr hyk)
 have hb1:=nbits_le hx
 have hb2:k≤150:=hk▸nbits_le hy
 have hnd:k*m≤299:=by have:=ndig_le (a:=x) (k:=k); rw [hm]; lia
 have hmm:m≤299:=Nat.le_trans (Nat.le_mul_of_pos_left _ hk0) hnd
 have ok:=ldiv_ok (a:=x) (m:=m) h1 (hm▸ndig_ok hk0)
 have hl:(digs k m x).reverse.length=m:=List.length_reverse.trans (digs_length k m x)
 have hq:=(ldivQ_length (b:=y) (k:=k) (digs k m x).reverse 0).trans hl
 have hlt:=ldivQ_lt h1 (digs k m x).reverse 0 h1 fun d hd=>digs_lt k m x d (List.mem_reverse.mp hd)
 have hbits:=mt_bits (prog:=prog) (w:=w) (g:=g) (T:=T) (n:=n) (a:=(y:Int))
 rw [intBits_nat, ← hk] at hbits
 have c2:=k2 (x:=x) hk0 (Nat.le_trans hb2 (by decide)) (hm▸Nat.le_trans hmm (by decide)) (hm▸Nat.le_trans hnd (by decide))
 rw [← hm] at c2
 obtain ⟨qs,e⟩:∃ qs,qs=ldivQ y k (digs k m x).reverse 0:=⟨_,rfl⟩
 have c3:=k3 (l:=qs.reverse.map fun (d:Nat)=>(d:Int)) (k:=k) hk0 (by rw [List.length_map,List.length_reverse,e,hq]; exact Nat.le_trans hnd (by decide)) fun d hd=>by
  obtain ⟨q,hq',rfl⟩:=List.mem_map.mp hd
  exact ⟨Int.natCast_nonneg q,by rw [cast_pow]; exact Int.ofNat_lt.mpr (hlt q (e▸List.mem_reverse.mp hq'))⟩
 rw [← nsD_ints,dval_horn,List.reverse_reverse,e,ok.1] at c3
 have loop:=for_dm k1 h1 hyk (Nat.le_trans hb2 (by decide)) (digs k m x).reverse 0 [] (fun d hd=>digs_lt k m x d (List.mem_reverse.mp hd)) h1 (by rw [hl,List.length_nil,Nat.zero_add]; exact Nat.le_trans hmm (by decide))
 rw [ok.2,List.nil_append] at loop
 refine .fn hg hf fns_dm rfl (SxL.cons (Sx.assign (Ev.meth0 (fun _=>rfl) rfl (Ev.name rfl) hbits) (fun _ _ _=>rfl) rfl) (SxL.cons (Sx.assign (Ev.call rfl (EvL.more (fun _=>rfl) (Ev.name rfl) (EvL.more (fun _=>rfl) (Ev.name rfl) EvL.nil)) c2) (fun _ _ _=>rfl) rfl)
  (SxL.cons (Sx.assign Ev.int (fun _ _ _=>rfl) rfl) (SxL.cons (Sx.assignOwn (EvO.list EvL.nil (Nat.zero_le _)) (fun _ _ _=>rfl) rfl) (SxL.cons (Sx.for (nsD_rev _▸EvI.rev rfl hrev (fun _ _=>rfl) (Ev.name rfl)) (fun _ _=>rfl) (ForR.weak ?_ loop))
  (SxL.cons (Sx.reverse (ds:=nsD (ldivQ y k (digs k m x).reverse 0)) rfl rfl ?_) (SxL.frz (x:=Str.ofString "q_digits") rfl (SxL.cons (Sx.assign (Ev.call rfl (EvL.more (fun _=>rfl) (Ev.name (congrArg (fun l=>some (Sl.val (D.lst l))) (nsD_rev _))) (EvL.more (fun _=>rfl) (Ev.name rfl) EvL.nil)) c3) (fun _ _ _=>rfl) rfl)
  (SxL.last (Sx.ret (Ev.tup (EvL.more (fun _=>rfl) (Ev.name rfl) (EvL.more (fun _=>rfl) (Ev.name rfl) EvL.nil)) (show (2:Nat)≤lim by decide))))))))))))
 ·exact Sub.cons rfl (Sub.cons rfl (Sub.cons rfl (Sub.cons rfl Sub.nil)))
 ·rw [List.length_map,hq]; exact Nat.le_trans hmm (by decide)
end
end
section
theorem not_div {a b:Int}(hb:0<b):Builtin.bitNot ((Builtin.bitNot a).fdiv b)=a.fdiv b∧b+Builtin.bitNot ((Builtin.bitNot a).fmod b)=a.fmod b:=by
 unfold Builtin.bitNot
 rw [Int.fdiv_eq_ediv_of_nonneg _ (Int.le_of_lt hb),Int.fdiv_eq_ediv_of_nonneg _ (Int.le_of_lt hb),Int.fmod_eq_emod_of_nonneg _ (Int.le_of_lt hb),Int.fmod_eq_emod_of_nonneg _ (Int.le_of_lt hb)]
 have h1:=Int.mul_ediv_add_emod a b
 have h2:=Int.emod_nonneg a (Int.ne_of_gt hb)
 have h3:=Int.emod_lt_of_pos a hb
 have k:=(Int.ediv_emod_unique (a := -a - 1) (b:=b) (r:=b - 1 - a % b) (q := -(a / b) - 1) hb).mpr ⟨by rw [Int.mul_sub,Int.mul_neg]; lia,by lia,by lia⟩
 rw [k.1,k.2]
 lia
theorem neg_div (a b:Int):(-a).fdiv (-b)=a.fdiv b ∧ -((-a).fmod (-b))=a.fmod b:=by
 have h1:(-a).fdiv (-b)=a.fdiv b:=Int.neg_fdiv_neg a b
 refine ⟨h1,?_⟩
 rw [Int.fmod_def,Int.fmod_def,h1,Int.neg_mul]
 lia
theorem not_small {a:Int}{m:Nat}(hx:a<0) (h:a.natAbs≤m):0≤Builtin.bitNot a∧(Builtin.bitNot a).natAbs≤m :=
 have h0:0 ≤ -a - 1:=Int.sub_nonneg_of_le (Int.neg_pos_of_neg hx)
 ⟨h0,Nat.le_trans (Int.ofNat_le.mp (by show ((-a - 1).natAbs:Int)≤_; rw [Int.natAbs_of_nonneg h0,Int.ofNat_natAbs_of_nonpos (Int.le_of_lt hx)]; exact Int.sub_le_self _ (by decide))) h⟩
theorem fns_id:FnS (scopeOf (fn1 "int_divmod")) [Str.ofString "a",Str.ofString "b"]:=⟨⟨rfl,rfl,rfl,by decide +kernel⟩,by decide +kernel⟩
noncomputable abbrev quo (a b:Int):D:=.tup [.int (a.fdiv b),.int (a.fmod b)]
section
variable {prog:Program}{w:World}{g:Heap}{T:Tabs}{n:Nat}{fa:Addr}{a b:Int}{d:D}
variable (hf:FnAt g fa (scopeOf (fn1 "int_divmod")) [Str.ofString "a",Str.ofString "b"] (bodyOf (fn1 "int_divmod"))) (hg:Glb g (Str.ofString "int_divmod") (.ref fa))
noncomputable abbrev σid (a b:Int):Sto:=params [Str.ofString "a",Str.ofString "b"] [.int a,.int b]
noncomputable abbrev id1:Stmt:=nth (bodyOf (fn1 "int_divmod")) 0
noncomputable abbrev id2:Stmt:=nth (stP id1).orelse 0
noncomputable abbrev id3:Stmt:=nth (stP id2).orelse 0
include hf hg
theorem id_of {c:Bool}(hb:b≠0) (hc:decide (b<0)=c) (h:SxL prog w g T (n+1) (scopeOf (fn1 "int_divmod")) (σid a b) (if c=true then (stP id2).body else (stP id2).orelse) (.ret d)):ClV prog w g T (n+2) (Str.ofString "int_divmod") [.int a,.int b] d :=
 .fn hg hf fns_id rfl (SxL.last (Sx.ite (b:=false) ((beq_eq_false_iff_ne.mpr hb:(b==0)=false)▸EvT.cmp (Ev.name rfl) Ev.int rfl cmp_eq) (SxL.last (Sx.ite (hc▸EvT.cmp (Ev.name rfl) Ev.int rfl cmp_lt) h))))
theorem id_up {c:Bool}(hb:0<b) (hc:decide (a<0)=c) (h:SxL prog w g T (n+1) (scopeOf (fn1 "int_divmod")) (σid a b) (if c=true then (stP id3).body else (stP id3).orelse) (.ret d)):ClV prog w g T (n+2) (Str.ofString "int_divmod") [.int a,.int b] d :=
 id_of hf hg (Int.ne_of_gt hb) (decide_eq_false (Int.not_lt.mpr (Int.le_of_lt hb))) (SxL.last (Sx.ite (hc▸EvT.cmp (Ev.name rfl) Ev.int rfl cmp_lt) h))
variable (k:∀ {x y:Nat},x<2 ^ 150→1≤y→y<2 ^ 150→ClV prog w g T (n+1) (Str.ofString "_divmod_pos") [.int x,.int y] (.tup [.int (x / y:Nat),.int (x % y:Nat)]))
include k
theorem id_pos (ha:0≤a) (hb:0<b) (h1:a.natAbs<2 ^ 149) (h2:b.natAbs<2 ^ 149):ClV prog w g T (n+2) (Str.ofString "int_divmod") [.int a,.int b] (quo a b):=by
 obtain ⟨x,rfl⟩:=Int.eq_ofNat_of_zero_le ha
 obtain ⟨y,rfl⟩:=Int.eq_ofNat_of_zero_le (Int.le_of_lt hb)
 have c:=k (x:=x) (y:=y) (Nat.lt_trans h1 (by decide)) (Int.ofNat_lt.mp hb) (Nat.lt_trans h2 (by decide))
 rw [← fdiv_nat, ← fmod_nat] at c
 exact id_up hf hg hb (decide_eq_false (Int.not_lt.mpr ha)) (SxL.last (Sx.ret (Ev.call rfl (EvL.more (fun _=>rfl) (Ev.name rfl) (EvL.more (fun _=>rfl) (Ev.name rfl) EvL.nil)) c)))
theorem id_any (hb:0<b) (h1:a.natAbs≤2 ^ 148) (h2:b.natAbs<2 ^ 149):ClV prog w g T (n+3) (Str.ofString "int_divmod") [.int a,.int b] (quo a b):=by
 by_cases hx:a<0
 ·have c:=id_pos hf hg k (a:=Builtin.bitNot a) (b:=b) (not_small hx h1).1 hb (Nat.lt_of_le_of_lt (not_small hx h1).2 (by decide)) h2
  have e:=not_div (a:=a) hb
  refine id_up hf hg hb (decide_eq_true hx) (SxL.retEq (SxL.cons (Sx.assignTup (b:=[(Str.ofString "q",.int ((Builtin.bitNot a).fdiv b)),(Str.ofString "r",.int ((Builtin.bitNot a).fmod b))]) (Ev.call rfl (EvL.more (fun _=>rfl) (Ev.inv (Ev.name rfl)) (EvL.more (fun _=>rfl) (Ev.name rfl) EvL.nil)) c) (fun _ _ _=>rfl) (fun _=>rfl) (.cons (.cons .nil)) (stAll_of rfl))
   (SxL.last (Sx.ret (Ev.tup (EvL.more (fun _=>rfl) (Ev.inv (Ev.name rfl)) (EvL.more (fun _=>rfl) (Ev.bin (Ev.name rfl) (Ev.inv (Ev.name rfl)) bin_add) EvL.nil)) (show (2:Nat)≤lim by decide))))) ?_)
  rw [e.1,e.2]
 ·exact (id_pos hf hg k (Int.not_lt.mp hx) hb (Nat.lt_of_le_of_lt h1 (by decide)) h2).mono (Nat.le_succ _)
theorem cl_id (h0:b≠0) (h1:a.natAbs≤2 ^ 148) (h2:b.natAbs<2 ^ 149):ClV prog w g T (n+4) (Str.ofString "int_divmod") [.int a,.int b] (quo a b):=by
 by_cases hb:b<0
 ·have c:=id_any hf hg k (a := -a) (b := -b) (Int.neg_pos_of_neg hb) (by rwa [Int.natAbs_neg]) (by rwa [Int.natAbs_neg])
  have e:=neg_div a b
  refine id_of hf hg h0 (decide_eq_true hb) (SxL.retEq (SxL.cons (Sx.assignTup (b:=[(Str.ofString "q",.int ((-a).fdiv (-b))),(Str.ofString "r",.int ((-a).fmod (-b)))]) (Ev.call rfl (EvL.more (fun _=>rfl) (Ev.neg (Ev.name rfl)) (EvL.more (fun _=>rfl) (Ev.neg (Ev.name rfl)) EvL.nil)) c) (fun _ _ _=>rfl) (fun _=>rfl) (.cons (.cons .nil)) (stAll_of rfl))
   (SxL.last (Sx.ret (Ev.tup (EvL.more (fun _=>rfl) (Ev.name rfl) (EvL.more (fun _=>rfl) (Ev.neg (Ev.name rfl)) EvL.nil)) (show (2:Nat)≤lim by decide))))) ?_)
  rw [e.1,e.2]
 ·exact (id_any hf hg k (Int.lt_iff_le_and_ne.mpr ⟨Int.not_lt.mp hb,h0.symm⟩) h1 h2).mono (Nat.le_succ _)
end
end
section
theorem fns_torn:FnS (scopeOf (fn1 "_law_torn")) [Str.ofString "held",Str.ofString "whole",Str.ofString "way"]:=⟨⟨rfl,rfl,rfl,by decide +kernel⟩,by decide +kernel⟩
theorem quo_eq {a b c d:Int}(h1:a=c) (h2:b=d):D.tup [.int a,.int b]=.tup [.int c,.int d]:=h1▸h2▸rfl
noncomputable def pick3 {α:Type}(way:Nat) (a b c:α):α:=match way with | 0=>a | 1=>b | _=>c
theorem pick3_all {α:Type}{P:α→Prop}{way:Nat}{a b c:α}(ha:P a) (hb:P b) (hc:P c):P (pick3 way a b c):=match way with | 0=>ha | 1=>hb | _+2=>hc
theorem pick3_get {a b c:Int}{k:Nat}(h:k<3):([D.int a,.int b,.int c]:List D)[k]?=some (.int (pick3 k a b c)):=by
 cases k with
 | zero=>rfl
 | succ k=>cases k with
  | zero=>rfl
  | succ k=>cases Nat.lt_one_iff.mp (Nat.lt_of_succ_lt_succ (Nat.lt_of_succ_lt_succ h)); rfl
section
variable {prog:Program}{w:World}{g:Heap}{T:Tabs}{n:Nat}{sc:Scope}{σ:Sto}
theorem ev_pick3 {e1 e2 e3 we:Expr}{p1 p2:Pos}{way:Nat}{a b c:Int}(hw:Ev prog w g T n sc σ we (.int (way:Int))) (hn:NoSl we) (h:way<3) (h1:EvL prog w g T n sc σ [e1,e2,e3] [.int a,.int b,.int c]):Ev prog w g T n sc σ (.Subscript (.List [e1,e2,e3] p1) we p2) (.int (pick3 way a b c)) :=
 Ev.item (Ev.list h1 (show (3:Nat)≤lim by decide)) hw hn (item_at rfl (small_of (Nat.le_trans (Nat.le_of_lt h) (by decide))) (pick3_get h))
theorem ev3 {e1 e2 e3:Expr}{a b c:D}(s1:∀ env,starEach [e1,e2,e3] env=(false,eval e1 env)::starEach [e2,e3] env) (s2:∀ env,starEach [e2,e3] env=(false,eval e2 env)::starEach [e3] env) (s3:∀ env,starEach [e3] env=(false,eval e3 env)::starEach [] env)
  (h1:Ev prog w g T n sc σ e1 a) (h2:Ev prog w g T n sc σ e2 b) (h3:Ev prog w g T n sc σ e3 c):EvL prog w g T n sc σ [e1,e2,e3] [a,b,c]:=.more s1 h1 (.more s2 h2 (.more s3 h3 .nil))
theorem cl_torn {fa:Addr}{h x:Int}{way:Nat}(k:∀ {a b:Int},b≠0→a.natAbs≤2 ^ 148→b.natAbs<2 ^ 149→ClV prog w g T n (Str.ofString "int_divmod") [.int a,.int b] (quo a b)) (hf:FnAt g fa (scopeOf (fn1 "_law_torn")) [Str.ofString "held",Str.ofString "whole",Str.ofString "way"] (bodyOf (fn1 "_law_torn"))) (hg:Glb g (Str.ofString "_law_torn") (.ref fa))
  (hx:0<x) (h1:h.natAbs<2 ^ 148) (h2:x.natAbs<2 ^ 149) (hw:way<3):ClV prog w g T (n+1) (Str.ofString "_law_torn") [.int h,.int x,.int way] (quo h x):=by
 obtain ⟨A,eA⟩:∃ A,A=pick3 way h (-h) (-1 - h):=⟨_,rfl⟩
 obtain ⟨B,eB⟩:∃ B,B=pick3 way x (-x) x:=⟨_,rfl⟩
 have c:=k (a:=A) (b:=B) (eB▸pick3_all (P:=(· ≠ 0)) (Int.ne_of_gt hx) (Int.neg_ne_zero.mpr (Int.ne_of_gt hx)) (Int.ne_of_gt hx)) (eA▸pick3_all (P:=fun z:Int=>z.natAbs≤2 ^ 148) (Nat.le_of_lt h1) ((Int.natAbs_neg h).symm▸Nat.le_of_lt h1) (Nat.le_trans (Int.natAbs_sub_le (-1) h) (Nat.add_comm _ _▸h1))) (eB▸pick3_all (P:=fun z:Int=>z.natAbs<2 ^ 149) h2 ((Int.natAbs_neg x).symm▸h2) h2)
 refine .fn hg hf fns_torn rfl (SxL.retEq (SxL.cons (Sx.assignTup (b:=[(Str.ofString "goes",.int (A.fdiv B)),(Str.ofString "torn",.int (A.fmod B))]) (Ev.call rfl (EvL.more (fun _=>rfl) (eA▸ev_pick3 (Ev.name rfl) (fun _ _=>rfl) hw (ev3 (fun _=>rfl) (fun _=>rfl) (fun _=>rfl) (Ev.name rfl) (Ev.neg (Ev.name rfl)) (Ev.bin (Ev.neg Ev.int) (Ev.name rfl) bin_sub))) (EvL.more (fun _=>rfl) (eB▸ev_pick3 (Ev.name rfl) (fun _ _=>rfl) hw (ev3 (fun _=>rfl) (fun _=>rfl) (fun _=>rfl) (Ev.name rfl) (Ev.neg (Ev.name rfl)) (Ev.name rfl))) EvL.nil)) c) (fun _ _ _=>rfl) (fun _=>rfl) (.cons (.cons .nil)) (stAll_of rfl))
  (SxL.last (Sx.ret (Ev.tup (EvL.more (fun _=>rfl) (ev_pick3 (Ev.name rfl) (fun _ _=>rfl) hw (ev3 (fun _=>rfl) (fun _=>rfl) (fun _=>rfl) (Ev.name rfl) (Ev.name rfl) (Ev.bin (Ev.neg Ev.int) (Ev.name rfl) bin_sub)))
   (EvL.more (fun _=>rfl) (ev_pick3 (Ev.name rfl) (fun _ _=>rfl) hw (ev3 (fun _=>rfl) (fun _=>rfl) (fun _=>rfl) (Ev.name rfl) (Ev.neg (Ev.name rfl)) (Ev.bin (Ev.bin (Ev.name rfl) Ev.int bin_sub) (Ev.name rfl) bin_sub))) EvL.nil)) (show (2:Nat)≤lim by decide))))) ?_)
 subst eA eB
 have d:=neg_div h x
 have d3:=not_div (a:=h) hx
 rw [show Builtin.bitNot h = -1 - h by unfold Builtin.bitNot; lia] at d3
 unfold Builtin.bitNot at d3
 clear c h1 h2 hw k
 cases way with
 | zero=>rfl
 | succ way=>cases way with
  | zero=>exact quo_eq d.1 d.2
  | succ way=>exact quo_eq (((Int.sub_eq_add_neg ..).trans (Int.add_comm ..)).trans ((Int.sub_eq_add_neg ..).symm.trans d3.1)) ((show x - 1 - (-1 - h).fmod x=x+(-(-1 - h).fmod x - 1) by lia).trans d3.2)
end
end
section
structure Wo (ι:Type) where
 av:List Addr
 P:Addr→Prop
 U:Addr→Prop
 Ω:ι→Heap→Prop
structure Wo.Ok {ι:Type}(W:Wo ι) (g:Heap):Prop where
 up:∀ b,W.U b→W.P b
 off:∀ b,W.U b→g.get? b=none
 obj:∀ i h,W.Ω i h→∀ b,W.P b→∃ o,h.get? b=some o∧NT o
 seq:∀ i h,W.Ω i h→∀ b o,W.U b→h.get? b=some o→SeqObj o→b∈W.av
 st:∀ i h h',W.Ω i h→(∀ b o,W.P b→h.get? b=some o→h'.get? b=some o)→TupK h h'→W.Ω i h'
structure FmW {ι:Type}(W:Wo ι) (g:Heap) (T:Tabs) (ow:Ow) (env:Env) (σ:Sto) (s:Shared) (i:ι):Prop where
 F:Fm g T W.av ow env σ s
 w:W.Ω i s.heap
 nw:∀ b,W.P b→¬ Wr env ow b
 cl:∀ x c,env.cells.lookup x=some c→¬ W.U c
inductive OutU {ι:Type}(W:Wo ι) (g:Heap) (T:Tabs) (av:List Addr) (s:Shared) (d:D) (j:ι):Value→Shared→Prop
 | mk {v:Value}{s':Shared}(m:Mv g T W.U s s') (r:VD av s'.heap v d) (w:W.Ω j s'.heap):OutU W g T av s d j v s'
inductive MtU {ι:Type}(W:Wo ι) (g:Heap) (T:Tabs) (ow:Ow) (env:Env) (s:Shared):Rz→ι→Flow→Shared→Prop
 | next {σ:Sto}{j:ι}{s':Shared}(n:NxU W.U g T W.av ow env s σ s') (w:W.Ω j s'.heap):MtU W g T ow env s (.next σ) j .next s'
 | ret {d:D}{j:ι}{v:Value}{s':Shared}(r:VD W.av s'.heap v d) (m:Mv g T (fun b=>Wr env ow b∨W.U b) s s') (w:W.Ω j s'.heap):MtU W g T ow env s (.ret d) j (.ret v) s'
section
variable {ι:Type}(prog:Program) (w:World) (g:Heap) (T:Tabs) (n:Nat) (sc:Scope) (W:Wo ι) (i:ι) (σ:Sto)
noncomputable def EvU (e:Expr) (d:D) (j:ι):Prop:=∀ (A:Around) (s:Shared) (ow:Ow) (env:Env),env.scope=sc→Rm n A→FmW W g T ow env σ s i→wpAny (model prog w) A (eval e env) (OutU W g T (ow.adr++W.av) s d j) NoE s
noncomputable def SxU (st:Stmt) (R:Rz) (j:ι):Prop:=∀ (A:Around) (s:Shared) (ow:Ow) (env:Env),env.scope=sc→ow.c=cellNames sc.names→Rm n A→FmW W g T ow env σ s i→wpAny (model prog w) A (exec st env) (MtU W g T ow env s R j) NoE s
noncomputable def SxUL (sts:List Stmt) (R:Rz) (j:ι):Prop:=∀ (A:Around) (s:Shared) (ow:Ow) (env:Env),env.scope=sc→ow.c=cellNames sc.names→Rm n A→FmW W g T ow env σ s i→wpAny (model prog w) A (execs sts env) (MtU W g T ow env s R j) NoE s
noncomputable abbrev Over (φ:Heap→Prop):Prop:=∀ g':Heap,(∀ b o,g.get? b=some o→g'.get? b=some o)→W.Ω i g'→φ g'
end
section
variable {ι:Type}{prog:Program}{w:World}{g g':Heap}{T:Tabs}{n:Nat}{sc:Scope}{W:Wo ι}{i j k:ι}{σ σ₁:Sto}{A:Around}{s s' s'' s₁:Shared}{ow ow':Ow}{env:Env}{e t:Expr}{es:List Expr}{d:D}{R:Rz}{st:Stmt}{sts body orelse:List Stmt}{pos p:Pos}{x:Str}{fl:Flow}{av:List Addr}
theorem Wo.Ok.mv (ok:W.Ok g) {Z:Addr→Prop}(m:Mv g T Z s s') (q:GK g T s) (w:W.Ω i s.heap) (hZ:∀ b,Z b→¬ W.P b) (tk:TupK s.heap s'.heap):W.Ω i s'.heap :=
 ok.st i _ _ w (fun b o hp e=>(ok.obj i _ w b hp).elim fun o' z=>m.get' q e (fun hz=>hZ b hz hp) (sinj z.1 e▸z.2)) tk
theorem Wo.Ok.ext (ok:W.Ok g) (m:Ext g T s s') (q:GK g T s) (w:W.Ω i s.heap):W.Ω i s'.heap:=ok.mv (Z:=fun _=>False) m.mv q w (fun _ f=>f.elim) fun _ _ _ e=>m.get' q e (nt_tup _ _)
theorem FmW.ext (ok:W.Ok g) (Z:FmW W g T ow env σ s i) (m:Ext g T s s'):FmW W g T ow env σ s' i:=⟨Z.F.ext m,ok.ext m Z.F.gk Z.w,Z.nw,Z.cl⟩
theorem FmW.out (ok:W.Ok g) (Z:FmW W g T ow env σ s i) (m:Mv g T W.U s s') (w:W.Ω j s'.heap):FmW W g T ow env σ s' j :=
 ⟨Z.F.beside m (fun b hb u=>Z.nw b (ok.up b u) (.inr (.inr hb))) (fun b o e q u=>ok.seq i _ Z.w b o u e q) (fun u=>Z.nw _ (ok.up _ u) (.inl rfl)) Z.cl fun b _ u=>ok.obj j _ w b (ok.up b u),w,Z.nw,Z.cl⟩
theorem FmW.nx (ok:W.Ok g) (Z:FmW W g T ow env σ s i) (F:Fm g T W.av ow' env σ₁ s') (hw:∀ b,Wr env ow' b→Wr env ow b∨s.heap.get? b=none) (w:W.Ω j s'.heap):FmW W g T ow' env σ₁ s' j :=
 ⟨F,w,fun b hp hb=>(hw b hb).elim (Z.nw b hp) fun q=>(ok.obj i _ Z.w b hp).elim fun o z=>nos q z.1,Z.cl⟩
theorem FmW.has (ok:W.Ok g) (Z:FmW W g T ow env σ s i):∀ b,W.U b→s.heap.get? b≠none:=fun b u q=>(ok.obj i _ Z.w b (ok.up b u)).elim fun o z=>nos q z.1
theorem MtU.then (hU:∀ b,W.U b→s₁.heap.get? b≠none) (c:ow'.c=ow.c) (q:GK g T s₁) (m:Mv g T (fun b=>Wr env ow b∨W.U b) s s₁) (hw:∀ b,Wr env ow' b→Wr env ow b∨s.heap.get? b=none) (h:MtU W g T ow' env s₁ R j fl s''):MtU W g T ow env s R j fl s'':=by
 cases h with
 | next n w=>exact .next (.then c q m hw hU n) w
 | ret r m' w=>exact .ret r (m.trans m' fun b hb=>hb.elim (fun z=>(hw b z).imp .inl id) fun z=>.inl (.inr z)) w
theorem MtU.out (hU:∀ b,W.U b→s₁.heap.get? b≠none) (q:GK g T s₁) (m:Mv g T W.U s s₁) (h:MtU W g T ow env s₁ R j fl s''):MtU W g T ow env s R j fl s'':=h.then hU rfl q (m.sub fun _ hb=>.inl (.inr hb)) fun _ hb=>.inl hb
theorem SxUL.nil:SxUL prog w g T n sc W i σ [] (.next σ) i:=fun A s ow env he hc rm Z=>wpAny_execs_nil (.next (.of_nx (.of_ext Z.F .refl)) Z.w)
theorem SxUL.cons (ok:W.Ok g) (h:SxU prog w g T n sc W i σ st (.next σ₁) j) (hs:SxUL prog w g T n sc W j σ₁ sts R k):SxUL prog w g T n sc W i σ (st::sts) R k:=fun A s ow env he hc rm Z =>
 wpAny_execs_cons (wp_to (h A s ow env he hc rm Z) fun fl s₁ h₁=>by
  cases h₁ with | next n wj =>
  cases n with | mk ow' c F m hw =>
  have Z':=Z.nx ok F hw wj
  exact wp_to (hs A s₁ ow' env he (c.trans hc) rm Z') fun fl s₂ h₂=>h₂.then (Z'.has ok) c F.gk m hw)
theorem SxUL.last (h:SxU prog w g T n sc W i σ st (.ret d) j):SxUL prog w g T n sc W i σ (st::sts) (.ret d) j:=fun A s ow env he hc rm Z =>
 wpAny_execs_cons (wp_to (h A s ow env he hc rm Z) fun fl s₁ h₁=>by cases h₁ with | ret r m wj=>exact .ret r m wj)
theorem SxUL.pre (hs:Sub σ₁ σ) (h:SxUL prog w g T n sc W i σ₁ sts R j):SxUL prog w g T n sc W i σ sts R j:=fun A s ow env he hc rm Z=>h A s ow env he hc rm { Z with F:=Z.F.weak hs }
theorem FmW.over {φ:Heap→Prop}(ok:W.Ok g) (q:GK g T s) (w:W.Ω i s.heap) (h:Over g W i φ):φ (coreH T s.heap):=h _ q.sub (ok.st i _ _ w (fun b o hp e=>(ok.obj i _ w b hp).elim fun o' z=>q.core_get e (sinj z.1 e▸z.2)) fun _ _ _ e=>q.core_get e (nt_tup _ _))
theorem EvU.gnd (ok:W.Ok g) (h:Over g W i fun g'=>Ev prog w g' T n sc σ e d):EvU prog w g T n sc W i σ e d i:=fun A s ow env he rm Z =>
 wp_to (Ev.core (FmW.over ok Z.F.gk Z.w h) he rm Z.F.gk Z.F.ec) fun v s' h=>⟨h.1.mv,h.2,ok.ext h.1 Z.F.gk Z.w⟩
theorem SxU.ite {b:Bool}(ok:W.Ok g) (ht:Over g W i fun g'=>EvT prog w g' T n sc (froz σ) t b) (hb:SxUL prog w g T n sc W i σ (if b then body else orelse) R j):SxU prog w g T n sc W i σ (.If t body orelse pos) R j:=fun A s ow env he hoc rm Z =>
 wpAny_If (wp_to (FmW.over ok Z.F.gk Z.w ht A s _ env he rm (Z.F.gk.core .refl) Z.F.froz) fun c s₁ h₁=>by
  obtain ⟨rfl,x₁⟩:=h₁
  have x:=x₁.base (g:=g) (Z.F.gk.core .refl)
  have Z':=Z.ext ok x
  cases c <;> exact wp_to (hb A s₁ ow env he hoc rm Z') fun fl s₂ h₂=>h₂.out (Z'.has ok) Z'.F.gk x.mv)
theorem SxU.expr (ok:W.Ok g) (h:EvU prog w g T n sc W i σ e d j) (hc:NoC e):SxU prog w g T n sc W i σ (.Expr e pos) (.next σ) j:=fun A s ow env he hoc rm Z =>
 wpAny_Expr_any (wp_to (h A s ow env he rm Z) fun v s₁ h₁=>by
  cases h₁ with | mk m r wj=>exact .next ⟨ow,rfl,(Z.out ok m wj).F,m.sub fun _ hb=>.inl (.inr hb),fun _ hb=>.inl hb⟩ wj) (interactive_no Z.F) (hc _ _ _)
theorem frame_tup (F:Fm g T av ow env σ s) (m:Mv g T (Wr env ow) s s'):TupK s.heap s'.heap:=F.tupK m fun _ hb=>hb
theorem SxU.assign (ok:W.Ok g) (h:EvU prog w g T n sc W i σ e d j) (hc:NoC e) (hx:stOk sc (cellNames sc.names) x=true):SxU prog w g T n sc W i σ (.Assign [.Name x p] e pos) (.next ((x,.val d)::σ)) j:=fun A s ow env he hoc rm Z =>
 wpAny_Assign_Name (wp_to (h A s ow env he rm Z) fun v s₁ h₁=>by
  cases h₁ with | mk m r wj =>
  have Z':=Z.out ok m wj
  exact wp_to (wp_store Z'.F (canst Z'.F.ec he (hoc.symm▸hx)) r) fun _ s₂ h₂=>.next ⟨ow.drop x,rfl,h₂.F,Mv.trans (m.sub fun _ hb=>.inl (.inr hb)) h₂.m fun _ hb=>.inl (.inl hb),fun _ hb=>.inl hb.drop⟩ (ok.mv h₂.m Z'.F.gk wj (fun b hb hp=>Z'.nw b hp hb) (frame_tup Z'.F h₂.m))) (hc _ _ _)
theorem SxU.assignTup {ts:List Expr}{kk:Nat}{b:Bd}{ds:List D}(ok:W.Ok g) (h:EvU prog w g T n sc W i σ e (.tup ds) j) (hc:NoC e) (hnt:NoSw ts kk p e) (ht:TgEach ts ds b) (hst:stAll sc (cellNames sc.names) b):SxU prog w g T n sc W i σ (.Assign [.Tuple ts kk p] e pos) (.next (bindAll b σ)) j:=fun A s ow env he hoc rm Z =>
 Assign_Tuple (wp_to (h A s ow env he rm Z) fun v s₁ h₁=>by
  cases h₁ with | mk m r wj =>
  have Z':=Z.out ok m wj
  refine wp_to (wp_assign rm.hand he Z'.F (.tup ht) (hoc.symm▸hst) r) fun _ s₂ h₂=>?_
  cases h₂ with | mk ow' c F₂ m₂ hw l=>exact .next ⟨ow',c,F₂,Mv.trans (m.sub fun _ hb=>.inl (.inr hb)) m₂ fun _ hb=>.inl (.inl hb),fun b hb=>.inl (hw b hb)⟩ (ok.mv m₂ Z'.F.gk wj (fun b hb hp=>Z'.nw b hp hb) (frame_tup Z'.F m₂))) (show swapsWith e (some (.Tuple ts kk p)) pos.line env=pure false from hc _ _ _) (hnt env)
theorem SxU.ret (h:EvU prog w g T n sc W i σ e d j):SxU prog w g T n sc W i σ (.Return (some e) pos) (.ret d) j:=fun A s ow env he hoc rm Z =>
 wpAny_Return_some (wp_to (h A s ow env he rm Z) fun v s₁ h₁=>by cases h₁ with | mk m r wj=>exact .ret (VD.sub (fun a ha=>List.mem_append_right _ ha) r) (m.sub fun _ hb=>.inl (.inr hb)) wj)
theorem SxU.ret0:SxU prog w g T n sc W i σ (.Return none pos) (.ret .none) i:=fun A s ow env he hoc rm Z=>wpAny_Return_none (.ret .none .refl Z.w)
end
end
section
section
variable {g g':Heap}{T:Tabs}{av:List Addr}{ow:Ow}{env:Env}{σ:Sto}{s s':Shared}{b:Addr}{o:Obj}{x:Str}{v:Value}
theorem up_no (up:∀ b o,g.get? b=some o→g'.get? b=some o) (h:g'.get? b=none):g.get? b=none:=none_of fun o e=>nos h (up b o e)
theorem GK.down (up:∀ b o,g.get? b=some o→g'.get? b=some o) (q:GK g' T s):GK g T s:=⟨fun b o e=>q.keep b o (up b o e),q.tabs,fun p hp=>up_no up (q.off p hp),q.bare⟩
theorem Fm.down (up:∀ b o,g.get? b=some o→g'.get? b=some o) (F:Fm g' T av ow env σ s):Fm g T av ow env σ s:={ F with gk:=F.gk.down up,off:=fun b hb=>up_no up (F.off b hb) }
theorem Glb.up (up:∀ b o,g.get? b=some o→g'.get? b=some o) (l:Glb g x v):Glb g' x v:=by
 cases l with
 | glob o m n e=>exact .glob o m (n.keeps up) e
 | blt o m b n e n' e'=>exact .blt o m b (n.keeps up) e (n'.keeps up) e'
theorem Ext.rise (up:∀ b o,g.get? b=some o→g'.get? b=some o) (x:Ext g T s s'):Ext g' T s s' :=
 ⟨x.dr,x.os,x.keep,fun q=>⟨fun b o e=>x.keep b o (q.keep b o e) fun p hp z=>nos (q.off p hp) (z▸e),(x.gk (q.down up)).tabs,q.off,(x.gk (q.down up)).bare⟩⟩
noncomputable def wrL (env:Env) (ow:Ow):List Addr:=env.locals::(ow.c.filterMap (fun x=>if env.kindOf x=some .cell then env.cells.lookup x else none)++ow.adr)
theorem wrL_iff:b∈wrL env ow↔Wr env ow b:=by
 unfold wrL Wr
 rw [List.mem_cons,List.mem_append,List.mem_filterMap]
 refine or_congr Iff.rfl (or_congr ⟨?_,?_⟩ Iff.rfl)
 ·rintro ⟨x,hx,e⟩
  by_cases k:env.kindOf x=some .cell
  ·rw [if_pos k] at e; exact ⟨x,hx,k,e⟩
  ·rw [if_neg k] at e; exact nomatch e
 ·rintro ⟨x,hx,k,e⟩
  exact ⟨x,hx,(if_pos k).trans e⟩
noncomputable abbrev hidT (T:Tabs) (env:Env) (ow:Ow):Tabs:=T++(wrL env ow).map fun b=>(b,Str.empty)
theorem hid_off (h:Off (hidT T env ow) b):Off T b∧¬ Wr env ow b:=⟨fun p hp=>h p (List.mem_append_left _ hp),fun hw=>h (b,Str.empty) (List.mem_append_right _ (List.mem_map.mpr ⟨b,wrL_iff.mpr hw,rfl⟩)) rfl⟩
theorem hid_get (h1:Off T b) (h2:¬ Wr env ow b) (e:s.heap.get? b=some o):(coreH (hidT T env ow) s.heap).get? b=some o:=(core_off fun p hp z=>(List.mem_append.mp hp).elim (fun q=>h1 p q z) fun q=>let ⟨c,hc,e⟩:=List.mem_map.mp q; h2 (wrL_iff.mp (z▸e▸hc))).trans e
structure Gnd (g g':Heap) (T:Tabs) (av:List Addr) (ow:Ow) (env:Env) (σ:Sto) (s:Shared):Prop where
 up:∀ b o,g.get? b=some o→g'.get? b=some o
 F:Fm g' T av ow env σ s
 get:∀ b o,s.heap.get? b=some o→¬ Wr env ow b→NT o→g'.get? b=some o
theorem Fm.gnd (F:Fm g T av ow env σ s):Gnd g (coreH (hidT T env ow) s.heap) T av ow env σ s:=by
 refine ⟨fun b o e=>hid_get (fun p hp z=>nos (F.gk.off p hp) (z▸e)) (fun hw=>nos (F.off b hw) e) (F.gk.keep b o e),{ F with gk:=⟨fun b o e=>(core_some e).2,F.gk.tabs,fun p hp=>core_tab (List.mem_append_left _ hp),F.gk.bare⟩,off:=fun b hb=>none_of fun o e=>(hid_off (core_some e).1).2 hb },fun b o e hw nt=>hid_get (F.gk.away e nt) hw e⟩
end
section
variable {ι:Type}{prog:Program}{w:World}{g g':Heap}{T:Tabs}{n:Nat}{sc:Scope}{W:Wo ι}{i j k:ι}{σ σ₁:Sto}{A:Around}{s s' s'' s₁:Shared}{ow ow':Ow}{env:Env}{tg iter:Expr}{R:Rz}{st:Stmt}{sts body orelse:List Stmt}{pos:Pos}{ds:List D}{N B:Sto→Prop}{av:List Addr}
theorem FmW.gw (ok:W.Ok g) (Z:FmW W g T ow env σ s i) (G:Gnd g g' T W.av ow env σ s):W.Ω i g' :=
 ok.st i _ _ Z.w (fun b o hp e=>(ok.obj i _ Z.w b hp).elim fun o' z=>G.get b o e (Z.nw b hp) (sinj z.1 e▸z.2)) fun a _ _ e=>G.get a _ e (fun hw=>(Z.F.isl a (Z.F.wlst e ⟨_,_,.inl rfl⟩ hw)).elim fun _ p=>p.elim fun _ e'=>disc tgP (e.symm.trans e') rfl) (nt_tup _ _)
theorem Nx.down (ok:W.Ok g) (Z:FmW W g T ow env σ s i) (G:Gnd g g' T W.av ow env σ s) (h:Nx g' T W.av ow env s σ₁ s'):MtU W g T ow env s (.next σ₁) i .next s':=by
 cases h with | mk ow' c F m hw=>exact .next ⟨ow',c,F.down G.up,(m.base G.F.gk Z.F.off).sub fun _ hb=>.inl (.inl hb),hw⟩ (ok.st i _ _ (Z.gw ok G) (fun b o _ e=>F.gk.keep b o e) fun a us k e=>F.gk.keep a _ e)
theorem SxU.next (ok:W.Ok g) (h:Over g W i fun g'=>Sx prog w g' T n sc σ st (.next σ₁)):SxU prog w g T n sc W i σ st (.next σ₁) i:=fun A s ow env he hoc rm Z=>by
 have G:=Z.F.gnd
 exact wp_to (h _ G.up (Z.gw ok G) A s _ ow env he hoc rm G.F) fun fl s' h=>by cases h with | next nx=>exact nx.down ok Z G
structure LoopV (prog:Program) (w:World) (g':Heap) (T:Tabs) (n:Nat) (sc:Scope) (tg iter:Expr) (body:List Stmt) (ds:List D) (N B:Sto→Prop) (σ:Sto):Prop where
 it:EvI prog w g' T n sc σ tg iter ds
 lp:ForG prog w g' T n sc tg body N B (fun _=>False) ds σ
theorem SxU.forN (ok:W.Ok g) (hsd:NoSet iter) (h:Over g W i fun g'=>LoopV prog w g' T n sc tg iter body ds (· = σ₁) (fun _=>False) σ) (hs:SxUL prog w g T n sc W i σ₁ orelse R j):SxU prog w g T n sc W i σ (.For tg iter body orelse pos) R j:=fun A s ow env he hoc rm Z=>by
 have G:=Z.F.gnd
 have L:=h _ G.up (Z.gw ok G)
 refine wp_forG L.lp L.it hsd he hoc rm G.F (fun σ' s' e nx=>?_) (fun _ _ f=>f.elim) fun _ _ _ f=>f.elim
 subst e
 have m:=nx.down ok Z G
 cases m with | next n wj =>
 cases n with | mk ow' c F m hw =>
 have Z':=Z.nx ok F hw wj
 exact wp_to (hs A s' ow' env he (c.trans hoc) rm Z') fun fl s₂ h₂=>h₂.then (Z'.has ok) c F.gk m hw
theorem Sx.forB (hsd:NoSet iter) (L:LoopV prog w g T n sc tg iter body ds (fun _=>False) (· = σ₁) σ):Sx prog w g T n sc σ (.For tg iter body orelse pos) (.next σ₁):=fun A s av ow env he hoc rm F =>
 wp_forG L.lp L.it hsd he hoc rm F (fun _ _ f=>f.elim) (fun _ _ e nx=>e▸.next nx) fun _ _ _ f=>f.elim
theorem Sx.forN (hsd:NoSet iter) (L:LoopV prog w g T n sc tg iter body ds (· = σ₁) (fun _=>False) σ) (hs:SxL prog w g T n sc σ₁ orelse R):Sx prog w g T n sc σ (.For tg iter body orelse pos) R:=fun A s av ow env he hoc rm F =>
 wp_forG L.lp L.it hsd he hoc rm F (fun σ' s' e nx=>by
  subst e
  cases nx with | mk ow' c F' m hw=>exact wp_to (hs A s' av ow' env he (c.trans hoc) rm F') fun fl s₂ h₂=>h₂.then c F'.gk m hw) (fun _ _ f=>f.elim) fun _ _ _ f=>f.elim
end
end
section
noncomputable abbrev accO (CA dx:Addr) (vs:List Value) (k:Nat):Obj:={ cls:=.ref CA,dict:=some dx,data:=.seq vs.toArray k }
structure LCls (K:Frag) (CA:Addr):Prop where
 ga:findIn K (.ref CA) "__getattribute__" = some (some (.builtin "list.__getattribute__"))
 gx:findIn K (.ref CA) "__getattr__" = some none
 hd:hasDictIn K CA=true
 sub:mroIn K CA (.type "list")=some true
 app:findIn K (.ref CA) "append" = some (some (.builtin "list.append"))
 gi:findIn K (.ref CA) "__getitem__" = some (some (.builtin "list.__getitem__"))
 si:findIn K (.ref CA) "__setitem__" = some (some (.builtin "list.__setitem__"))
 it:findIn K (.ref CA) "__iter__" = some (some (.builtin "list.__iter__"))
 ns:noSeq K CA=true
 bl:findIn K (.ref CA) "__bool__" = some none
theorem method_bi {K:Frag}{prog:Program}{w:World}{A:Around}{E:Value→Shared→Prop}{s:Shared}{x C:Addr}{ox:Obj}{od:Option Obj}{name:Str}{pl:Sem Bool}{Q:Value×List Value→Shared→Prop}{i:String}
  (X:K.In s.heap) (I:InstAt s.heap x ox C od) (hga:findIn K (.ref C) "__getattribute__" = some (some (.builtin "list.__getattribute__"))) (hk:findIn K (.ref C) "__getattr__" = some none)
  (hf:findIn K (.ref C) name=some (some (.builtin i))) (ht:typeOf (.builtin i)=pure (.type "method_descriptor")) (hs:shadowIn od name=some false) (h:Q (.builtin i,[.ref x]) s) :
  wpAny (model prog w) A (getMethod (.ref x) name pl) Q E s:=by
 have hcan:=canon_list_getattribute
 unfold getMethod specialOf
 refine wpAny_bind (wpAny_bind (I.type.here ((looks_findIn X hga).here ?_)))
 dsimp only
 rw [hcan,if_neg (by decide)]
 refine wpAny_bind (wpAny_bind (I.type.here ((looks_findIn X hk).here ?_)))
 refine wpAny_bind (wpAny_bind (I.type.here ((looks_findIn X hf).here (wpAny_bind ((Looks.of_pure ht).here ?_)))))
 rw [if_neg (by decide +kernel)]
 refine wpAny_bind (wpAny_loadPart I.at_ ?_)
 have hd:=I.dict
 cases e:ox.dict with
 | none=>exact wpAny_bind (wpAny_rule (wpAny_pure h))
 | some dx =>
  cases od with
  | none=>rw [e] at hd; exact hd.elim
  | some o =>
   rw [e] at hd
   obtain ⟨r,a,b⟩:=Option.map_eq_some_iff.mp hs
   refine wpAny_bind (wpAny_bind (wpAny_loadPart hd ?_))
   rw [nsLook_of a]
   refine wpAny_pure ?_
   rw [b]
   exact wpAny_bind (wpAny_rule (wpAny_pure h))
theorem lmethod_fn {K:Frag}{prog:Program}{w:World}{A:Around}{E:Value→Shared→Prop}{s:Shared}{x C f:Addr}{ox:Obj}{od:Option Obj}{name:Str}{pl:Sem Bool}{Q:Value×List Value→Shared→Prop}(X:K.In s.heap) (I:InstAt s.heap x ox C od) (hga:findIn K (.ref C) "__getattribute__" = some (some (.builtin "list.__getattribute__"))) (hk:findIn K (.ref C) "__getattr__" = some none)
  (hf:findIn K (.ref C) name=some (some (.ref f))) (ht:typeIn K (.ref f)=some (.type "function")) (hs:shadowIn od name=some false) (h:Q (.ref f,[.ref x]) s) :
  wpAny (model prog w) A (getMethod (.ref x) name pl) Q E s:=by
 have hcan:=canon_list_getattribute
 unfold getMethod specialOf
 refine wpAny_bind (wpAny_bind (I.type.here ((looks_findIn X hga).here ?_)))
 dsimp only
 rw [hcan,if_neg (by decide)]
 refine wpAny_bind (wpAny_bind (I.type.here ((looks_findIn X hk).here ?_)))
 refine wpAny_bind (wpAny_bind (I.type.here ((looks_findIn X hf).here (wpAny_bind ((looks_typeIn X ht).here ?_)))))
 rw [if_neg (by decide +kernel)]
 refine wpAny_bind (wpAny_loadPart I.at_ ?_)
 have hd:=I.dict
 cases e:ox.dict with
 | none=>exact wpAny_bind (wpAny_rule (wpAny_pure h))
 | some dx =>
  cases od with
  | none=>rw [e] at hd; exact hd.elim
  | some o =>
   rw [e] at hd
   obtain ⟨r,a,b⟩:=Option.map_eq_some_iff.mp hs
   refine wpAny_bind (wpAny_bind (wpAny_loadPart hd ?_))
   rw [nsLook_of a]
   refine wpAny_pure ?_
   rw [b]
   exact wpAny_bind (wpAny_rule (wpAny_pure h))
theorem check_any {M:Model}{A:Around}{E:Value→Shared→Prop}{s:Shared}{i owner n:String}{self:Value}{rest:List Value}{kw:List (Str×Value)}{Q:Unit→Shared→Prop}
  (hk:builtinKind i=some .slot∨builtinKind i=some .method) (hs:splitId i=some (owner,n)) (hi:Looks M s.heap (isInstance self (.type owner)) true) (ha:argsOk i ⟨self::rest,kw⟩) (q:Q () s) :
  wpAny M A (checkBuiltinCall i ⟨self::rest,kw⟩) Q E s:=by
 rcases hk with hk | hk <;>
 ·simp only [checkBuiltinCall,hk,hs]
  refine wpAny_bind (hi.here ?_)
  simp only [Bool.not_true,Bool.false_eq_true,if_false]
  cases hsig:Manifest.signature? i with
  | none=>exact wpAny_pure q
  | some sig =>
   simp only [argsOk,hsig] at ha
   have h2:Bind.checkArgs i sig ⟨self::rest,kw⟩=pure ():=ha
   show wpAny M A (Bind.checkArgs i sig ⟨self::rest,kw⟩) Q E s
   rw [h2]; exact wpAny_pure q
theorem call_sub {prog:Program}{w:World}{A:Around}{E:Value→Shared→Prop}{s:Shared}{id owner n:String}{b:Builtin}{self:Value}{rest:List Value}{Q:Value→Shared→Prop}
  (hk:builtinKind id=some .slot∨builtinKind id=some .method) (hs:splitId id=some (owner,n)) (hp:plainId id=true) (hb:entryFor table id=some b)
  (hi:Looks (model prog w) s.heap (isInstance self (.type owner)) true) (ha:argsOk id ⟨self::rest,[]⟩)
  (hc:wpAny (model prog w) A.in1 (b ⟨self::rest,[]⟩) (fun fin s'=>∃ v,fin=.done (.ret v)∧Q v s') E s):wpAny (model prog w) A (call (.builtin id) (self::rest)) Q E s:=by
 refine wpAny_call (codeAny_call_builtin hp hb (check_any hk hs hi ha (wpAny_mono hc (fun fin s' h'=>?_) fun _ _ h'=>h')))
 obtain ⟨v,rfl,hv⟩:=h'; exact hv
theorem lga_args (a b:Value):argsOk "list.__getattribute__" ⟨[a,b],[]⟩:=PySem.F.args_list_getattribute_2 a b
theorem lga_kind:builtinKind "list.__getattribute__" = some .slot∨builtinKind "list.__getattribute__" = some .method:=by first | exact .inl (by decide +kernel) | exact .inr (by decide +kernel)
theorem lga_entry:entryFor table "list.__getattribute__" = some Builtin.«object.__getattribute__» := PySem.F.entry_list_ga
theorem lga_bind (self:Value):bindSpecial (.builtin "list.__getattribute__") self=pure (.builtin "list.__getattribute__",[self]):=by kernel_rfl
section
variable {prog:Program}{w:World}{A:Around}{E:Value→Shared→Prop}{s:Shared}{K:Frag}{x C:Addr}{ox:Obj}{od:Option Obj}{name:Str}{expr:Bool}
theorem lget_open {Q:Value→Shared→Prop}(X:K.In s.heap) (I:InstAt s.heap x ox C od) (hga:findIn K (.ref C) "__getattribute__" = some (some (.builtin "list.__getattribute__"))) (hgx:findIn K (.ref C) "__getattr__" = some none) (hi:Looks (model prog w) s.heap (isInstance (.ref x) (.type "list")) true)
  (h:wpAny (model prog w) A.in1 (Builtin.«object.__getattribute__» ⟨[.ref x,.str name s.toks],[]⟩) (fun fin s'=>∃ v,fin=.done (.ret v)∧wpAny (model prog w) A (handedOut v) Q E s') (fun e s'=>False) { s with toks:=s.toks+1 }) :
  wpAny (model prog w) A (getAttr (.ref x) name expr) Q E s:=by
 obtain ⟨hh,g,d,t,os⟩:=s
 have L0:=I.type (M:=model prog w)
 have L1:=looks_findIn (M:=model prog w) X hga
 have L2:=looks_findIn (M:=model prog w) X hgx
 unfold getAttr getAttrBy
 refine wpAny_bind (wpAny_mkText (wpAny_holding (wpAny_bind (L0.at (wpAny_bind (L1.at ?_))))))
 have e1:(onTheHeap (Value.ref C)&&Value.builtin "list.__getattribute__" == Value.builtin "object.__getattribute__")=false:=by show (true&&(Value.builtin "list.__getattribute__" == Value.builtin "object.__getattribute__"))=false; decide +kernel
 dsimp only
 rw [if_neg (by rw [e1]; exact Bool.false_ne_true)]
 unfold getAttrByItsOwn hookBefore
 refine wpAny_bind ?_
 rw [if_pos (by rfl)]
 refine L2.at ?_
 refine wpAny_bind (wpAny_attempt (wpAny_holding ?_))
 unfold callGetattribute
 rw [if_neg (by cases expr <;> decide +kernel)]
 unfold boundAndCalled
 rw [lga_bind]
 refine wpAny_bind (wpAny_pure ?_)
 show wpAny _ _ (call (.builtin "list.__getattribute__") [.ref x,.str name t]) _ _ _
 exact call_sub lga_kind (owner := "list") (n := "__getattribute__") (by decide +kernel) (by decide +kernel) lga_entry hi (lga_args _ _) (wpAny_mono h (fun fin s' z=>z) fun _ _ z=>z.elim)
theorem lget_value {v:Value}{Q:Value→Shared→Prop}(X:K.In s.heap) (I:InstAt s.heap x ox C od) (hga:findIn K (.ref C) "__getattribute__" = some (some (.builtin "list.__getattribute__"))) (hgx:findIn K (.ref C) "__getattr__" = some none) (hi:Looks (model prog w) s.heap (isInstance (.ref x) (.type "list")) true)
  (hf:findObj K C od name=some (.value v)) (hh:handedIn v=true) (h:Q v { s with toks:=s.toks+1 }):wpAny (model prog w) A (getAttr (.ref x) name expr) Q E s:=by
 refine lget_open X I hga hgx hi ?_
 have L0:=I.type (M:=model prog w)
 have L1:=looks_find (M:=model prog w) X I hf
 unfold Builtin.«object.__getattribute__» slotArgs
 simp only [List.isEmpty_nil,Bool.not_true,Bool.false_eq_true, ↓reduceIte,bind_assoc,List.length_singleton,bne_self_eq_false]
 refine wpAny_bind (wpAny_pure ?_)
 refine wpAny_bind (wpAny_pure ?_)
 refine wpAny_bind (L0.here (s:={ s with toks:=s.toks+1 }) (wpAny_bind (L1.here (s:={ s with toks:=s.toks+1 }) ?_)))
 refine wpAny_pure ⟨_,rfl,?_⟩
 rw [handedOut_of hh]; exact wpAny_pure h
theorem lget_bind {g a:Value}{Q:Value→Shared→Prop}(X:K.In s.heap) (I:InstAt s.heap x ox C od) (hga:findIn K (.ref C) "__getattribute__" = some (some (.builtin "list.__getattribute__"))) (hgx:findIn K (.ref C) "__getattr__" = some none) (hi:Looks (model prog w) s.heap (isInstance (.ref x) (.type "list")) true)
  (hf:findObj K C od name=some (.bind g a)) (h:wpAny (model prog w) A.in1 (call g [a,.ref x,.ref C]) (fun v s'=>wpAny (model prog w) A (handedOut v) Q E s') (fun e s'=>False) { s with toks:=s.toks+1 }):wpAny (model prog w) A (getAttr (.ref x) name expr) Q E s:=by
 refine lget_open X I hga hgx hi ?_
 have L0:=I.type (M:=model prog w)
 have L1:=looks_find (M:=model prog w) X I hf
 unfold Builtin.«object.__getattribute__» slotArgs
 simp only [List.isEmpty_nil,Bool.not_true,Bool.false_eq_true, ↓reduceIte,bind_assoc,List.length_singleton,bne_self_eq_false]
 refine wpAny_bind (wpAny_pure ?_)
 refine wpAny_bind (wpAny_pure ?_)
 refine wpAny_bind (L0.here (s:={ s with toks:=s.toks+1 }) (wpAny_bind (L1.here (s:={ s with toks:=s.toks+1 }) ?_)))
 show wpAny _ _ (holding [a] (call g [a,.ref x,.ref C]) >>= ret) _ _ _
 exact wpAny_bind (wpAny_holding (wpAny_mono h (fun v s' z=>wpAny_pure ⟨_,rfl,z⟩) fun _ _ z=>z))
end
section
variable {K:Frag}{CA:Addr}{prog:Program}{w:World}{A:Around}{E:Value→Shared→Prop}{s:Shared}{c dx:Addr}{vs:List Value}{k:Nat}{od:Obj}
theorem acc_inst (ho:s.heap.get? c=some (accO CA dx vs k)) (hd:s.heap.get? dx=some od):InstAt s.heap c (accO CA dx vs k) CA (some od):=⟨ho,rfl,rfl,hd⟩
theorem acc_isl {M:Model}(F:LCls K CA) (X:K.In s.heap) (ho:s.heap.get? c=some (accO CA dx vs k)):Looks M s.heap (isInstance (.ref c) (.type "list")) true :=
 ((Looks.ld ho).andThen .now:Looks M s.heap (typeOf (.ref c)) (.ref CA)).andThen (looks_mroIn X F.sub)
theorem kind_append:builtinKind "list.append" = some .slot∨builtinKind "list.append" = some .method:=by first | exact .inl (by decide +kernel) | exact .inr (by decide +kernel)
theorem kind_gi:builtinKind "list.__getitem__" = some .slot∨builtinKind "list.__getitem__" = some .method:=by first | exact .inl (by decide +kernel) | exact .inr (by decide +kernel)
theorem kind_si:builtinKind "list.__setitem__" = some .slot∨builtinKind "list.__setitem__" = some .method:=by first | exact .inl (by decide +kernel) | exact .inr (by decide +kernel)
theorem kind_it:builtinKind "list.__iter__" = some .slot∨builtinKind "list.__iter__" = some .method:=by first | exact .inl (by decide +kernel) | exact .inr (by decide +kernel)
theorem kind_len:builtinKind "list.__len__" = some .slot∨builtinKind "list.__len__" = some .method:=by first | exact .inl (by decide +kernel) | exact .inr (by decide +kernel)
theorem acc_upd {f:Array Value→Array Value}(ho:s.heap.get? c=some (accO CA dx vs k)):(s.heap.update c (Obj.mapSeq f)).get? c=some (accO CA dx (f vs.toArray).toList (if (f vs.toArray).size==vs.toArray.size then k else k+1)):=by
 rw [Heap.get?_update_self _ ho rfl]
 simp [Obj.mapSeq,accO]
theorem acc_append {x:Value}{Q:Value→Shared→Prop}(F:LCls K CA) (X:K.In s.heap) (ho:s.heap.get? c=some (accO CA dx vs k)) (hz:vs.length≤1000)
  (h:∀ h' k',Heap.SameBut c s.heap h'→h'.get? c=some (accO CA dx (vs++[x]) k')→Q .none { s with heap:=h' }) :
  wpAny (model prog w) A (call (.builtin "list.append") [.ref c,x]) Q E s:=by
 refine call_sub kind_append (by decide +kernel:splitId "list.append" = some ("list", "append")) PySem.F.slot_list_append.plain PySem.F.entry_list_append (acc_isl F X ho) (PySem.F.args_list_append_2 _ _) ?_
 show wpAny _ _ (updateSeq c (·.push x) >>= fun _=>ret .none) _ _ s
 have h1000:(1000:Nat)≤sizeLine:=by decide
 have e:=acc_upd (f:=(·.push x)) ho
 have e1:((fun xs:Array Value=>xs.push x) vs.toArray).toList=vs++[x]:=by simp
 rw [e1] at e
 exact wpAny_bind (wpAny_updateSeq ho rfl (wpAny_pure ⟨.none,rfl,h _ _ (Heap.SameBut.update ..) e⟩) (by simp; lia) (by simp; lia))
theorem special_bi {M:Model}{name:Str}{id:String}{args:List Value}{Q:Option Value→Shared→Prop}(S:Slot "list" name id) (X:K.In s.heap) (ho:s.heap.get? c=some (accO CA dx vs k)) (hs:findIn K (.ref CA) name=some (some (.builtin id)))
  (h:wpAny M A (call (.builtin id) (.ref c::args)) (fun v=>Q (some v)) E s):wpAny M A (callSpecial? (.ref c) name args) Q E s:=by
 simp only [callSpecial?]
 unfold specialOf
 have ht:Looks M s.heap (typeOf (.ref c)) (.ref CA):=(Looks.ld ho).andThen .now
 refine wpAny_bind (wpAny_bind (ht.here ((looks_findIn X hs).here ?_)))
 simp only [S.bind]
 exact wpAny_holding (wpAny_bind (wpAny_pure (wpAny_bind (wpAny_mono h (fun v s' h'=>wpAny_pure h') fun _ _ h'=>h'))))
theorem acc_seqKey {M:Model}{i:Value}{name:Str}{Q:Value→Shared→Prop}(F:LCls K CA) (X:K.In s.heap) (ho:s.heap.get? c=some (accO CA dx vs k)) (h:Q i s):wpAny M A (sequenceKey (.ref c) i name) Q E s:=by
 unfold sequenceKey
 have ht:Looks M s.heap (typeOf (.ref c)) (.ref CA):=(Looks.ld ho).andThen .now
 refine wpAny_bind (ht.here ?_)
 refine wpAny_bind ((anyM_none X F.ns).here ?_)
 rw [if_pos (show (!false)=true from rfl)]
 exact wpAny_pure h
theorem acc_item {i:Int}{t:Tok}{x:Value}{Q:Value→Shared→Prop}(F:LCls K CA) (X:K.In s.heap) (ho:s.heap.get? c=some (accO CA dx vs k)) (h0:0≤i) (hfit:i<2 ^ 63) (hx:vs[i.toNat]?=some x) (h:Q x s) :
  wpAny (model prog w) A (getItem (.ref c) (.int i t)) Q E s:=by
 unfold getItem
 refine wpAny_holding ?_
 refine wpAny_bind (acc_seqKey F X ho ?_)
 refine wpAny_bind (special_bi PySem.F.slot_list_getitem X ho F.gi ?_)
 refine call_sub kind_gi (by decide +kernel:splitId "list.__getitem__" = some ("list", "__getitem__")) PySem.F.slot_list_getitem.plain PySem.F.entry_list_getitem (acc_isl F X ho) (PySem.F.args_list_getitem_2 _ _) ?_
 show wpAny _ _ (Builtin.List.listSubscript? (.int i t) >>= _) _ _ s
 refine wpAny_bind (wpAny_listSubscript_int (fitsIndex_of h0 hfit) ?_)
 clear hfit
 obtain ⟨j,rfl⟩:=Int.eq_ofNat_of_zero_le h0
 have hx':vs.toArray[j]?=some x:=by simpa using hx
 show wpAny _ _ ((seqItemAt c j >>= fun r=>pure (r.map (j, ·))) >>= _) _ _ s
 refine wpAny_bind (wpAny_bind (wpAny_seqItemAt ho rfl (wpAny_pure ?_)))
 rw [hx']
 first
  | exact wpAny_bind (wpAny_pure (wpAny_pure ⟨x,rfl,wpAny_pure h⟩))
  | exact wpAny_pure ⟨x,rfl,wpAny_pure h⟩
theorem acc_slice {sl:Addr}{vl vu vst:Value}{lo hi st:Option Int}{Q:Value→Shared→Prop}(F:LCls K CA) (X:K.In s.heap) (ho:s.heap.get? c=some (accO CA dx vs k))
  (hs:s.heap.IsSliceOf sl vl vu vst) (pl:IsPart vl lo) (pu:IsPart vu hi) (ps:IsPart vst st) (h0:st≠some 0)
  (h:Q (.ref s.heap.objs.size) { s with heap:=s.heap.push { cls:=.type "list",data:=.seq (slicePick vs.toArray lo hi st) } })
  (hsz:vs.toArray.size≤sizeLine):wpAny (model prog w) A (getItem (.ref c) (.ref sl)) Q E s:=by
 obtain ⟨os,hos,hcs,hds⟩:=id hs
 have hTs:s.TypeIs (.ref sl) "slice" := ⟨os,hos,hcs⟩
 unfold getItem
 refine wpAny_holding ?_
 refine wpAny_bind (acc_seqKey F X ho ?_)
 refine wpAny_bind (special_bi PySem.F.slot_list_getitem X ho F.gi ?_)
 refine call_sub kind_gi (by decide +kernel:splitId "list.__getitem__" = some ("list", "__getitem__")) PySem.F.slot_list_getitem.plain PySem.F.entry_list_getitem (acc_isl F X ho) (PySem.F.args_list_getitem_2 _ _) ?_
 show wpAny _ _ (Builtin.List.listSubscript? (.ref sl) >>= _) _ _ s
 refine wpAny_bind ?_
 unfold Builtin.List.listSubscript?
 refine wpAny_bind (wpAny_specialOf hTs slice_no_index ?_)
 simp only [Option.isNone_none,if_true]
 refine wpAny_pure ?_
 show wpAny _ _ (typeOf (.ref sl) >>= _) _ _ s
 refine wpAny_bind (wpAny_typeOf hTs ?_)
 rw [if_neg (by decide)]
 rw [listSliceParts_eq]
 have hstep:¬ ((rawPart st==rawInt 0)=true):=by
  cases st with
  | none=>exact Bool.false_ne_true
  | some c =>
   intro hh
   have:c=0:=by simpa [rawPart,rawInt] using hh
   exact h0 (by rw [this])
 refine wpAny_bind (wpAny_bind (wpAny_field hos hds (x:=vst) rfl (wpAny_bind (wpAny_listPart ps ?_))))
 rw [if_neg hstep]
 refine wpAny_bind (wpAny_field hos hds (x:=vl) rfl (wpAny_bind (wpAny_listPart pl ?_)))
 refine wpAny_bind (wpAny_field hos hds (x:=vu) rfl (wpAny_bind (wpAny_listPart pu (wpAny_pure ?_))))
 refine wpAny_bind (m:=Builtin.List.listItems (.ref c)) ?_
 unfold Builtin.List.listItems
 refine wpAny_bind (wpAny_seqItems ho rfl (wpAny_pure ?_))
 refine wpAny_bind (wpAny_of_eq (sliceIndices_raw lo hi st vs.toArray.size h0) ?_)
 exact wpAny_bind (wpAny_newObj_type (wpAny_pure ⟨_,rfl,wpAny_pure h⟩) (Nat.le_trans (slicePick_size_le vs.toArray lo hi st) hsz))
theorem acc_setSlice {sl b:Addr}{vl vu:Value}{lo hi:Option Int}{us:List Value}{kk:Nat}{Q:Unit→Shared→Prop}(F:LCls K CA) (X:K.In s.heap) (ho:s.heap.get? c=some (accO CA dx vs k))
  (hs:s.heap.IsSliceOf sl vl vu .none) (pl:IsPart vl lo) (pu:IsPart vu hi) (hb:s.heap.get? b=some (lstO us kk)) (hbc:b≠c) (h1:vs.length≤1000) (h2:us.length≤1000)
  (h:∀ h' k',Heap.SameBut c s.heap h'→h'.get? c=some (accO CA dx (vs.take (sliceBounds lo hi none vs.length).1.toNat++us++vs.drop (max (sliceBounds lo hi none vs.length).1 (sliceBounds lo hi none vs.length).2.1).toNat) k')→Q () { s with heap:=h' }) :
  wpAny (model prog w) A (setItem (.ref c) (.ref sl) (.ref b)) Q E s:=by
 obtain ⟨os,hos,hcs,hds⟩:=id hs
 have hTs:s.TypeIs (.ref sl) "slice" := ⟨os,hos,hcs⟩
 have hTb:s.TypeIs (.ref b) "list" := ⟨_,hb,rfl⟩
 unfold setItem
 refine wpAny_holding ?_
 refine wpAny_bind (acc_seqKey F X ho ?_)
 refine wpAny_bind (special_bi PySem.F.slot_list_setitem X ho F.si ?_)
 refine call_sub kind_si (by decide +kernel:splitId "list.__setitem__" = some ("list", "__setitem__")) PySem.F.slot_list_setitem.plain PySem.F.entry_list_setitem (acc_isl F X ho) (PySem.F.args_list_setitem_3 _ _ _) ?_
 show wpAny _ _ (Builtin.List.listSubscript? (.ref sl) >>= _) _ _ s
 refine wpAny_bind ?_
 unfold Builtin.List.listSubscript?
 refine wpAny_bind (wpAny_specialOf hTs slice_no_index ?_)
 simp only [Option.isNone_none,if_true]
 refine wpAny_pure ?_
 show wpAny _ _ (typeOf (.ref sl) >>= _) _ _ s
 refine wpAny_bind (wpAny_typeOf hTs ?_)
 rw [if_neg (by decide)]
 rw [listSliceParts_eq]
 refine wpAny_bind (wpAny_bind (wpAny_field hos hds (x:=.none) rfl (wpAny_bind (wpAny_listPart .none ?_))))
 rw [if_neg (show ¬ ((rawPart none==rawInt 0)=true) from Bool.false_ne_true)]
 refine wpAny_bind (wpAny_field hos hds (x:=vl) rfl (wpAny_bind (wpAny_listPart pl ?_)))
 refine wpAny_bind (wpAny_field hos hds (x:=vu) rfl (wpAny_bind (wpAny_listPart pu (wpAny_pure ?_))))
 have hsr:Builtin.List.listSameRef (.ref c) (.ref b)=false:=by
  simp [Builtin.List.listSameRef]; exact fun q=>hbc q.symm
 dsimp only
 rw [hsr]
 simp only [Bool.false_eq_true,if_false]
 unfold Builtin.List.listAllItems Builtin.List.listItems
 refine wpAny_bind (wpAny_bind (wpAny_typeOf hTb ?_))
 rw [if_pos (by rfl)]
 refine wpAny_bind (wpAny_seqItems hb rfl (wpAny_pure ?_))
 refine wpAny_bind (wpAny_bind (wpAny_seqItems ho rfl (wpAny_pure ?_)))
 refine wpAny_bind (wpAny_of_eq (sliceIndices_raw lo hi none vs.toArray.size (by simp)) ?_)
 have hl:Builtin.List.listTooLong (vs.toArray.size+us.toArray.size)=false:=by
  have:(2000:Nat)≤sizeLine:=by decide
  simp [Builtin.List.listTooLong]; lia
 have h1000:(2001:Nat)≤sizeLine:=by decide
 obtain ⟨a0,b0,e0⟩:∃ a0 b0,sliceBounds lo hi none vs.toArray.size=(a0,b0,1):=⟨_,_,rfl⟩
 rw [e0]
 dsimp only
 rw [if_pos (by rfl)]
 refine wpAny_bind (wpAny_rule ?_)
 rw [hl]
 simp only [Bool.false_eq_true,if_false]
 have e:=acc_upd (f:=fun xs:Array Value=>xs.extract 0 a0.toNat++us.toArray++xs.extract (max a0 b0).toNat) ho
 have e1:((fun xs:Array Value=>xs.extract 0 a0.toNat++us.toArray++xs.extract (max a0 b0).toNat) vs.toArray).toList=vs.take a0.toNat++us++vs.drop (max a0 b0).toNat:=by
  simp; exact List.take_of_length_le (by simp)
 rw [e1] at e
 have e2:sliceBounds lo hi none vs.length=(a0,b0,1):=by rw [← e0,List.size_toArray]
 rw [e2] at h
 refine wpAny_bind (m:=updateSeq c _) (wpAny_updateSeq ho rfl ?_ (by simp; lia) (by simp; lia))
 refine wpAny_bind (wpAny_letGo ?_)
 exact wpAny_pure ⟨_,rfl,wpAny_pure (h _ _ (Heap.SameBut.update ..) e)⟩
end
end
section
theorem slot_md_get:Slot "method_descriptor" "__get__" "method_descriptor.__get__" := .of (owner := "method_descriptor") (n := "__get__") (by rw [typeLookup_type,builtinLookup_eq_fast]; kernel_rfl) (by decide +kernel) (by decide +kernel) (by decide +kernel)
 (by first | exact .inl (by decide +kernel) | exact .inr (by decide +kernel)) (by rw [isSubtype_type]; kernel_rfl)
theorem slot_wd_get:Slot "wrapper_descriptor" "__get__" "wrapper_descriptor.__get__" := .of (owner := "wrapper_descriptor") (n := "__get__") (by rw [typeLookup_type,builtinLookup_eq_fast]; kernel_rfl) (by decide +kernel) (by decide +kernel) (by decide +kernel)
 (by first | exact .inl (by decide +kernel) | exact .inr (by decide +kernel)) (by rw [isSubtype_type]; kernel_rfl)
theorem entry_md_get:entryFor table "method_descriptor.__get__" = some Builtin.«method_descriptor.__get__» := entryFor_of_tree (by kernel_rfl)
theorem entry_wd_get:entryFor table "wrapper_descriptor.__get__" = some Builtin.«wrapper_descriptor.__get__» := entryFor_of_tree (by kernel_rfl)
theorem args_md_get (a b c:Value):argsOk "method_descriptor.__get__" ⟨[a,b,c],[]⟩:=by unfold argsOk; kernel_rfl
theorem args_wd_get (a b c:Value):argsOk "wrapper_descriptor.__get__" ⟨[a,b,c],[]⟩:=by unfold argsOk; kernel_rfl
theorem type_lpop:typeOf (.builtin "list.pop")=pure (.type "method_descriptor"):=by show builtinType _=_; rw [builtinType_eq_fast]; kernel_rfl
theorem type_llen:typeOf (.builtin "list.__len__")=pure (.type "wrapper_descriptor"):=by show builtinType _=_; rw [builtinType_eq_fast]; kernel_rfl
theorem type_linit:typeOf (.builtin "list.__init__")=pure (.type "wrapper_descriptor"):=by show builtinType _=_; rw [builtinType_eq_fast]; kernel_rfl
noncomputable abbrev boundO (bt id:String) (x:Addr):Obj:={ cls:=.type bt,data:=.fields #[.builtin id,.ref x] }
section
variable {prog:Program}{w:World}{A:Around}{E:Value→Shared→Prop}{h:Heap}{g:Array GenState}{d:Drawn}{t:Nat}{os:OsState}
theorem run_wd_get {id:String}{x C:Addr}{ox:Obj}{Q:Fin→Shared→Prop}(hs : ".".intercalate (id.cutAt '.').dropLast = "list")
  (hx:h.get? x=some ox) (hc:ox.cls=.ref C) (hi:Looks (model prog w) h (isSubtype (.ref C) (.type "list")) true) (hq:Q (.done (.ret (.ref h.objs.size))) ⟨h.push (boundO "method-wrapper" id x),g,d,t,os⟩) :
  wpAny (model prog w) A (Builtin.«wrapper_descriptor.__get__» ⟨[.builtin id,.ref x,.ref C],[]⟩) Q E ⟨h,g,d,t,os⟩:=by
 unfold Builtin.«wrapper_descriptor.__get__»
 repeat (first | (with_reducible refine Looks.at hi ?_) | (with_reducible refine wpAny_loadPart_at hx ?_; rw [hc]) | rw [hs] | simp only [newFields] | (with_reducible refine wpAny_newObj_type ?_ (by size_fits)) | wp_step)
 exact hq
theorem run_md_get {id:String}{x C:Addr}{ox:Obj}{Q:Fin→Shared→Prop}(hs : ".".intercalate (id.cutAt '.').dropLast = "list") (ht:Manifest.toldItsClass.contains id=false)
  (hx:h.get? x=some ox) (hc:ox.cls=.ref C) (hi:Looks (model prog w) h (isSubtype (.ref C) (.type "list")) true) (hq:Q (.done (.ret (.ref h.objs.size))) ⟨h.push (boundO "builtin_function_or_method" id x),g,d,t,os⟩) :
  wpAny (model prog w) A (Builtin.«method_descriptor.__get__» ⟨[.builtin id,.ref x,.ref C],[]⟩) Q E ⟨h,g,d,t,os⟩:=by
 unfold Builtin.«method_descriptor.__get__»
 repeat (first | (with_reducible refine Looks.at hi ?_) | (with_reducible refine wpAny_loadPart_at hx ?_; rw [hc]) | rw [hs] | simp only [newFields,ht,Bool.false_eq_true,if_false] | (with_reducible refine wpAny_newObj_type ?_ (by size_fits)) | wp_step)
 exact hq
set_option maxHeartbeats 4000000 in
theorem super_bi {so D x C:Addr}{ox:Obj}{l₀ l:List Value}{K:Frag}{name:Str}{id mt bt gi:String}{pl:Sem Bool}{Q:Value×List Value→Shared→Prop}{Bg:Builtin}
  (hso:h.get? so=some { cls:=.type "super",dict:=none,data:=.fields #[.ref D,.ref x,.ref C],slots := #[] }) (hno:Looks (model prog w) h (opaqueClassAbove (.ref C)) none)
  (hC:Looks (model prog w) h (mroOf (.ref C)) l₀) (hl:(l₀.dropWhile (· != .ref D)).drop 1=l) (X:K.In h)
  (hf:alongIn K name l=some (some (.builtin id))) (hTT:∀ s:Shared,s.TypeIs (.builtin id) mt) (S:Slot mt "__get__" gi) (hb:entryFor table gi=some Bg) (hargs:∀ a b c,argsOk gi ⟨[a,b,c],[]⟩)
  (hrun:∀ (A:Around) (h':Heap) (t':Nat) (Q:Fin→Shared→Prop) (E:Value→Shared→Prop),(∀ b o,h.get? b=some o→h'.get? b=some o)→Q (.done (.ret (.ref h'.objs.size))) ⟨h'.push (boundO bt id x),g,d,t',os⟩→wpAny (model prog w) A (Bg ⟨[.builtin id,.ref x,.ref C],[]⟩) Q E ⟨h',g,d,t',os⟩)
  (hxC:x≠C) (hn:(name==("__class__" : Str))=false)
  (hq:Q (.ref h.objs.size,[]) ⟨h.push (boundO bt id x),g,d,t+1,os⟩) :
  wpAny (model prog w) A (getMethod (.ref so) name pl) Q E ⟨h,g,d,t,os⟩:=by
 have hlk:=F.ks_slot_super_ga.lookup
 have hcan:=F.ks_canon_super_ga
 have hT:∀ t',(⟨h,g,d,t',os⟩:Shared).TypeIs (.ref so) "super" := fun _=>⟨_,hso,rfl⟩
 unfold getMethod
 refine wpAny_bind (wpAny_specialOf (hT _) hlk ?_)
 show wpAny _ _ (if (Manifest.canonical "super.__getattribute__" != "object.__getattribute__")=true then _ else _) _ _ _
 rw [if_pos hcan]
 unfold getAttr getAttrBy
 refine wpAny_bind (wpAny_bind (wpAny_mkText (wpAny_holding (wpAny_bind (wpAny_typeOf (hT _) (wpAny_bind (wpAny_of_eq hlk ?_)))))))
 show wpAny _ _ (getAttrByItsOwn (.ref so) (.str name t) (.type "super") (.builtin "super.__getattribute__") true false) _ _ _
 unfold getAttrByItsOwn hookBefore callGetattribute boundAndCalled
 refine wpAny_bind (wpAny_of_eq (show (if onTheHeap (.type "super") then typeLookup (.type "super") "__getattr__" else pure none)=pure none from rfl) ?_)
 refine wpAny_bind (wpAny_attempt (wpAny_holding ?_))
 show wpAny _ _ (bindSpecial (.builtin "super.__getattribute__") (.ref so) >>= _) _ _ _
 refine wpAny_bind (wpAny_of_eq (F.ks_slot_super_ga.bind _) ?_)
 refine wpAny_mono (Q:=fun v s'=>v=.ref h.objs.size∧s'=⟨h.push (boundO bt id x),g,d,t+1,os⟩) (E:=fun _ _=>False)
  (wpAny_call_entry F.ks_slot_super_ga (hT _) F.ks_entry_super_ga ?_ (F.ks_gaArgs_super _ _)) (fun v s' hv=>?_) fun _ _ z=>z.elim
 ·have hne:(Value.ref x==Value.ref C)=false:=by simp [hxC]
  have hdt:({ cls:=.type "super",dict:=none,data:=.fields #[.ref D,.ref x,.ref C],slots := #[] }:Obj).data=.fields #[.ref D,.ref x,.ref C]:=rfl
  have f0:(#[.ref D,.ref x,.ref C]:Array Value)[0]?=some (.ref D):=rfl
  have f1:(#[.ref D,.ref x,.ref C]:Array Value)[1]?=some (.ref x):=rfl
  have f2:(#[.ref D,.ref x,.ref C]:Array Value)[2]?=some (.ref C):=rfl
  have hT2:(⟨h,g,d,t+1,os⟩:Shared).TypeIs (.builtin id) mt:=hTT _
  have hcall:∀ {A':Around}{Q':Value→Shared→Prop}{E':Value→Shared→Prop},Q' (.ref h.objs.size) ⟨h.push (boundO bt id x),g,d,t+1,os⟩→wpAny (model prog w) A' (call (.builtin gi) [.builtin id,.ref x,.ref C]) Q' E' ⟨h,g,d,t+1,os⟩:=fun q =>
   wpAny_call_entry S hT2 hb (hrun _ h (t+1) _ _ (fun _ _ e=>e) ⟨_,rfl,q⟩) (hargs _ _ _)
  have hlg:=S.lookup
  unfold Builtin.«super.__getattribute__»
  repeat (first
   | (with_reducible refine wpAny_field hso hdt f0 ?_) | (with_reducible refine wpAny_field hso hdt f1 ?_) | (with_reducible refine wpAny_field hso hdt f2 ?_)
   | (with_reducible refine ks_wpAny_notOpaque hno ?_)
   | (with_reducible refine Looks.at hC ?_; rw [hl])
   | ((with_reducible show wpAny _ _ (forIn _ _ _) _ _ _); refine ks_forIn_along X (fun _ _=>rfl) rfl ?_ hf)
   | (with_reducible refine wpAny_typeOf hT2 ?_)
   | (with_reducible refine hcall ?_)
   | (with_reducible refine ⟨_,rfl,?_⟩)
   | (simp only [hn,hne,Bool.or_false,Bool.false_eq_true,if_false])
   | wp_step
   | dsimp only)
  all_goals first | exact ⟨rfl,rfl⟩ | exact ⟨trivial,rfl⟩ | exact ⟨trivial,trivial⟩
 ·obtain ⟨rfl,rfl⟩:=hv
  exact wpAny_pure (wpAny_pure hq)
end
end
section
open Builtin Builtin.ObjectAttr
theorem refuse_list (self:Value):refuseLoop self "__setattr__" [.type "list",.type "object"]=pure ():=by first | kernel_rfl | rfl
theorem refuse_object (self:Value):refuseLoop self "__setattr__" [.type "object"]=pure ():=PySem.F.store_object.passes self
section
variable {prog:Program}{w:World}{A:Around}{E:Value→Shared→Prop}{s:Shared}{K:Frag}{x C dx:Addr}{ox:Obj}{es:List DictEntry}{n:Nat}{name:Str}{v:Value}
theorem set_attr {cd:ClassData}{l:List Value}{Q:Unit→Shared→Prop}(X:K.In s.heap) (I:InstAt s.heap x ox C (some (dictOf es n))) (hdx:ox.dict=some dx) (hs:findIn K (.ref C) "__setattr__" = some (some (.builtin "object.__setattr__")))
  (hc:clsIn K C=some cd) (hm:cd.mro=.ref C::l) (hp:refuseLoop (.ref x) "__setattr__" l=pure ()) (hobj:cd.mro.contains (.type "object")=true) (ht:takerIn K C name=some none) (hh:cd.hasDict=true) (hl:(getL name es).isSome=true) (hz:es.length≤900)
  (h:∀ h' tk,Heap.SameBut dx s.heap h'→h'.get? dx=some (dictOf (putL name (PyData.keyHash w.params name) (.str name tk) v es) (PySem.W.putN name es n))→Q () { s with heap:=h',toks:=s.toks+2 }) :
  wpAny (model prog w) A (setAttr (.ref x) name v) Q E s:=by
 refine set_plain X I hs ?_
 have hxI:=I
 obtain ⟨hh',gg,dd,t,os⟩:=s
 have SF:=PySem.F.store_object
 have sub:Looks (model prog w) hh' (isInstance (.ref x) (.type "object")) true:=I.type.andThen (looks_mroIn X (by unfold mroIn; rw [hc,Option.bind_some,if_neg (by rw [hm]; simp),hobj]))
 refine codeAny_call_builtin SF.slot.plain SF.entry (@check_slot (model prog w) _ _ ⟨hh',gg,dd,t+1,os⟩ "object.__setattr__" "object" "__setattr__" (.ref x) [.str name t,v] [] _ SF.kind SF.split sub (SF.args (.ref x) (.str name t) v) ?_)
 obtain ⟨attr,ha,hr⟩:=Option.bind_eq_some_iff.mp ht
 have hmro:Looks (model prog w) hh' (mroOf (.ref C)) cd.mro:=(looks_clsIn X hc).andThen .now
 have L3:Looks (model prog w) hh' (storeTaker? attr) none:=by
  cases attr with
  | none=>cases hr; exact .now
  | some a =>
   obtain ⟨b,hb,hb2⟩:=Option.map_eq_some_iff.mp hr
   refine (looks_takesIn X hb).andThen ?_
   cases b
   ·exact .now
   ·exact (disc tgN hb2 rfl).elim
 rw [osa_eq,refuse_eq]
 refine wpAny_bind (wpAny_bind (Looks.at I.type (wpAny_bind (Looks.at hmro ?_))))
 rw [hm,refuseLoop_ref,hp]
 refine wpAny_pure (wpAny_bind (Looks.at I.type (wpAny_bind (Looks.at (looks_findIn X ha) (wpAny_bind (Looks.at L3 ?_))))))
 obtain ⟨hx,hcl,hn,hdd⟩:=I
 obtain ⟨oc,odi,oda,osl⟩:=ox
 dsimp only at hcl hdx hdd
 subst hcl hdx
 have D:hh'.get? dx=some (dictOf es n):=hdd
 have D':=Heap.get?_update_self (h:=hh') (fun o=>Obj.putName name (PyData.keyHash w.params name) (.str name (t+1)) v o) D (by rw [putName_dict]; rfl)
 rw [putName_dict] at D'
 refine wpAny_bind (wpAny_pure (wpAny_bind (wpAny_bind (wpAny_loadPart hx (wpAny_bind (Looks.at (looks_clsIn X hc) ?_))))))
 rw [hh]
 refine wpAny_pure (a:=some dx) (wpAny_bind (wpAny_pure (wpAny_bind ?_)))
 unfold nsSet
 refine wpAny_bind (wpAny_bind (wpAny_askSetting (wpAny_pure (wpAny_bind (wpAny_mkText (wpAny_bind (wpAny_loadPart D ?_)))))))
 have c:(!es.toArray.any (·.key.isStr name)&&es.toArray.any (·.refKey))=false:=by
  rw [← Array.any_toList, ← Array.any_toList]
  show (!es.any _&&es.any _)=false
  unfold getL at hl
  split at hl
  ·rename_i en he
   rw [List.any_eq_true.mpr ⟨en,List.mem_of_find?_eq_some he,List.find?_some he⟩]; rfl
  ·split at hl
   ·exact (disc tgS hl rfl).elim
   ·rename_i z; rw [Bool.not_eq_true] at z; rw [z,Bool.and_false]
 dsimp only
 rw [aRefKeyMayBeTheName_at,c]
 refine wpAny_updatePart D ?_
 have hlen:(putL name (PyData.keyHash w.params name) (.str name (t+1)) v es).length≤1000:=by
  have:∀ es:List DictEntry,(putL name (PyData.keyHash w.params name) (.str name (t+1)) v es).length≤es.length+1:=by
   intro es
   induction es with
   | nil=>simp [putL]
   | cons e r ih =>
    unfold putL
    split
    ·simp
    ·simp only [List.length_cons]; lia
  have:=this es
  lia
 refine wpAny_bind (wpAny_lookBehind D' (pastItsLine_dict (by rw [List.size_toArray,sizeLine_eq]; lia)) ?_)
 exact wpAny_pure (h _ _ (Heap.SameBut.update ..) D')
end
structure LMake (K:Frag) (C fI:Addr):Prop where
 obj:∃ oc od cd sl l,K.lookup C=some ⟨oc,od,.cls cd,sl⟩∧cd.abstract=false∧cd.hasDel=false∧cd.mro=.ref C::l∧sl.toList[4]?=some (some (.builtin "list.__new__"))∧typeIn K (.ref C)=some (.type "type")
 sub:mroIn K C (.type "list")=some true
 self:mroIn K C (.ref C)=some true
 call:specialIn K (.ref C) "__call__" = some (some (.builtin "type.__call__"))
 typ:instIn K (.ref C) (.type "type")=some true
 init:findIn K (.ref C) "__init__" = some (some (.ref fI))
 new:findIn K (.ref C) "__new__" = some (some (.builtin "list.__new__"))
 fn:typeIn K (.ref fI)=some (.type "function")
section
variable {prog:Program}{w:World}{A:Around}{K:Frag}{C fI:Addr}{R:Result→Shared→Prop}{h:Heap}{g:Array GenState}{d:Drawn}{t:Nat}{os:OsState}
theorem code_lnew {rest:List Value}(X:K.In h) (Y:LMake K C fI) (hq:R (.ok (.ret (.ref (h.objs.size+1)))) ⟨(h.push emptyDict).push (accO C h.objs.size [] 0),g,d,t,os⟩) :
  codeAny (model prog w) A (.call (.builtin "list.__new__") ⟨.ref C::rest,[]⟩) R ⟨h,g,d,t,os⟩:=by
 obtain ⟨⟨oc,od,cd,sl,l,ho,e1,e2,hl,e3,e4⟩,sub,self,call,typ,init,new,fn⟩:=Y
 have hC:=X _ _ ho
 have hc:clsIn K C=some cd:=by unfold clsIn; rw [ho]
 have hm:Looks (model prog w) h (mroOf (.ref C)) cd.mro:=(looks_clsIn X hc).andThen .now
 have made:Looks (model prog w) h (Bind.madeBy (.ref C)) (some "list.__new__"):=by
  intro A Q E s k q
  unfold Bind.madeBy
  refine wpAny_bind (hm A _ E s k ?_)
  rw [hl,List.forIn_cons]
  refine wpAny_bind (wpAny_bind (wpAny_bind (wpAny_bind (wpAny_loadPart (k _ _ hC) (wpAny_pure ?_)))))
  dsimp only
  rw [← Array.getElem?_toList,e3]
  exact wpAny_pure (wpAny_pure (wpAny_pure q))
 have base:Looks (model prog w) h (Bind.staticBase (.ref C)) (.ref C):=by
  intro A Q E s k q
  unfold Bind.staticBase
  refine wpAny_bind (hm A _ E s k ?_)
  rw [hl,List.forIn_cons]
  exact wpAny_bind (wpAny_bind (wpAny_bind (made A _ E s k (wpAny_pure (wpAny_pure (wpAny_pure q))))))
 have hk:builtinKind "list.__new__" = some .builtinFn:=by decide +kernel
 have hs:splitId "list.__new__" = some ("list", "__new__"):=by decide +kernel
 have L1:=looks_mroIn (M:=model prog w) X sub
 refine codeAny_call_builtin_code (Code.quiet_builtin _ (by decide +kernel)) ?_
 simp only [checkBuiltinCall,hk,hs]
 repeat (first | (with_reducible refine Looks.at base ?_) | (with_reducible refine Looks.at made ?_) | (with_reducible refine Looks.at L1 ?_) | simp only [bne_self_eq_false,beq_self_eq_true,if_true,Bool.not_true,Bool.false_eq_true,if_false] | lk)
 refine codeAny_builtin_stack PySem.F.entry_list_new rfl fun p st=>?_
 rw [Around.under_plainId PySem.F.plain_list_new _]
 have hown:=owner_list_new
 simp only [hown]
 have isT:∀ {A:Around}{Q:Bool→Shared→Prop}{E:Value→Shared→Prop},Q true ⟨h,g,d,t,os⟩→wpAny (model prog w) A (isType (.ref C)) Q E ⟨h,g,d,t,os⟩:=fun q=>ks_wpAny_isType_cls hC rfl q
 repeat (first | (with_reducible refine isT ?_) | (with_reducible refine Looks.at L1 ?_) | simp only [typeHasDict,Bool.not_true,Bool.false_eq_true,if_false] | lk)
 refine nd_load (Heap.get?_push_of_some _ (Heap.get?_push_of_some _ hC)) ?_
 refine nd_pure ?_
 refine wpAny_pure (a:=cd.hasDel) ?_
 rw [e2]
 simp only [Bool.false_eq_true,if_false]
 refine wpAny_pure (wpAny_pure ?_)
 show R _ _
 rw [Heap.size_push]
 exact hq
theorem make_list {rest:List Value}(X:K.In h) (Y:LMake K C fI)
  (hq:codeAny (model prog w) (A.under (.builtin "type.__call__" ⟨.ref C::rest,[]⟩)) (.call (.ref fI) ⟨.ref (h.objs.size+1)::rest,[]⟩) (InitBack (h.objs.size+1) R) ⟨(h.push emptyDict).push (accO C h.objs.size [] 0),g,d,t,os⟩) :
  codeAny (model prog w) A (.call (.ref C) ⟨rest,[]⟩) R ⟨h,g,d,t,os⟩:=by
 have Y':=Y
 obtain ⟨⟨oc,od,cd,sl,l,ho,e1,e2,hl,e3,e4⟩,sub,self,call,typ,init,new,fn⟩:=Y
 have hC:=X _ _ ho
 have hc:clsIn K C=some cd:=by unfold clsIn; rw [ho]
 have hcall:=looks_specialIn (M:=model prog w) X call
 have htyp:=looks_instIn (M:=model prog w) X typ
 have made:Looks (model prog w) h (Bind.madeBy (.ref C)) (some "list.__new__"):=by
  intro A Q E s k q
  unfold Bind.madeBy
  have hm:Looks (model prog w) h (mroOf (.ref C)) cd.mro:=(looks_clsIn X hc).andThen .now
  refine wpAny_bind (hm A _ E s k ?_)
  rw [hl,List.forIn_cons]
  refine wpAny_bind (wpAny_bind (wpAny_bind (wpAny_bind (wpAny_loadPart (k _ _ hC) (wpAny_pure ?_)))))
  dsimp only
  rw [← Array.getElem?_toList,e3]
  exact wpAny_pure (wpAny_pure (wpAny_pure q))
 have hself:=looks_mroIn (M:=model prog w) X self
 have hinit:=looks_findIn (M:=model prog w) X init
 have hnew:=looks_findIn (M:=model prog w) X new
 have hm:Looks (model prog w) h (mroOf (.ref C)) cd.mro:=(looks_clsIn X hc).andThen .now
 refine codeAny_of_tree ?_
 show wpAny _ _ (callAny (.ref C) _) _ _ _
 refine nd_load hC ?_
 show wpAny _ _ (callAny.viaDunder (.ref C) _) _ _ _
 unfold callAny.viaDunder
 refine wpAny_bind (hcall.at ?_)
 dsimp only
 rw [tc_bind]
 refine wpAny_bind (wpAny_pure (wpAny_bind (wpAny_pure ?_)))
 refine wpAny_pure (a:=Fin.again (.call (.builtin "type.__call__") ⟨.ref C::rest,[]⟩)) (And.intro rfl ?_)
 refine codeAny_call_builtin_at (Code.quiet_builtin _ (by decide +kernel)) entry_typeCall (check_slot tc_kind tc_split htyp (tc_args _ _ _) ?_)
 unfold Builtin.«type.__call__»
 have hne:cd.mro.isEmpty=false:=by rw [hl]; rfl
 repeat (first | simp only [hne,Bool.false_eq_true,if_false] | with_reducible refine wpAny_call ?_ | lk)
 refine code_lnew X Y' ?_
 have k:∀ b o,h.get? b=some o→((h.push emptyDict).push (accO C h.objs.size [] 0)).get? b=some o:=fun b o e=>Heap.get?_push_of_some _ (Heap.get?_push_of_some _ e)
 have hx:((h.push emptyDict).push (accO C h.objs.size [] 0)).get? (h.objs.size+1)=some (accO C h.objs.size [] 0):=by heap_get
 have t1:Looks (model prog w) ((h.push emptyDict).push (accO C h.objs.size [] 0)) (typeOf (.ref (h.objs.size+1))) (.ref C):=(Looks.ld hx).andThen .now
 have s1:=hself.keeps k
 have i1:=hinit.keeps k
 have b1:=bind_fn (M:=model prog w) (h:=(h.push emptyDict).push (accO C h.objs.size [] 0)) (fun b o e=>k _ _ (X b o e)) (.ref (h.objs.size+1)) fn
 unfold isInstance callSpecial? specialOf
 repeat (first | with_reducible refine wpAny_call ?_ | lk)
 refine codeAny_mono hq fun r s' z=>?_
 rcases r with e | (v | _ | _ | _) <;> first | exact z | exact z.elim | skip
 obtain ⟨rfl,z⟩:=z
 exact wpAny_pure (wpAny_pure z)
end
end
section
noncomputable def meth1 (c m:String):Stmt:=((bodyOf (fn1 c)).find? fun st=>(stP st).name==Str.ofString m).getD (.Pass ⟨0,0,0,0⟩)
structure MF (P:Value→Str→Prop) (K:Frag) (g:Heap) (C:Addr) (m:Str) (f:Addr) (st:Stmt) (cl:List (Str×Addr)) (xs:List Str):Prop where
 find:findIn K (.ref C) m=some (some (.ref f))
 isf:isFn K (.ref f)=true
 fni:fnIn K f=true
 kee:keepIn K (.ref f)=true
 fo:FnO P g f (scopeOf st) cl xs (bodyOf st)
 fs:FnS0 (scopeOf st) xs
 nc:cellNames (scopeOf st).names=[]
 ce:∀ x c,cl.lookup x=some c→∃ v,g.IsCell c v
 fr:∀ x,(scopeOf st).names.lookup x=some .free→(cl.lookup x).isSome=true
noncomputable def flowV:Flow→Value
 | .ret v=>v
 | _=>.none
noncomputable def Rz.val:Rz→D
 | .ret d=>d
 | _=>.none
structure ClU {ι:Type}(prog:Program) (w:World) (g:Heap) (T:Tabs) (n:Nat) (f:Addr) (W:Wo ι) (i:ι) (ds:List D) (d:D) (j:ι):Prop where
 run:∀ (A:Around) (s:Shared) (vs:List Value),Rm n A→GK g T s→W.Ω i s.heap→AvOk W.av s.heap→VDs W.av s.heap vs ds→wpAny (model prog w) A (call (.ref f) vs) (OutU W g T W.av s d j) NoE s
structure RunU {ι:Type}(prog:Program) (w:World) (g:Heap) (T:Tabs) (n:Nat) (σ:Sto) (f:Addr) (W:Wo ι) (i:ι) (ds:List D) (d:D) (j:ι):Prop where
 run:∀ (A:Around) (s:Shared) (ow:Ow) (env:Env) (vs:List Value),Rm n A→FmW W g T ow env σ s i→VDs (ow.adr++W.av) s.heap vs ds→wpAny (model prog w) A (call (.ref f) vs) (OutU W g T (ow.adr++W.av) s d j) NoE s
noncomputable abbrev IsMeth (o:Expr) (m:Str) (apos:Pos) (args:List Expr) (pos:Pos):Prop:=∀ env,∃ pl,eval (.Call (.Attribute o m apos) args [] pos) env=(do
 let ov ← attributeBase o m env (eval o env)
 standAt apos.atName
 let (f,first) ← holding [ov] (getMethod ov m pl)
 callWith pos f first (backTo pos (starEach args env)) [])
section
variable {ι:Type}{prog:Program}{w:World}{g g':Heap}{T:Tabs}{n:Nat}{sc:Scope}{W:Wo ι}{i j k:ι}{σ σ₁:Sto}{A:Around}{s s' s'' s₁:Shared}{ow ow':Ow}{env:Env}{R:Rz}{fl:Flow}{av:List Addr}{K:Frag}{C f c:Addr}{m:Str}{st:Stmt}{cl:List (Str×Addr)}{xs:List Str}{vs vs':List Value}{ds:List D}{d:D}{P:Value→Str→Prop}{o e:Expr}{es:List Expr}{apos pos:Pos}
theorem FmW.to (ok:W.Ok g) (M:MF P K g C m f st cl xs) (hw:W.Ω i s.heap) (hg:GK g T s) (N:NewF P g T n f (scopeOf st) cl W.av A s σ env ow s₁):FmW W g T ow env σ s₁ i :=
 ⟨N.F,ok.ext N.x hg hw,fun b hb h=>(ok.obj i _ hw b hb).elim fun o p=>nos (N.w b h) p.1,fun x c e u=>(M.ce x c ((N.cells x fun h=>nomatch M.nc▸mem_cellNames.mpr h).symm.trans e)).elim fun v i=>i.elim fun o p=>nos (ok.off c u) p.1⟩
theorem MtU.fin (x:Ext g T s s₁) (hw:∀ b,Wr env ow b→s.heap.get? b=none) (h:MtU W g T ow env s₁ R j fl s'):OutU W g T W.av s R.val j (flowV fl) s':=by
 cases h with
 | next nx w=>exact nx.rec fun _ _ _ m _=>⟨Mv.trans x.mv m fun b hb=>hb.elim (fun z=>.inr (hw b z)) .inl,.none,w⟩
 | ret r m w=>exact ⟨Mv.trans x.mv m fun b hb=>hb.elim (fun z=>.inr (hw b z)) .inl,r,w⟩
theorem code_meth (M:MF P K g C m f st cl xs) (ok:W.Ok g) (hb:∀ {o fd},g.get? f=some o→o.data=.func fd→Looks (model prog w) g (bindArgs fd ⟨vs,[]⟩) (xs.zip vs')) (rm:Rm (n+1) A) (hg:GK g T s) (hw:W.Ω i s.heap) (hav:AvOk W.av s.heap) (hv:VDs W.av s.heap vs' ds) (hl:ds.length=xs.length)
  (h:∀ (env:Env) (ow:Ow) (s₁:Shared),NewF P g T n f (scopeOf st) cl W.av A s (params xs ds) env ow s₁→FmW W g T ow env (params xs ds) s₁ i→_root_.PySem.wpAt (model prog w) (A.deeper env) (.func (bodyOf st) env) (execs (bodyOf st) env) (MtU W g T ow env s₁ R j) NoE s₁) :
  codeAny (model prog w) A (.call (.ref f) ⟨vs,[]⟩) (Ended (OutU W g T W.av s R.val j)) s :=
 code_callX M.fo M.fs hb (σc:=[]) ⟨fun x c e=>(M.ce x c e).imp fun _ i=>i.keeps hg.keep,M.fr,nofun⟩ rm hg hav hv hl fun env ow s₁ N=>ks_wpAt_mono (h env ow s₁ N (.to ok M hw hg N)) (fun fl s' q=>q.fin N.x N.w) fun _ _ f=>f
theorem code_of (M:MF P K g C m f st cl xs) (ok:W.Ok g) (hl:ds.length=xs.length) (h:SxUL prog w g T n (scopeOf st) W i (params xs ds) (bodyOf st) R j) (rm:Rm (n+1) A) (hg:GK g T s) (hw:W.Ω i s.heap) (hav:AvOk W.av s.heap) (hv:VDs W.av s.heap vs ds):codeAny (model prog w) A (.call (.ref f) ⟨vs,[]⟩) (Ended (OutU W g T W.av s R.val j)) s :=
 code_meth M ok (M.fo.looks (hv.length.trans hl)) rm hg hw hav hv hl fun env ow s₁ N Z=>wpAt_of_wpAny (h _ s₁ ow env N.sc_ N.c N.rm Z)
theorem ClU.of (M:MF P K g C m f st cl xs) (ok:W.Ok g) (hl:ds.length=xs.length) (h:SxUL prog w g T n (scopeOf st) W i (params xs ds) (bodyOf st) R j):ClU prog w g T (n+1) f W i ds R.val j:=⟨fun A s vs rm hg hw hav hv=>wpAny_call (code_of M ok hl h rm hg hw hav hv)⟩
theorem AvOk.app (a:AvOk (av++W.av) s.heap):AvOk W.av s.heap:=fun b hb=>a b (List.mem_append_right _ hb)
theorem RunU.of (h:ClU prog w g T n f W i ds d j) (hd:Flat d):RunU prog w g T n σ f W i ds d j:=⟨fun A s ow env vs rm Z hv=>wp_to (h.run A s vs rm Z.F.gk Z.w Z.F.ec.avok.app (hv.sub fun _=>List.mem_append_right _)) fun v s' q=>by cases q with | mk m r w=>exact ⟨m,hd _ _ _ (r.sub (av':=[]) nofun),w⟩⟩
theorem wp_mcall {M:Model}{E:Value→Shared→Prop}{Q:Value→Shared→Prop}(hm:IsMeth o m apos es pos) (hb:∀ env,attributeBase o m env (eval o env)=eval o env) (h:wpAny M A (eval o env) (fun ov s₁=>∀ pl,wpAny M A (getMethod ov m pl) (fun fx s₂=>wpAny M A (callWith pos fx.1 fx.2 (backTo pos (starEach es env)) []) Q E s₂) E s₁) E s) :
  wpAny M A (eval (.Call (.Attribute o m apos) es [] pos) env) Q E s :=
 (hm env).elim fun pl he=>he▸(hb env).symm▸wpAny_bind (wpAny_mono h (fun ov s₁ h₁=>wpAny_bind (wpAny_standAt (wpAny_bind (wpAny_holding (h₁ pl))))) fun _ _ x=>x)
noncomputable abbrev Finds (prog:Program) (w:World) (g:Heap) (Ω:Heap→Prop) (c f:Addr) (m:Str):Prop:=∀ {A:Around}{s:Shared}{pl:Sem Bool}{Q:Value×List Value→Shared→Prop}{E:Value→Shared→Prop},(∀ b o,g.get? b=some o→s.heap.get? b=some o)→Ω s.heap→Q (.ref f,[.ref c]) s→wpAny (model prog w) A (getMethod (.ref c) m pl) Q E s
theorem VDs.cons0 {h:Heap}(r:VDs av h vs ds):VDs av h (.ref c::vs) (.adr c::ds):=.cons (.adr c) r
section
variable (ok:W.Ok g) (X:K.In g) (hk:keepIn K (.ref f)=true) (hm:IsMeth o m apos es pos) (hb:∀ env,attributeBase o m env (eval o env)=eval o env) (ho:Over g W i fun g'=>Ev prog w g' T n sc σ o (.adr c)) (hf:Finds prog w g (W.Ω i) c f m) (hr:RunU prog w g T n σ f W i (.adr c::ds) d j)
include ok hm hb ho hf hr
theorem EvU.own' (h:∀ {A s₁ ow env}{Q:Value→Shared→Prop},env.scope=sc→Rm n A→FmW W g T ow env σ s₁ i→(∀ {vs s₂},Ext g T s₁ s₂→VDs (ow.adr++W.av) s₂.heap vs ds→wpAny (model prog w) A (call (.ref f) (.ref c::vs)) Q NoE s₂)→wpAny (model prog w) A (callWith pos (.ref f) [.ref c] (backTo pos (starEach es env)) []) Q NoE s₁) :
  EvU prog w g T n sc W i σ (.Call (.Attribute o m apos) es [] pos) d j:=fun A s ow env he rm Z =>
 wp_mcall hm hb (wp_to (EvU.gnd ok ho A s ow env he rm Z) fun ov s₁ h₁ pl=>by
  cases h₁ with | mk m₁ r₁ w₁ =>
  cases r₁.i1
  have Z₁:=Z.out ok m₁ w₁
  exact hf Z₁.F.gk.keep Z₁.w (h he rm Z₁ fun x r=>wp_to (hr.run A _ ow env _ rm (Z₁.ext ok x) r.cons0) fun v s₃ h₃=>by cases h₃ with | mk m₃ r₃ w₃=>exact ⟨m₁.trans (Mv.trans x.mv m₃ fun _ hb=>.inl hb) fun _ hb=>.inl hb,r₃,w₃⟩))
end
theorem EvU.own0 (ok:W.Ok g) (X:K.In g) (hk:keepIn K (.ref f)=true) (hm:IsMeth o m apos [] pos) (hb:∀ env,attributeBase o m env (eval o env)=eval o env) (ho:Over g W i fun g'=>Ev prog w g' T n sc σ o (.adr c)) (hf:Finds prog w g (W.Ω i) c f m)
  (hr:RunU prog w g T n σ f W i [.adr c] d j):EvU prog w g T n sc W i σ (.Call (.Attribute o m apos) [] [] pos) d j :=
 .own' ok hm hb ho hf hr fun he rm Z fin=>callWith_K0 (fun b o e=>Z.F.gk.keep b o (X b o e)) hk (fin .refl .nil)
theorem EvU.own (ok:W.Ok g) (X:K.In g) (hk:keepIn K (.ref f)=true) (hm:IsMeth o m apos (e::es) pos) (hb:∀ env,attributeBase o m env (eval o env)=eval o env) (ho:Over g W i fun g'=>Ev prog w g' T n sc σ o (.adr c)) (hf:Finds prog w g (W.Ω i) c f m) (ha:Over g W i fun g'=>EvL prog w g' T n sc σ (e::es) ds)
  (hr:RunU prog w g T n σ f W i (.adr c::ds) d j):EvU prog w g T n sc W i σ (.Call (.Attribute o m apos) (e::es) [] pos) d j :=
 .own' ok hm hb ho hf hr fun {A s₁ ow env Q} he rm Z fin=>by
  have a:=FmW.over ok Z.F.gk Z.w ha
  refine callWith_K (h₀:=s₁.heap) (fun b o e=>Z.F.gk.keep b o (X b o e)) hk (wp_to (a.run A s₁ _ env pos he rm (Z.F.gk.core .refl) Z.F.ec) fun vs s₂ h₂=>?_) (a.plain.1 env) a.plain.2.any
  have x:=h₂.1.base (g:=g) (Z.F.gk.core .refl)
  exact ⟨fun b o e=>(x.gk Z.F.gk).keep b o (X b o e),fin x h₂.2⟩
end
end
section
structure Part where
 a:Addr
 n:Nat
 x:Str
 t:Tok
 y:Str
 u:Tok
noncomputable abbrev Part.ref (q:Part):Value:=.ref q.a
noncomputable abbrev Part.tx (q:Part):Str×Str:=(q.x,q.y)
noncomputable abbrev Part.obj (q:Part):Obj:=tupO [.str q.x q.t,.str q.y q.u] q.n
noncomputable abbrev Prts (h:Heap) (qs:List Part):Prop:=∀ q∈qs,h.get? q.a=some q.obj
noncomputable abbrev chD (c:Str×Str):D:=.tup [.str c.1,.str c.2]
noncomputable def isz:Str := "_initial_size"
noncomputable def iszE (hs:Int) (tk:Tok) (i:Int) (t:Tok):List DictEntry:=[⟨hs,.str isz tk,.int i t⟩]
structure AccO (CA:Addr) (h:Heap) (c dx:Addr) (qs:List Part) (k kd:Nat) (es:List DictEntry):Prop where
 o:h.get? c=some (accO CA dx (qs.map Part.ref) k)
 d:h.get? dx=some (dictOf es kd)
 p:Prts h qs
inductive AccAt (CA:Addr) (h:Heap) (c dx:Addr) (ps:List (Str×Str)) (i:Int):Prop
 | mk (qs:List Part) (k kd:Nat) (hs:Int) (tk t:Tok) (e:qs.map Part.tx=ps) (a:AccO CA h c dx qs k kd (iszE hs tk i t))
noncomputable abbrev AvL (av:List Addr) (h:Heap):Prop:=∀ a∈av,∃ vs n,h.get? a=some (lstO vs n)
noncomputable abbrev Acc:=List (Str×Str)×Int
noncomputable abbrev accW (CA:Addr) (av:List Addr) (c dx:Addr):Wo Acc:={ av:=av,P:=fun b=>b=c∨b=dx∨b∈av,U:=fun b=>b=c∨b=dx,Ω:=fun i h=>AccAt CA h c dx i.1 i.2∧AvL av h }
section
variable {g:Heap}{T:Tabs}{s s':Shared}{h h':Heap}{CA c dx:Addr}{ps:List (Str×Str)}{qs:List Part}{i:Int}{av:List Addr}{vs:List Value}{k k' kd:Nat}{es:List DictEntry}{b:Addr}{o:Obj}
theorem nt_acc (CA dx:Addr) (vs:List Value) (k:Nat):NT (accO CA dx vs k):=fun _ e=>disc tgO e rfl
theorem nt_dict (es:List DictEntry) (k:Nat):NT (dictOf es k):=fun _ e=>disc tgO e rfl
theorem noc_acc:NoCode (accO CA dx vs k):=⟨fun us q t e=>(disc tgB e rfl).elim,nt_acc _ _ _ _⟩
theorem noc_dict:NoCode (dictOf es k):=⟨fun us q t e=>(disc tgB e rfl).elim,nt_dict _ _⟩
theorem acc_nsq:¬ SeqObj (accO CA dx vs k):=fun ⟨_,_,e⟩=>e.elim (fun e=>disc tgO e rfl) fun e=>disc tgO e rfl
theorem dict_nsq:¬ SeqObj (dictOf es k):=fun ⟨_,_,e⟩=>e.elim (fun e=>disc tgO e rfl) fun e=>disc tgO e rfl
theorem apart {a b:Addr}{o o':Obj}(e:h.get? a=some o) (e':h.get? b=some o') (ht:Nat.beq (tgO o) (tgO o')=false):a≠b:=fun q=>disc tgO (sinj (q▸e) e') ht
theorem Prts.keep (p:Prts h qs) (k:TupK h h'):Prts h' qs:=fun q hq=>k _ _ _ (p q hq)
theorem AccAt.st (a:AccAt CA h c dx ps i) (hk:∀ b o,b=c∨b=dx→h.get? b=some o→h'.get? b=some o) (tk:TupK h h'):AccAt CA h' c dx ps i:=by
 cases a with | mk qs k kd hs tt t e a=>exact ⟨qs,k,kd,hs,tt,t,e,hk _ _ (.inl rfl) a.o,hk _ _ (.inr rfl) a.d,a.p.keep tk⟩
theorem AvL.ok (a:AvL av h):AvOk av h:=fun b hb=>(a b hb).elim fun _ p=>p.elim fun _ e=>⟨_,e,nt_lst _ _⟩
theorem accW_ok (hc:g.get? c=none) (hd:g.get? dx=none):(accW CA av c dx).Ok g where
 up:=fun b hb=>hb.imp id .inl
 off:=fun b hb=>hb.elim (fun e=>e▸hc) fun e=>e▸hd
 obj:=fun i h hw b hb=>by
  cases hw.1 with | mk qs k kd hs tt t e a =>
  rcases hb with rfl | rfl | hb
  ·exact ⟨_,a.o,nt_acc _ _ _ _⟩
  ·exact ⟨_,a.d,nt_dict _ _⟩
  ·exact hw.2.ok b hb
 seq:=fun i h hw b o hb e so=>by
  cases hw.1 with | mk qs k kd hs tt t e' a =>
  rcases hb with rfl | rfl
  ·exact (acc_nsq (sinj e a.o▸so)).elim
  ·exact (dict_nsq (sinj e a.d▸so)).elim
 st:=fun i h h' hw hk tk=>⟨hw.1.st (fun b o hb=>hk b o (hb.imp id .inl)) tk,fun b hb=>(hw.2 b hb).imp fun _ p=>p.imp fun _ e=>hk b _ (.inr (.inr hb)) e⟩
theorem AccO.put {qs':List Part}(a:AccO CA h c dx qs k kd es) (p:Prts h qs') (hs:Heap.SameBut c h h') (e:h'.get? c=some (accO CA dx (qs'.map Part.ref) k')):AccO CA h' c dx qs' k' kd es :=
 ⟨e,(hs.2 _ (apart a.d a.o rfl)).trans a.d,fun q hq=>(hs.2 _ (apart (p q hq) a.o rfl)).trans (p q hq)⟩
theorem AccO.putD {es':List DictEntry}{kd':Nat}(a:AccO CA h c dx qs k kd es) (hs:Heap.SameBut dx h h') (e:h'.get? dx=some (dictOf es' kd')):AccO CA h' c dx qs k kd' es' :=
 ⟨(hs.2 _ (apart a.o a.d rfl)).trans a.o,e,fun q hq=>(hs.2 _ (apart (a.p q hq) a.d rfl)).trans (a.p q hq)⟩
theorem AvL.put {a:Addr}(l:AvL av h) (e':h.get? a=some o) (ht:∀ vs n,Nat.beq (tgO (lstO vs n)) (tgO o)=false) (hs:Heap.SameBut a h h'):AvL av h':=fun b hb=>(l b hb).imp fun _ p=>p.imp fun n e=>(hs.2 b (apart e e' (ht _ n))).trans e
inductive Pair (a b:Str):List Value→Prop
 | mk (t u:Tok):Pair a b [.str a t,.str b u]
theorem VDs.pair {a b:Str}(r:VDs av h vs [.str a,.str b]):Pair a b vs:=by
 cases r.i1 with | mk x r₁ =>
 cases r₁.one1 with | mk y =>
 obtain ⟨t,rfl⟩:=x.i5
 obtain ⟨u,rfl⟩:=y.i5
 exact ⟨t,u⟩
inductive IsPart (h:Heap) (p:Str×Str):Value→Prop
 | mk (q:Part) (e:q.tx=p) (o:h.get? q.a=some q.obj):IsPart h p q.ref
theorem VD.part {v:Value}{p:Str×Str}(r:VD av h v (chD p)):IsPart h p v:=by
 cases r.i7 with | mk na e r₁ =>
 cases r₁.pair with | mk t u=>exact ⟨⟨_,_,_,t,_,u⟩,rfl,e⟩
theorem Part.vd (q:Part) (o:h.get? q.a=some q.obj) (na:q.a∉av):VD av h q.ref (chD q.tx):=.tup na o (.cons (.str _ _) (.cons (.str _ _) .nil))
theorem Prts.vds (p:Prts h qs) (na:∀ q∈qs,q.a∉av):VDs av h (qs.map Part.ref) ((qs.map Part.tx).map chD):=by
 induction qs with
 | nil=>exact .nil
 | cons q qs ih=>exact .cons (q.vd (p q (.head _)) (na q (.head _))) (ih (fun q' h=>p q' (.tail _ h)) fun q' h=>na q' (.tail _ h))
inductive ArePrts (h:Heap) (ps:List (Str×Str)):List Value→Prop
 | mk (qs:List Part) (e:qs.map Part.tx=ps) (p:Prts h qs):ArePrts h ps (qs.map Part.ref)
theorem VDs.parts:∀ {vs:List Value},VDs av h vs (ps.map chD)→ArePrts h ps vs:=by
 induction ps with
 | nil=>exact fun r=>r.i0▸⟨[],rfl,nofun⟩
 | cons p ps ih =>
  intro vs r
  cases r.i1 with | mk x r₁ =>
  cases x.part with | mk q e o =>
  cases ih r₁ with | mk qs e' p=>exact ⟨q::qs,e▸e'▸rfl,fun q' hq=>(List.mem_cons.mp hq).elim (fun z=>z▸o) (p q')⟩
theorem AvL.ntup {q:Part}(l:AvL av h) (o:h.get? q.a=some q.obj):q.a∉av:=fun hm=>(l _ hm).elim fun _ p=>p.elim fun _ e=>apart o e rfl rfl
end
end
section
section
variable {prog:Program}{w:World}{g g':Heap}{T:Tabs}{n:Nat}{sc:Scope}{σ:Sto}{A:Around}{s s₁ s₂:Shared}{ow:Ow}{env:Env}{av:List Addr}{K:Frag}{CA c dx:Addr}{ps qs:List (Str×Str)}{q:Str×Str}{i:Int}{x:Str}{p apos pos spos:Pos}{e:Expr}{E:Value→Shared→Prop}{vs:List Value}{k:Nat}
theorem in_up {h:Heap}(X:K.In g) (k:∀ b o,g.get? b=some o→h.get? b=some o):K.In h:=fun b o e=>k b o (X b o e)
theorem acc_out {h':Heap}{k' kd:Nat}{qs:List Part}{hs:Int}{tk t:Tok}{d:D}{v:Value}{ps':List (Str×Str)}{ps₀:List Part}(hc:g.get? c=none) (m:Mv g T (accW CA av c dx).U s s₁) (q:GK g T s₁) (a:AccO CA s₁.heap c dx ps₀ k kd (iszE hs tk i t)) (al:AvL av s₁.heap) (p:Prts s₁.heap qs) (he:qs.map Part.tx=ps')
  (h:Heap.SameBut c s₁.heap h') (e:h'.get? c=some (accO CA dx (qs.map Part.ref) k')) {av':List Addr}(r:VD av' h' v d):OutU (accW CA av c dx) g T av' s d (ps',i) v { s₁ with heap:=h' } :=
 ⟨m.trans (Mv.one (tk:=s₁.toks) h a.o noc_acc hc (.inl rfl:(accW CA av c dx).U c)) fun _ hb=>.inl hb,r,⟨qs,k',kd,hs,tk,t,he,a.put p h e⟩,al.put a.o (fun _ _=>rfl) h⟩
theorem EvU.accApp (L:LCls K CA) (X:K.In g) (hc:g.get? c=none) (hd:g.get? dx=none) (hm:IsMeth (.Name x p) "append" apos [e] pos) (hself:σ.lookup x=some (.val (.adr c))) (he:Over g (accW CA av c dx) (ps,i) fun g'=>Ev prog w g' T n sc σ e (chD q)) (hst:∀ env,starEach [e] env=[(false,eval e env)]) (hz:ps.length≤900) :
  EvU prog w g T n sc (accW CA av c dx) (ps,i) σ (.Call (.Attribute (.Name x p) "append" apos) [e] [] pos) .none (ps++[q],i):=fun A s ow env hev rm Z=>by
 have ok:=accW_ok (CA:=CA) (av:=av) hc hd
 refine wp_mcall hm (fun _=>rfl) (wp_load Z.F.ec.kind (Z.F.ec.adr hself) fun pl=>?_)
 cases Z.w.1 with | mk qs k kd hs tk t ep a =>
 refine method_bi (in_up X Z.F.gk.keep) (acc_inst a.o a.d) L.ga L.gx L.app PySem.F.type_list_append rfl ?_
 refine callWith_method1 (wp_to ((EvL.more hst (FmW.over ok Z.F.gk Z.w he) EvL.nil).run A s _ env pos hev rm (Z.F.gk.core .refl) Z.F.ec) fun us s₁ h₁=>?_) (hst _) rfl
 have x₁:=h₁.1.base (g:=g) (Z.F.gk.core .refl)
 have g₁:=x₁.gk Z.F.gk
 cases h₁.2.one1 with | mk r =>
 cases r.part with | mk q' eq o' =>
 have a₁:AccO CA s₁.heap c dx qs k kd _:=⟨x₁.get' Z.F.gk a.o (nt_acc _ _ _ _),x₁.get' Z.F.gk a.d (nt_dict _ _),a.p.keep fun _ _ _ e=>x₁.get' Z.F.gk e (nt_tup _ _)⟩
 have hl:(qs.map Part.ref).length≤1000:=by rw [List.length_map, ← List.length_map (f:=Part.tx),ep]; exact Nat.le_trans hz (by decide)
 refine acc_append L (in_up X g₁.keep) a₁.o hl fun h' k' hsm hg=>?_
 refine acc_out hc x₁.mv g₁ a₁ ((FmW.ext ok Z x₁).w.2) (qs:=qs++[q']) (fun z hz=>(List.mem_append.mp hz).elim (a₁.p z) fun hz=>List.mem_singleton.mp hz▸o') (by rw [List.map_append,ep, ← eq]; rfl) hsm (by rw [List.map_append]; exact hg) .none
theorem OutU.next {ι:Type}{W:Wo ι}{i j:ι}{d:D}{v:Value}{s':Shared}{av:List Addr}(ok:W.Ok g) (Z:FmW W g T ow env σ s i) (h:OutU W g T av s d j v s'):MtU W g T ow env s (.next σ) j .next s':=by
 cases h with | mk m r wj=>exact .next ⟨ow,rfl,(Z.out ok m wj).F,m.sub fun _ hb=>.inl (.inr hb),fun _ hb=>.inl hb⟩ wj
theorem acc_len {qs:List Part}{ps:List (Str×Str)}(e:qs.map Part.tx=ps):(qs.map Part.ref).length=ps.length:=by rw [List.length_map, ← e,List.length_map]
theorem cut_at {α:Type}(l r:List α) {lo:Option Int}{j:Nat}(h:lo.elim 0 (clipAt l.length)=j):l.take (sliceBounds lo none none l.length).1.toNat++r++l.drop (max (sliceBounds lo none none l.length).1 (sliceBounds lo none none l.length).2.1).toNat=l.take j++r:=by
 rw [sliceBounds_plain,h]
 have e:l.drop (max (j:Int) (l.length:Int)).toNat=[]:=List.drop_of_length_le (Int.toNat_le_toNat (Int.le_max_right (j:Int) (l.length:Int)))
 exact (congrArg (l.take j++r ++ ·) e).trans (List.append_nil _)
inductive SliR (g:Heap) (T:Tabs) (lo:Option Int) (s:Shared):Value→Shared→Prop
 | mk {a:Addr}{s':Shared}(t:Option (Int×Tok)) (e:t.map (·.1)=lo) (x:Ext g T s s') (i:s'.heap.IsSliceOf a (partValue t) .none .none):SliR g T lo s (.ref a) s'
theorem wp_slc {lo:Option Int}{le:Option Expr}(hl:EvP prog w g T n sc σ le lo) (he:env.scope=sc) (rm:Rm n A) (q:GK g T s) (hc:EC av env σ s.heap):wpAny (model prog w) A (eval (.Slice le none none pos) env) (SliR g T lo s) NoE s :=
 wpAny_Slice (wp_to (wp_part hl he rm q hc) fun v s₂ h=>wpAny_evalPart_none (wpAny_evalPart_none (by cases h with | mk t e x=>exact ⟨t,e,x.trans (.push _),.new ..⟩)))
theorem SxU.accSet {lo:Option Int}{le:Option Expr}{ve:Expr}{j:Nat}(L:LCls K CA) (X:K.In g) (hc:g.get? c=none) (hd:g.get? dx=none) (hself:σ.lookup x=some (.val (.adr c))) (hv:Over g (accW CA av c dx) (ps,i) fun g'=>Ev prog w g' T n sc σ ve (.lst (qs.map chD)))
  (hl:Over g (accW CA av c dx) (ps,i) fun g'=>EvP prog w g' T n sc σ le lo) (hcp:NoC ve) (hz:ps.length≤1000) (hz':qs.length≤1000) (hj:lo.elim 0 (clipAt ps.length)=j) :
  SxU prog w g T n sc (accW CA av c dx) (ps,i) σ (.Assign [.Subscript (.Name x p) (.Slice le none none spos) apos] ve pos) (.next σ) (ps.take j++qs,i):=fun A s ow env hev hoc rm Z=>by
 have ok:=accW_ok (CA:=CA) (av:=av) hc hd
 have cr:=Z.F.gk.core (s₁:=s) .refl
 refine wpAny_Assign_Subscript (wp_to (FmW.over ok Z.F.gk Z.w hv A s _ env hev rm cr Z.F.ec) fun v s₁ h₁=>?_) (hcp _ _ _)
 have g₁:=h₁.1.gk cr
 refine wp_load Z.F.ec.kind ((Z.F.ec.ext h₁.1 cr).adr hself) (wp_to (wp_slc (FmW.over ok Z.F.gk Z.w hl) hev rm g₁ (Z.F.ec.ext h₁.1 cr)) fun v₁ s₂ h₂=>?_)
 cases h₂ with | mk t₁ e₁ x₂ si =>
 have x:=(h₁.1.trans x₂).base (g:=g) cr
 have Z':=Z.ext ok x
 cases (x₂.vd g₁ h₁.2).i8 with | mk na eo r₁ =>
 cases r₁.parts with | mk rs er pr =>
 cases Z'.w.1 with | mk us k kd hs tk t ep a =>
 have hlu:=acc_len ep
 refine acc_setSlice L (in_up X Z'.F.gk.keep) a.o si (e₁▸part_is t₁) .none eo (apart eo a.o rfl) (hlu▸hz) (by rw [acc_len er]; exact hz') fun h' k' hsm hg=>?_
 rw [cut_at _ _ (hlu▸hj), ← List.map_take, ← List.map_append] at hg
 exact (acc_out (av':=[]) hc x.mv Z'.F.gk a Z'.w.2 (fun z hz=>(List.mem_append.mp hz).elim (fun q=>a.p z (List.mem_of_mem_take q)) (pr z)) (by rw [List.map_append,List.map_take,ep,er]) hsm hg .none).next ok Z
end
end
section
structure AccSet (K:Frag) (CA:Addr) (cd:ClassData):Prop where
 sa:findIn K (.ref CA) "__setattr__" = some (some (.builtin "object.__setattr__"))
 cls:clsIn K CA=some cd
 mro:cd.mro=[.ref CA,.type "list",.type "object"]
 tak:takerIn K CA isz=some none
 dict:cd.hasDict=true
structure LCls2 (K:Frag) (CA:Addr):Prop extends LCls K CA where
 nsz:findIn K (.ref CA) isz=some none
inductive IszE:List DictEntry→Prop
 | nil:IszE []
 | one (hs:Int) (tk:Tok) (i:Int) (t:Tok):IszE (iszE hs tk i t)
section
variable {prog:Program}{w:World}{g g':Heap}{T:Tabs}{n:Nat}{sc:Scope}{σ:Sto}{A:Around}{s s₁ s₂:Shared}{ow:Ow}{env:Env}{av:List Addr}{K:Frag}{CA c dx:Addr}{ps:List (Str×Str)}{i j:Int}{x:Str}{p p0 apos pos spos:Pos}{e:Expr}{E:Value→Shared→Prop}{vs:List Value}{k kd:Nat}{cd:ClassData}{es:List DictEntry}{qs:List Part}
theorem set_isz {t:Tok}{Q:Unit→Shared→Prop}(Y:AccSet K CA cd) (X:K.In s.heap) (a:AccO CA s.heap c dx qs k kd es) (hes:IszE es)
  (h:∀ h' kd' hs tk,Heap.SameBut dx s.heap h'→h'.get? dx=some (dictOf (iszE hs tk j t) kd')→Q () { s with heap:=h',toks:=s.toks+2 }):wpAny (model prog w) A (setAttr (.ref c) isz (.int j t)) Q E s:=by
 refine set_attr (l:=[.type "list",.type "object"]) X (acc_inst a.o a.d) rfl Y.sa Y.cls Y.mro (refuse_list _) (by rw [Y.mro]; rfl) Y.tak Y.dict ?_ ?_ fun h' tk hs hg=>?_
 all_goals cases hes
 ·exact rfl
 ·exact rfl
 ·exact Nat.zero_le _
 ·exact (by decide:1≤900)
 ·exact h _ _ _ _ hs hg
 ·exact h _ _ _ _ hs hg
inductive PutI (g:Heap) (T:Tabs) (CA c dx:Addr) (qs:List Part) (k:Nat) (av:List Addr) (j:Int) (s:Shared):Flow→Shared→Prop
 | mk {s':Shared}(kd:Nat) (hs:Int) (tk t:Tok) (m:Mv g T (fun b=>b=dx) s s') (a:AccO CA s'.heap c dx qs k kd (iszE hs tk j t)) (l:AvL av s'.heap):PutI g T CA c dx qs k av j s .next s'
theorem put_isz (Y:AccSet K CA cd) (X:K.In g) (hd:g.get? dx=none) (hes:IszE es) (hself:σ.lookup x=some (.val (.adr c))) (hcp:NoC e) (F:Fm g T av ow env σ s) (he:wpAny (model prog w) A (eval e env) (Out g T (ow.adr++av) s (.int j)) NoE s) (a:AccO CA s.heap c dx qs k kd es) (l:AvL av s.heap) :
  wpAny (model prog w) A (exec (.Assign [.Attribute (.Name x p0) isz apos] e pos) env) (PutI g T CA c dx qs k av j s) NoE s:=by
 refine plainObj_wpAny_Assign_Attribute (wp_to he fun v s₁ h₁=>?_) (hcp _ _ _)
 have F₁:=F.ext h₁.1
 have a₁:AccO CA s₁.heap c dx qs k kd es:=⟨h₁.1.get' F.gk a.o (nt_acc _ _ _ _),h₁.1.get' F.gk a.d (nt_dict _ _),a.p.keep fun _ _ _ e=>h₁.1.get' F.gk e (nt_tup _ _)⟩
 have l₁:AvL av s₁.heap:=fun b hb=>(l b hb).imp fun _ z=>z.imp fun _ e=>h₁.1.get' F.gk e (nt_lst _ _)
 obtain ⟨t,rfl⟩:=h₁.2.i4
 refine wp_load F₁.ec.kind (F₁.ec.adr hself) (set_isz Y (in_up X F₁.gk.keep) a₁ hes fun h' kd' hs tk hsm hg=>?_)
 exact ⟨kd',hs,tk,t,Mv.trans h₁.1.mv (Mv.one (W:=fun b=>b=dx) hsm a₁.d noc_dict hd rfl) fun _ hb=>.inl hb,a₁.putD hsm hg,l₁.put a₁.d (fun _ _=>rfl) hsm⟩
theorem SxU.accIsz (Y:AccSet K CA cd) (X:K.In g) (hc:g.get? c=none) (hd:g.get? dx=none) (hself:σ.lookup x=some (.val (.adr c))) (hcp:NoC e) (he:Over g (accW CA av c dx) (ps,i) fun g'=>Ev prog w g' T n sc σ e (.int j)) :
  SxU prog w g T n sc (accW CA av c dx) (ps,i) σ (.Assign [.Attribute (.Name x p0) isz apos] e pos) (.next σ) (ps,j):=fun A s ow env hev hoc rm Z=>by
 have ok:=accW_ok (CA:=CA) (av:=av) hc hd
 cases Z.w.1 with | mk qs k kd hs tk t ep a =>
 refine wp_to (put_isz (j:=j) Y X hd (.one ..) hself hcp Z.F (Ev.core (FmW.over ok Z.F.gk Z.w he) hev rm Z.F.gk Z.F.ec) a Z.w.2) fun fl s' h=>?_
 cases h with | mk kd hs tk t m a l=>exact (OutU.mk (W:=accW CA av c dx) (j:=(ps,j)) (av:=[]) (d:=.none) (v:=.none) (m.sub fun _ hb=>.inl (.inr hb)) .none ⟨⟨qs,k,kd,hs,tk,t,ep,a⟩,l⟩).next ok Z
noncomputable abbrev IsAttr (o:Expr) (m:Str) (pos:Pos):Prop:=∀ env,eval (.Attribute o m pos) env=(do
 let v ← eval o env
 standAt pos.atName
 let r ← holding [v] (getAttr v m true)
 letTemporaryGo o v r
 pure r)
noncomputable abbrev Gets (prog:Program) (w:World) (g:Heap) (T:Tabs) (c:Addr) (m:Str) (d:D):Prop:=∀ {A:Around}{s:Shared},(∀ b o,g.get? b=some o→s.heap.get? b=some o)→wpAny (model prog w) A (getAttr (.ref c) m true) (Out g T [] s d) NoE s
theorem Ev.attr {o:Expr}{m:Str}{d:D}(hi:IsAttr o m pos) (ho:Ev prog w g T n sc σ o (.adr c)) (hg:Gets prog w g T c m d) (hd:Flat d):Ev prog w g T n sc σ (.Attribute o m pos) d:=fun A s av env he rm q hc =>
 Attribute_any_ (wp_to (ho A s av env he rm q hc) fun v s₁ h₁=>by
  cases h₁.2.i1
  exact wp_to (hg (h₁.1.gk q).keep) fun v s₂ h₂=>⟨h₁.1.trans h₂.1,hd _ _ _ h₂.2⟩) (hi env)
theorem gets_isz (L:LCls2 K CA) (X:K.In g) (at_:AccAt CA g c dx ps i):Gets prog w g T c isz (.int i):=fun k=>by
 cases at_ with | mk qs kk kd hs tk t ep a=>exact lget_value (in_up X k) (acc_inst (k _ _ a.o) (k _ _ a.d)) L.ga L.gx (acc_isl L.toLCls (in_up X k) (k _ _ a.o)) (findObj_own L.hd L.nsz (by rfl) (by rfl)) rfl out_int
theorem acc_tail {value slice:Expr}{sv:Value}{ops:List Value}{Q:Value→Shared→Prop}(F:LCls K CA) (X:K.In s.heap) (ho:s.heap.get? c=some (accO CA dx vs k)) (hg:wpAny (model prog w) A (getItem (.ref c) sv) Q E s)
  (hs:subscripted slice false (.ref c) sv=operate ops (getItem (.ref c) sv)):wpAny (model prog w) A (subscriptTail value slice (.ref c) sv) Q E s:=by
 unfold subscriptTail
 refine wpAny_bind ?_
 rw [getitemInPython_of_ne (by intro q; exact (disc tgV q rfl).elim)]
 have ht:Looks (model prog w) s.heap (typeOf (.ref c)) (.ref CA):=(Looks.ld ho).andThen .now
 have fin:wpAny (model prog w) A (subscripted slice false (.ref c) sv) (fun r s₃=>wpAny (model prog w) A (letTemporaryGo value (.ref c) r >>= fun _=>pure r) Q E s₃) E s:=by
  rw [hs]
  exact wpAny_operating (wpAny_mono hg (fun r s₃ h₃=>wpAny_bind (wpAny_letTemporaryGo (wpAny_pure h₃))) fun _ _ x=>x)
 unfold specialOf
 refine wpAny_bind (wpAny_bind (ht.here ((looks_findIn X F.gi).here ?_)))
 simp only [PySem.F.slot_list_getitem.bind]
 first
  | exact wpAny_bind (wpAny_pure (wpAny_pure (wpAny_bind fin)))
  | exact wpAny_bind (wpAny_pure (wpAny_bind fin))
  | exact wpAny_pure (wpAny_bind fin)
  | exact wpAny_pure (wpAny_pure (wpAny_bind fin))
theorem FmW.lists {ι:Type}{W:Wo ι}{i:ι}(Z:FmW W g T ow env σ s i) (l:AvL W.av s.heap):AvL (ow.adr++W.av) s.heap:=fun a ha=>(List.mem_append.mp ha).elim (Z.F.isl a) (l a)
theorem EvU.accFrom {le:Expr}{j:Nat}(L:LCls K CA) (X:K.In g) (hc:g.get? c=none) (hd:g.get? dx=none) (hself:σ.lookup x=some (.val (.adr c))) (hl:Ev prog w g T n sc σ le (.int (j:Int))) (hz:ps.length≤900) :
  EvU prog w g T n sc (accW CA av c dx) (ps,i) σ (.Subscript (.Name x p) (.Slice (some le) Option.none Option.none spos) pos) (.lst ((ps.drop j).map chD)) (ps,i):=fun A s ow env he rm Z=>by
 have ok:=accW_ok (CA:=CA) (av:=av) hc hd
 refine Subscript_ (wp_load Z.F.ec.kind (Z.F.ec.adr hself) (wp_to (wp_slc (.some' hl) he rm Z.F.gk Z.F.ec) fun v₁ s₂ h₂=>?_))
 cases h₂ with | mk t₁ e₁ x si =>
 have Z':=Z.ext ok x
 cases Z'.w.1 with | mk qs kk kd hs tk t ep a =>
 obtain ⟨ops,hs⟩:=subscripted_slice (some le) Option.none Option.none spos (.ref c) (.ref _)
 refine acc_tail L (in_up X Z'.F.gk.keep) a.o (acc_slice L (in_up X Z'.F.gk.keep) a.o si (e₁▸part_is t₁) .none .none nofun ?_ (by rw [List.size_toArray,acc_len ep]; exact Nat.le_trans hz (by decide))) hs
 have ep:qs.map Part.tx=ps:=ep
 subst ep
 rw [slicePick_from']
 have p':Prts _ (qs.drop j):=fun q hq=>a.p q (List.mem_of_mem_drop hq)
 have o:=out_lst (g:=g) (T:=T) (n:=0) (tk:=s₂.toks) Z'.F.ec.avok (p'.vds fun q hq=>(Z'.lists Z'.w.2).ntup (p' q hq))
 rw [List.map_drop (f:=Part.ref),List.map_drop (f:=Part.tx)] at o
 exact ⟨(x.trans o.1).mv,o.2,ok.ext o.1 Z'.F.gk Z'.w⟩
end
end
section
section
variable {prog:Program}{w:World}{A:Around}{E:Value→Shared→Prop}{s:Shared}{K:Frag}{CA c dx I:Addr}{vs:List Value}{k j:Nat}{qs:List Part}{h h':Heap}
theorem acc_iter {Q:Value→Shared→Prop}(F:LCls K CA) (X:K.In s.heap) (ho:s.heap.get? c=some (accO CA dx vs k))
  (hQ:Q (.ref s.heap.objs.size) { s with heap:=s.heap.push { cls:=.type "list_iterator",data:=.fields #[.ref c,.int 0 0] } }) :
  wpAny (model prog w) A (pyIter (.ref c)) Q E s:=by
 have ht:Looks (model prog w) s.heap (typeOf (.ref c)) (.ref CA):=(Looks.ld ho).andThen .now
 have hl:=looks_findIn (M:=model prog w) X F.it
 unfold pyIter
 refine wpAny_bind (wpAny_bind (ht.here (hl.here ?_)))
 show wpAny _ _ (callSpecialIfBoundUnlessNone? (.ref c) "__iter__" _ >>= _) _ _ _
 refine wpAny_bind ?_
 simp only [callSpecialIfBoundUnlessNone?,bindSpecialIfBound?]
 refine wpAny_holding (wpAny_bind (wpAny_bind (wpAny_bind (ht.here (hl.here ?_)))))
 simp only [PySem.F.slot_list_iter.bind]
 refine wpAny_bind (wpAny_askSetting (wpAny_ite ?_))
 have fin0:wpAny (model prog w) A (call (.builtin "list.__iter__") [.ref c]) (fun v s'=>wpAny (model prog w) A (specialOf v "__next__") (fun r s''=>r.isSome=true∧Q v s'') E s') E s:=by
  refine call_sub kind_it (by decide +kernel:splitId "list.__iter__" = some ("list", "__iter__")) PySem.F.slot_list_iter.plain PySem.F.entry_list_iter (acc_isl F X ho) (PySem.F.args_list_iter_1 _) ?_
  show wpAny _ _ (do ret (← newFields "list_iterator" [.ref c,rawInt 0])) _ _ s
  refine wpAny_bind (wpAny_newObj_type (wpAny_pure ⟨_,rfl,?_⟩))
  exact wpAny_specialOf (T := "list_iterator") ⟨_,Heap.get?_push_size _ rfl,rfl⟩ slot_listiter_next.lookup ⟨rfl,hQ⟩
 have fin:∀ {refuse:Sem Value}{k:Option Value→Sem Value},(∀ v,k (some v)=(specialOf v "__next__" >>= fun r=>match r with
   | none=>(do rule "iter.non-iterator"; raiseError "TypeError" s!"iter() returned non-iterator of type '{← typeNameOf v}'")
   | some _=>pure v))→wpAny (model prog w) A (if (Value.builtin "list.__iter__" == Value.none)=true then (refuse >>= fun v=>pure (some v)) else (call (.builtin "list.__iter__") [.ref c] >>= fun v=>pure (some v))) (fun a s'=>wpAny (model prog w) A (k a) Q E s') E s:=by
  intro refuse k hk
  rw [if_neg (by decide)]
  refine wpAny_bind (wpAny_mono fin0 (fun v s' h'=>wpAny_pure ?_) fun _ _ h'=>h')
  rw [hk]
  refine wpAny_bind (wpAny_mono h' (fun r s'' hr=>?_) fun _ _ h'=>h')
  cases r with
  | none=>exact nomatch hr.1
  | some r=>exact wpAny_pure hr.2
 split
 ·exact wpAny_bind (wpAny_pure (wpAny_pure (fin fun v=>rfl)))
 ·exact wpAny_tryCatch (wpAny_bind (wpAny_pure (wpAny_pure (fin fun v=>rfl))))
theorem acc_draw {Q:Option Value→Shared→Prop}(hit:h.IsListIter I c j) (e:s.heap=h) (ho:h.get? c=some (accO CA dx vs k))
  (hx:∀ h',Heap.SameBut I h h'→∀ x,vs[j]?=some x→h'.IsListIter I c (j+1)→Q (some x) { s with heap:=h' }) (hh:A.handled=none) (h0:∀ h',Heap.ExtBut I h h'→vs[j]?=none→Q none { s with heap:=h' }) :
  wpAny (model prog w) A (pyNext (.ref I)) Q E s:=by
 subst e
 obtain ⟨o,hI,hc,hd⟩:=id hit
 unfold pyNext
 refine wpAny_bind (wpAny_attempt (wpAny_callSpecial?_slot (name:=Str.ofString "__next__") hit.typeIs slot_listiter_next (wpAny_call_entry slot_listiter_next hit.typeIs entry_listiter_next ?_ (args_listiter_next _))))
 show wpAny _ _ (field (.ref I) 0 >>= _) _ _ s
 refine wpAny_bind (wpAny_field hI hd (x:=.ref c) rfl ?_)
 show wpAny _ _ (if (Value.ref c==Value.none)=true then _ else _) _ _ s
 rw [if_neg (show ¬ ((Value.ref c==Value.none)=true) from Bool.false_ne_true)]
 show wpAny _ _ (field (.ref I) 1 >>= _) _ _ s
 refine wpAny_bind (wpAny_field hI hd (x:=.int j 0) rfl ?_)
 show wpAny _ _ (seqItems? (.ref c) >>= _) _ _ s
 refine wpAny_bind (wpAny_seqItems ho rfl ?_)
 show wpAny _ _ (match vs.toArray[j]? with | some x=>_ | none=>_) _ _ s
 rw [List.getElem?_toArray]
 cases e:vs[j]? with
 | some x =>
  exact wpAny_bind (wpAny_setField hI hd (by simp) (wpAny_pure ⟨x,rfl,wpAny_pure (hx _ (Heap.SameBut.update ..) x e ⟨_,Heap.get?_update_self _ hI (Obj.isFreed_of_fields (Obj.data_mapFields hd _)),(Obj.cls_mapFields ..).trans hc,by
   rw [Obj.data_mapFields hd]; rfl⟩)⟩))
 | none =>
  refine wpAny_bind (wpAny_rule (wpAny_bind (wpAny_setField hI hd (by simp) ?_)))
  show wpAny _ _ (newExc (.type "StopIteration") [] >>= _) _ _ _
  refine wpAny_bind ?_
  simp only [newExc,newTuple]
  refine wpAny_bind (wpAny_newObj_type ?_ (by size_fits))
  refine wpAny_bind (m:=firstArgMember _ _) (wpAny_of_eq (a:=Value.none) (by first | rfl | (simp only [firstArgMember]; rfl)) ?_)
  refine wpAny_newObj_type ?_ (by size_fits)
  simp only [raiseNew]
  refine wpAny_bind (wpAny_handled ?_)
  rw [show A.in1.handled=none from hh]
  refine wpAny_bind (wpAny_pure (wpAny_throw ?_))
  refine wpAny_bind (wpAny_isInstance (T := "StopIteration") (b:=true) ⟨_,Heap.get?_push_size _ rfl,rfl⟩ isSubtype_stop ?_)
  exact wpAny_pure (h0 _ (((Heap.SameBut.update ..).extBut.push _).push _) e)
structure AWalk (CA c dx:Addr) (qs:List Part) (k:Nat) (I:Addr) (j:Nat) (h:Heap):Prop where
 it:h.IsListIter I c j
 o:h.get? c=some (accO CA dx (qs.map Part.ref) k)
 p:Prts h qs
theorem AWalk.off {b:Addr}(a:AWalk CA c dx qs k I j h) (hb:b=c∨∃ q∈qs,q.a=b):b≠I:=fun z=>by
 obtain ⟨o,e,hc,hd⟩:=a.it
 rcases hb with rfl | ⟨q,hq,rfl⟩
 ·exact disc tgB ((congrArg Obj.data (sinj (z▸a.o) e)).trans hd) rfl
 ·exact disc tgB ((congrArg Obj.data (sinj (z▸a.p q hq) e)).trans hd) rfl
theorem AWalk.on (a:AWalk CA c dx qs k I j h) {j':Nat}(hk:∀ b,b≠I→∀ o,h.get? b=some o→h'.get? b=some o) (i:h'.IsListIter I c j'):AWalk CA c dx qs k I j' h':=⟨i,hk c (a.off (.inl rfl)) _ a.o,fun q hq=>hk _ (a.off (.inr ⟨q,hq,rfl⟩)) _ (a.p q hq)⟩
theorem acc_walks (hh:A.handled=none) :
  WalksU prog w A I (I::c::qs.map Part.a) [I] qs.length (fun i vals=>∃ q,qs[i]?=some q∧vals = #[.str q.x q.t,.str q.y q.u]) (AWalk CA c dx qs k I) (fun i T h=>AWalk CA c dx qs k I (i+1) h∧T≠I) where
 sub:=fun b hb=>List.mem_singleton.mp hb▸.head _
 frame:=fun i h h' st hk=>⟨st.it.at fun o e=>hk I (.head _) o e,hk c (.tail _ (.head _)) _ st.o,fun q hq=>hk _ (.tail _ (.tail _ (List.mem_map.mpr ⟨q,hq,rfl⟩))) _ (st.p q hq)⟩
 item:=fun i s Q E hi st hQ=>acc_draw st.it rfl st.o (fun h' hs x hx i'=>by
  rw [List.getElem?_map] at hx
  obtain ⟨q,hq,rfl⟩:=Option.map_eq_some_iff.mp hx
  have hm:=List.mem_of_getElem? hq
  have st':=st.on (fun b hb o e=>(hs.2 b hb).trans e) i'
  exact hQ _ _ h' s.toks ⟨q,hq,rfl⟩ ⟨_,st'.p q hm,rfl,_,rfl⟩ ⟨st',st.off (.inr ⟨q,hm,rfl⟩)⟩ fun b o hb e=>(hs.2 b fun q=>hb (q▸.head _)).trans e) hh fun h' hs hx=>by
  rw [List.getElem?_map,List.getElem?_eq_getElem hi] at hx
  exact nomatch hx
 go:=fun elts kk pos i T s Q E hm hQ=>by
  obtain ⟨o,ho,hc,hd⟩:=hm.1.it
  unfold letOwnedTupleGo
  refine wpAny_bind (wpAny_load ho ?_)
  rw [hc,hd]
  show wpAny _ A (if (_&&_)=true then _ else _) Q E s
  rw [if_neg (by intro z; simp at z)]
  exact wpAny_pure (hQ _ hm.1 fun _ _ _ e=>e)
 apart:=fun i T h hm hT=>hm.2 (List.mem_singleton.mp hT)
 done:=fun s Q E st hQ=>acc_draw st.it rfl st.o (fun h' hs x hx _=>nomatch (List.getElem?_eq_none (by rw [List.length_map]; exact Nat.le_refl _)).symm.trans hx) hh fun h' hs _=>hQ h' s.toks fun b o hb e=>hs b o (fun q=>hb (q▸.head _)) e
 self:=fun i s Q E st hQ=>wpAny_pyIter_listiter st.it hQ
end
end
section
section
variable {prog:Program}{w:World}{g:Heap}{T:Tabs}{K:Frag}{n:Nat}{s s' s₀:Shared}{CA c dx a:Addr}{ps:List (Str×Str)}{i:Int}{av:List Addr}{ow:Ow}{env:Env}{σ:Sto}{A:Around}{qs:List Part}{Fv:Nat→Value→Prop}{W:Addr→Prop}
theorem ext_tab0 {P c':Addr}{q:Str}{tab:Array Value}{h':Heap}{tk:Nat}{line col:Int}{t1 t2:Tok}(hone:∀ P q q',(P,q)∈T→(P,q')∈T→q=q') (hm:(P,q)∈T) (hP:s.heap.get? P=some (tabObj tab)) (htr:TriplesOk tab.toList) (hcs:∀ pos cv,codeAmong pos tab.toList=some cv→s.heap.CodeRec cv q)
  (hx:Heap.ExtBut P s.heap h') (hrec:h'.CodeRec (.ref c') q) (htb:h'.get? P=some (tabObj (tab ++ #[Value.int line t1,Value.int col t2,Value.ref c']))) (htr':TriplesOk (tab ++ #[Value.int line t1,Value.int col t2,Value.ref c']).toList) :
  Ext g T s { s with heap:=h',toks:=tk }:=by
 refine ⟨rfl,rfl,fun b ob e hoff=>hx b ob (fun z=>hoff _ hm z.symm) e,fun Q=>⟨fun b ob e=>hx b ob (fun z=>nos (Q.off _ hm) (z▸e)) (Q.keep b ob e),fun p hp=>?_,Q.off,Q.bare⟩⟩
 by_cases hpP:p.1=P
 ·cases hone _ _ _ (hpP▸hp:(P,p.2)∈T) hm
  refine ⟨_,hpP▸htb,htr',fun pos cv hc=>?_⟩
  rw [Array.toList_append] at hc
  exact (among_snoc htr hc).elim (fun h=>code_at (hcs pos cv h) fun c o vs t e2 e3 e4=>hx c o (fun z=>tab_no_code htr (sinj (z▸e2) hP▸e3) e4) e2) fun e=>e▸hrec
 ·exact (Q.tabs p hp).off hP htr hpP fun b o n e=>hx b o n e
inductive Cod (g:Heap) (T:Tabs) (s:Shared) (s':Shared):Prop
 | mk (x:Ext g T s s') (e:s'.gens=s.gens)
theorem wp_genCode {q:Str}{pos:Pos}{scope:Scope}(hg:GK g T s) (mk:MakerOk g T env.code q):wpAny (model prog w) A (genexprCode env pos q scope) (fun _ s'=>Cod g T s s') NoE s:=by
 cases mk with | mk mg c P hcode hns hcd hb hm one =>
 obtain ⟨tab,hP,htr,hcs⟩:=hg.tabs (P,q) hm
 have hcd':=hcd.keeps hg.keep
 cases hf:codeAmong pos tab.toList with
 | none=>exact wpAny_genexprCodeX hcode (hcd'.code hP htr) (hcd'.tab hP) hf fun c' h' tk hx hge hlt hic hrec htb _=>⟨ext_tab0 one hm hP htr hcs hx hrec htb.2 (by rw [Array.toList_append]; exact TriplesOk_snoc _ _ _ _ htr),rfl⟩
 | some cv=>exact wpAny_genexprCode_hit hcode (hcd'.code hP htr) hf ⟨.refl,rfl⟩
theorem wp_bltFor {q:Str}{Q:Addr→Shared→Prop}(hg:GK g T s) (mk:MakerOk g T env.code q) (hge:env.globals=mainGlobals) (h:Q builtinsNs s):wpAny (model prog w) A (builtinsFor env.globals env.builtins) Q NoE s:=by
 cases mk with | mk mg c P hcode hns hcd hb hm one =>
 obtain ⟨bm,o,b1,b2,b3,b4,b5,b6,b7,b8⟩:=hb
 rw [hge]
 exact wpAny_builtinsFor (hns.keeps hg.keep) b1 b2 (hg.keep _ _ b5) b6 b7 b8 h
inductive GenRdy (prog:Program) (w:World) (g:Heap) (T:Tabs) (A:Around) (s₀ s:Shared) (a:Addr) (n:Nat) (Fv:Nat→Value→Prop):Prop
 | mk (fp wr:List Addr) (G:Array GenState→Array GenState→Prop) (P:Nat→Value→Prop) (St:Nat→Shared→Prop) (W:WalksS prog w A.in4 a fp wr G n P St) (st:St 0 s) (lt:∀ b∈fp,b<s.heap.objs.size) (val:∀ j v,P j v→Fv j v)
  (aft:∀ s',(∀ b o,b∉wr→s.heap.get? b=some o→s'.heap.get? b=some o)→G s.gens s'.gens→s'.drawn=s.drawn→s'.os=s.os→Ext g T s₀ s') (ty:∀ i s',St i s'→s'.TypeIs (.ref a) "generator") (m:a∈fp)
theorem GenRdy.tok (R:GenRdy prog w g T A s₀ s a n Fv) (k:Nat):GenRdy prog w g T A s₀ { s with toks:=s.toks+k } a n Fv:=by
 cases R with | mk fp wr G P St W st lt val aft ty m=>exact ⟨fp,wr,G,P,St,W,W.frame 0 s s.heap _ st (Nat.le_add_right ..) fun b _ o e=>e,lt,val,aft,ty,m⟩
theorem GenRdy.imp {Fv':Nat→Value→Prop}(R:GenRdy prog w g T A s₀ s a n Fv) (h:∀ j v,Fv j v→Fv' j v):GenRdy prog w g T A s₀ s a n Fv':=by
 cases R with | mk fp wr G P St W st lt val aft ty m=>exact ⟨fp,wr,G,P,St,W,st,lt,fun j v q=>h j v (val j v q),aft,ty,m⟩
theorem passing_all (m:Nat):passing (fun _=>true) m 0=List.range m:=by unfold passing; rw [List.drop_zero]; exact List.filter_eq_self.mpr fun _ _=>rfl
structure GenSc (scope:Scope) (xa xb:Str):Prop where
 co:scope.isCoroutine=false
 clo:∀ env,closureFor scope env=pure []
 cell:∀ y∈scope.names,y.2≠.cell
 it:scope.names.lookup (".0" : Str)=some NameKind.local
 la:scope.names.lookup xa=some .local
 lb:scope.names.lookup xb=some .local
 ne:xa≠xb
 kind:scope.kind=.function
structure GenAtE (g:Heap) (scope:Scope) (xa xb:Str) (q:Part) (env genv:Env) (s:Shared):Prop where
 ec:∀ x v,x=xa∧v=Value.str q.x q.t∨x=xb∧v=.str q.y q.u→okName x=true→Loads genv s.heap x v
 sc:genv.scope=scope
 glob:genv.globals=env.globals
 blt:genv.builtins=builtinsNs
 keep:∀ b o,g.get? b=some o→s.heap.get? b=some o
theorem wp_gen {xs:Str}{p1 pa pb pt pos:Pos}{xa xb:Str}{kt:Nat}{elt:Expr}{scope:Scope}{Fv:Part→Value→Prop}{k kd:Nat}{es:List DictEntry}(S:GenSc scope xa xb) (F:Fm g T av ow env σ s) (L:LCls K CA) (X:K.In g) (hlim:g.NoLimit) (rm:Rm n A) (hself:σ.lookup xs=some (.val (.adr c)))
  (ha:AccO CA s.heap c dx qs k kd es) (mk:MakerOk g T env.code (env.qual ++ "<genexpr>"))
  (helt:∀ (A':Around) E' q (s₂:Shared) genv,A'.handled=none→q∈qs→GenAtE g scope xa xb q env genv s₂→wpAny (model prog w) A' (eval elt genv) (fun y s₃=>Fv q y∧Keeps s₂ s₃) E' s₂) :
  wpAny (model prog w) A (eval (.GeneratorExp elt [⟨.Tuple [.Name xa pa,.Name xb pb] kt pt,.Name xs p1,[],0⟩] scope pos) env) (fun v s'=>∃ a,v=.ref a∧Ext g T s s'∧GenRdy prog w g T A s s' a qs.length fun j v=>∃ q,qs[j]?=some q∧Fv q v) NoE s:=by
 have hg:=F.gk
 refine wpAny_GeneratorExp_walksQT rm.hand S.co (S.clo _) S.cell S.it S.la S.lb S.ne S.kind (by have:=rm.depth; lia) ?_ (fun x=>by unfold genFold foldedSetIterable; rfl)
 refine wp_load F.ec.kind (F.ec.adr hself) (acc_iter L (in_up X hg.keep) ha.o ?_)
 have x₂:Ext g T s { s with heap:=s.heap.push { cls:=.type "list_iterator",data:=.fields #[.ref c,.int 0 0] } }:=.push _
 have st₂:AWalk CA c dx qs k s.heap.objs.size 0 (s.heap.push { cls:=.type "list_iterator",data:=.fields #[.ref c,.int 0 0] }):=⟨⟨_,Heap.get?_push_size _ rfl,rfl,rfl⟩,Heap.get?_push_of_some _ ha.o,fun q hq=>Heap.get?_push_of_some _ (ha.p q hq)⟩
 generalize hs2:({ s with heap:=s.heap.push { cls:=.type "list_iterator",data:=.fields #[.ref c,.int 0 0] } }:Shared)=s₂ at *
 have st₂:AWalk CA c dx qs k s.heap.objs.size 0 s₂.heap:=hs2▸st₂
 have gens₂:s₂.gens=s.gens:=hs2▸rfl
 have g₂:=x₂.gk hg
 refine ⟨hlim.keeps g₂.keep,wp_to (wp_genCode g₂ mk) fun code s₃ h₃=>?_⟩
 cases h₃ with | mk x₃ gens₃ =>
 have g₃:=x₃.gk g₂
 have x:=x₂.trans x₃
 have k₃:∀ b o,s₂.heap.get? b=some o→NT o→s₃.heap.get? b=some o:=fun b o e nt=>x₃.get' g₂ e nt
 have st₃:AWalk CA c dx qs k s.heap.objs.size 0 s₃.heap:=⟨st₂.it.imp fun o z=>⟨k₃ _ _ z.1 (by rintro ps rfl; exact nomatch z.2.1),z.2⟩,k₃ _ _ st₂.o (nt_acc _ _ _ _),fun q hq=>k₃ _ _ (st₂.p q hq) (nt_tup _ _)⟩
 have hst:∀ b∈s.heap.objs.size::c::qs.map Part.a,b<s₃.heap.objs.size:=fun b hb=>by
  rcases List.mem_cons.mp hb with rfl | hb
  ·exact st₃.it.elim fun o z=>Heap.lt_size z.1
  ·rcases List.mem_cons.mp hb with rfl | hb
   ·exact Heap.lt_size st₃.o
   ·obtain ⟨q,hq,rfl⟩:=List.mem_map.mp hb; exact Heap.lt_size (st₃.p q hq)
 have old:∀ b o,g.get? b=some o→b≠s.heap.objs.size:=fun b o e z=>Nat.lt_irrefl _ (Heap.lt_size (z▸hg.keep b o e))
 refine wp_bltFor g₃ mk F.ec.glob ⟨s.heap.objs.size,_,_,_,_,_,_,(fun _=>true),(fun i y=>∃ q,qs[i]?=some q∧Fv q y),rfl,fun A' hA=>acc_walks hA,fun i vals hp=>hp.elim fun q z=>⟨_,_,z.2⟩,st₃,hst,hlim.keeps g₃.keep,?_,fun href hkp=>⟨fun A' E' j va vb s₅ m₂ hA hp hn ha hb hk=>?_,fun A' E' j va vb s₅ m₂ hA hp _ hn ha hb hk=>?_⟩,fun a h₅ tk gs hgs hlt hsz hk W G0=>?_⟩
 ·obtain ⟨mc,⟨o,_,_,e,_⟩,_⟩:=hlim
  exact fun hm=>old _ o e (List.mem_singleton.mp hm)
 ·rw [List.forIn_nil]
  exact wpAny_pure ⟨rfl,_,_,rfl,fun _ _ e=>e⟩
 ·obtain ⟨q,hq,e⟩:=hp
  cases e
  refine wpAny_mono (helt A' E' q s₅ _ hA (List.mem_of_getElem? hq) ⟨?_,rfl,rfl,rfl,fun b o e=>?_⟩) (fun y s₆ h=>⟨⟨q,hq,h.1⟩,h.2⟩) fun _ _ e=>e
  ·rintro x v (⟨rfl,rfl⟩ | ⟨rfl,rfl⟩) ok
   ·exact .loc ok S.la m₂ hn ha
   ·exact .loc ok S.lb m₂ hn hb
  ·have e3:=g₃.keep b o e
   exact hk b (List.mem_range.mpr (Heap.lt_size e3)) (fun z=>old b o e (List.mem_singleton.mp z)) o (hkp b o e3)
 ·rw [passing_all,List.length_range] at W
  have x₅:Ext g T s { s₃ with gens:=s₃.gens.push gs,toks:=tk,heap:=h₅ }:=x.trans ⟨rfl,rfl,fun b o e _=>hk b o e,fun Q=>⟨fun b o e=>hk b o (Q.keep b o e),fun p hp=>(Q.tabs p hp).keeps hk,Q.off,fun y hy=>(Array.mem_push.mp hy).elim (Q.bare y) fun z=>z▸hgs⟩⟩
  refine ⟨a,rfl,x₅,_,_,_,_,_,W,G0,fun b hb=>?_,fun j v hv=>?_,fun s' mh mg md mo=>?_,fun i s' st=>st.1.typeIs,.head _⟩
  ·show (b:Nat)<h₅.objs.size
   have e1:(h₅.objs.size:Nat)=(a:Nat)+1:=hsz
   have e2:(s₃.heap.objs.size:Nat)<(a:Nat):=hlt
   rw [e1]
   rcases List.mem_cons.mp hb with q | hb
   ·exact q▸Nat.lt_succ_self _
   ·exact Nat.lt_succ_of_lt ((List.mem_cons.mp hb).elim (fun q=>q▸e2) fun hb=>Nat.lt_trans (List.mem_range.mp hb) e2)
  ·obtain ⟨i',hi',q,hq,hF⟩:=hv
   obtain ⟨_,e⟩:=List.getElem?_eq_some_iff.mp hi'
   rw [List.getElem_range] at e
   exact ⟨q,e▸hq,hF⟩
  ·have hz:∀ b,(b=s₃.heap.objs.size∨b=s.heap.objs.size)→s.heap.get? b=none:=fun b hb=>hb.elim (fun z=>z▸x.none hg (size_fresh _)) fun z=>z▸size_fresh _
   have hw:∀ b,b∈s₃.heap.objs.size::[s.heap.objs.size]→b=s₃.heap.objs.size∨b=s.heap.objs.size:=fun b hb=>(List.mem_cons.mp hb).imp id List.mem_singleton.mp
   refine ⟨md.trans x₅.dr,mo.trans x₅.os,fun b o e ho=>mh b o (fun hb=>nos (hz b (hw b hb)) e) (x₅.keep b o e ho),fun Q=>?_⟩
   have Q₅:=x₅.gk Q
   refine ⟨fun b o e=>mh b o (fun hb=>nos (Q.new (hz b (hw b hb))) e) (Q₅.keep b o e),fun p hp=>?_,Q.off,mg.bare Q₅.bare⟩
   obtain ⟨ps,f1,f2,f3⟩:=(x.gk Q).tabs p hp
   have up:∀ b o,s₃.heap.get? b=some o→(b=s.heap.objs.size→False)→s'.heap.get? b=some o:=fun b o e nb=>mh b o (fun hb=>(hw b hb).elim (fun z=>nos (size_fresh s₃.heap) (z▸e)) nb) (hk b o e)
   refine ⟨ps,up _ _ f1 fun z=>st₃.it.elim fun o y=>disc tgV ((congrArg Obj.cls (sinj (z▸f1) y.1)).trans y.2.1) rfl,f2,fun pos cv hc=>code_at (f3 pos cv hc) fun c o vs t e e3 e4=>up c o e fun z=>st₃.it.elim fun o' y=>?_⟩
   cases sinj (z▸e) y.1
   cases y.2.2.symm.trans e3
   exact nomatch e4
end
end
section
theorem WalksS.shift {prog:Program}{w:World}{A:Around}{I:Addr}{fp wr:List Addr}{G:Array GenState→Array GenState→Prop}{n:Nat}{P:Nat→Value→Prop}{St:Nat→Shared→Prop}(W:WalksS prog w A I fp wr G n P St) :
  WalksS prog w A I fp wr G (n+1) (fun j v=>0<j∧P (j - 1) v) (fun j s=>0<j∧St (j - 1) s) where
 sub:=W.sub
 grefl:=W.grefl
 gtrans:=W.gtrans
 frame:=fun j s h' tk st ht hk=>⟨st.1,W.frame _ s h' tk st.2 ht hk⟩
 item:=fun j s Q E hj st hQ=>W.item _ s Q E (by have:=st.1; lia) st.2 fun v s' hp hs mv=>hQ v s' ⟨st.1,hp⟩ ⟨Nat.succ_pos j,(Nat.sub_add_cancel st.1:j - 1+1=j)▸hs⟩ mv
 done:=fun s Q E st hQ=>W.done s Q E st.2 hQ
 self:=fun j s Q E st hQ=>W.self _ s Q E st.2 hQ
noncomputable def accLen (ps:List (Str×Str)) (i:Int):Int:=i+(ps.map fun p=>((p.1.length:Int)+(p.2.length:Int))).sum
structure SmallP (ps:List (Str×Str)):Prop where
 n:ps.length≤900
 p:∀ p∈ps,p.1.length≤1000∧p.2.length≤1000
section
variable {prog:Program}{w:World}{g:Heap}{T:Tabs}{n:Nat}{s₀ s s':Shared}{ps:List (Str×Str)}{A:Around}{a:Addr}{L:List Int}{i0:Int}
theorem wp_sum2 {t0:Tok}(R:GenRdy prog w g T A s₀ s a L.length fun j v=>∃ i t,L[j]?=some i∧v=.int i t) (h0 : -(2 ^ 40)≤i0∧i0≤2 ^ 40) (hv:∀ x∈L, -(2 ^ 40)≤x∧x≤2 ^ 40) (hn:L.length≤1000) :
  wpAny (model prog w) A (call (.builtin "sum") [.ref a,.int i0 t0]) (Out g T [] s₀ (.int (i0+L.sum))) NoE s:=by
 cases R with | mk fp wr G P St W st lt val aft ty ha =>
 have W1:=W.in4_1
 refine call_function_tree PySem.F.kind_sum PySem.F.plain_sum PySem.F.entry_sum (by unfold argsOk; kernel_rfl) ?_
 unfold Builtin.«sum»
 simp only [List.length_cons,List.length_nil]
 rw [if_neg (by decide)]
 refine wpAny_bind (wpAny_of_eq (show Builtin.Builtins.bindParams "sum" ["start"] 0 ⟨[.int i0 t0],[]⟩=pure [some (.int i0 t0)] from rfl) ?_)
 refine wpAny_bind (W1.self 0 s _ _ st ?_)
 have hfl:(decide (-(2 ^ 63)≤i0)&&decide (i0<2 ^ 63))=true:=Bool.and_eq_true_iff.mpr ⟨decide_eq_true (by lia),decide_eq_true (by lia)⟩
 dsimp only
 rw [if_pos]
 rotate_left
 ·exact hfl
 refine wpAny_bind (wpAny_rule (wpAny_bind (wpAny_mkInt (wpAny_bind (wpAny_pure ?_)))))
 simp only [List.forIn_cons,List.forIn_nil]
 refine wpAny_bind (wpAny_bind (wpAny_bind (wpAny_isInstance (T := "int") (b:=false) (typeIs_int _ _ _) PySem.sub_int_str ?_)))
 simp only [Bool.false_eq_true,if_false]
 refine wpAny_pure (wpAny_bind (wpAny_bind (wpAny_isInstance (T := "int") (b:=false) (typeIs_int _ _ _) PySem.sub_int_bytes ?_)))
 simp only [Bool.false_eq_true,if_false]
 refine wpAny_pure (wpAny_bind (wpAny_bind (wpAny_isInstance (T := "int") (b:=false) (typeIs_int _ _ _) PySem.sub_int_bytearray ?_)))
 simp only [Bool.false_eq_true,if_false]
 refine wpAny_pure (wpAny_pure (wpAny_bind (wpAny_newObj_type ?_)))
 have hfit:_root_.PySem.SumFits (i0::L):=sumFits_small (fun x hx=>(List.mem_cons.mp hx).elim (fun z=>z▸h0) (hv x)) (by rw [List.length_cons]; lia)
 have key:=codeAny_sum_loopS (R:=Ended (Out g T [] s₀ (.int (i0+L.sum)))) (WalksS.shift W1) (fun j=>(i0::L).getD j 0) (fun j v hj=>by
   obtain ⟨i,t,e,rfl⟩:=val _ _ hj.2
   refine ⟨t,?_⟩
   rw [← Nat.sub_add_cancel hj.1,List.getD_cons_succ,List.getD_eq_getElem?_getD,e]; rfl) (fun j hj=>by
   have f:=hfit j hj
   exact ⟨f.1,by rw [preSum_getD]; exact f.2⟩) s.heap.objs.size (fun hm=>Nat.lt_irrefl _ (lt _ hm)) L.length 1
 refine wpAny_pure ⟨plainId_quiet PySem.F.plain_sum_loop _,key _ s.toks 0 (Nat.add_sub_cancel ..) (Nat.le_add_left ..) ⟨Nat.one_pos,W1.frame 0 s _ _ st (Nat.le_succ _) fun b _ o e=>Heap.get?_push_of_some _ e⟩ ?_ fun s' t' hm=>?_⟩
 ·rw [preSum_getD,show ((i0::L).take 1).sum=i0 from Int.add_zero i0]
  exact Heap.get?_push_size _ rfl
 ·rw [preSum_getD,List.take_of_length_le (l:=i0::L) (i:=L.length+1) (Nat.le_refl _),List.sum_cons]
  have hm':=hm.drop_new (Nat.le_succ s.toks)
  exact ⟨aft s' hm'.heap hm'.gens hm'.drawn hm'.os,.int _ _⟩
end
noncomputable def es0:Str:=Str.ofString ""
noncomputable def ptext (p:Str×Str):Str:=Str.join es0 [p.1,p.2]
noncomputable def accText (ps:List (Str×Str)):Str:=Str.join es0 (ps.map ptext)
theorem es0_len:es0.length=0:=by decide
theorem join0_len (l:List Str):(Str.join es0 l).length≤(l.map (·.length)).sum:=by
 have h:=PySem.StrLaws.join_length_le es0 l
 rwa [es0_len,Nat.mul_zero,Nat.add_zero] at h
theorem foldl_len (l:List Str):∀ k:Nat,l.foldl (fun n q=>n+q.length+es0.length) k=k+(l.map (·.length)).sum:=by
 induction l with
 | nil=>exact fun _=>rfl
 | cons x l ih=>intro k; rw [List.foldl_cons,ih,es0_len,List.map_cons,List.sum_cons,Nat.add_zero,Nat.add_assoc]
theorem sum_le {α:Type}(f:α→Nat) (B:Nat) (l:List α):(∀ x∈l,f x≤B)→(l.map f).sum≤l.length*B:=by
 induction l with
 | nil=>exact fun _=>Nat.zero_le _
 | cons x l ih=>intro h; rw [List.map_cons,List.sum_cons,List.length_cons,Nat.succ_mul,Nat.add_comm]; exact Nat.add_le_add (ih fun y hy=>h y (.tail _ hy)) (h x (.head _))
theorem ptext_le (p:Str×Str):(ptext p).length≤p.1.length+p.2.length:=join0_len [p.1,p.2]
theorem SmallP.text {ps:List (Str×Str)}(hz:SmallP ps):((ps.map ptext).map (·.length)).sum≤1800000:=by
 rw [List.map_map]
 exact Nat.le_trans (sum_le _ 2000 ps fun p hp=>Nat.le_trans (ptext_le p) (Nat.add_le_add (hz.p p hp).1 (hz.p p hp).2)) (Nat.mul_le_mul_right 2000 hz.n)
theorem SmallP.textLen {ps:List (Str×Str)}(hz:SmallP ps):(accText ps).length≤1800000:=Nat.le_trans (join0_len _) hz.text
theorem joinOk {l:List Str}(h:(l.map (·.length)).sum≤1800000):JoinOk es0 l=true:=by
 unfold JoinOk Builtin.Str.tooLong
 rw [List.foldl_toArray,foldl_len,Nat.zero_add]
 exact congrArg not (decide_eq_false (Nat.not_lt.mpr (Nat.le_trans h (by decide))))
section
variable {prog:Program}{w:World}{g:Heap}{T:Tabs}{n:Nat}{s₀ s s':Shared}{ls:List Str}{A:Around}{a:Addr}
theorem wp_joinG {t0:Tok}(R:GenRdy prog w g T A s₀ s a ls.length fun j v=>∃ x t,ls[j]?=some x∧v=.str x t) (hn:ls.length≤1000) (hz:(ls.map (·.length)).sum≤1800000) :
  wpAny (model prog w) A (call (.builtin "str.join") [.str es0 t0,.ref a]) (Out g T [] s₀ (.str (Str.join es0 ls))) NoE s:=by
 cases R with | mk fp wr G P St W st lt val aft ty ha =>
 refine SC.joinGen W.in4_2 ty st lt ha (fun j v hv=>let ⟨x,t,_,e⟩:=val j v hv; ⟨x,t,e⟩) (fun s' l hm hacc=>?_) (Nat.le_trans hn (by decide))
 have hsz:l.length=ls.length:=by simpa [strValues] using hacc.1
 have hl:l.map (·.1)=ls:=List.ext_getElem? fun j=>by
  rw [List.getElem?_map]
  by_cases hj:j<ls.length
  ·obtain ⟨x,u,hx,hv⟩:=val j _ (hacc.2 j (.str (l[j]'(hsz▸hj)).1 (l[j]'(hsz▸hj)).2) (by simp [strValues,List.getElem?_eq_getElem (hsz▸hj:j<l.length)]))
   injection hv with h1 _
   rw [List.getElem?_eq_getElem (hsz▸hj:j<l.length),hx,Option.map_some,h1]
  ·rw [List.getElem?_eq_none (Nat.le_of_not_lt hj),List.getElem?_eq_none (hsz▸Nat.le_of_not_lt hj)]; rfl
 rw [hl]
 exact ⟨joinOk hz,fun t' k=>⟨aft _ hm.heap hm.gens hm.drawn hm.os,StrLaws.glued_eq_join es0 ls▸.str _ _⟩⟩
end
end
section
noncomputable abbrev Wo.ro {ι:Type}(W:Wo ι):Wo ι:={ W with U:=fun _=>False }
theorem accR_ok {g:Heap}{CA c dx:Addr}{av:List Addr}:(accW CA av c dx).ro.Ok g where
 up:=fun b hb=>hb.elim
 off:=fun b hb=>hb.elim
 obj:=fun i h hw b hb=>by
  cases hw.1 with | mk qs k kd hs tt t e a =>
  rcases hb with rfl | rfl | hb
  ·exact ⟨_,a.o,nt_acc _ _ _ _⟩
  ·exact ⟨_,a.d,nt_dict _ _⟩
  ·exact hw.2.ok b hb
 seq:=fun i h hw b o hb=>hb.elim
 st:=fun i h h' hw hk tk=>⟨hw.1.st (fun b o hb=>hk b o (hb.imp id .inl)) tk,fun b hb=>(hw.2 b hb).imp fun _ p=>p.imp fun _ e=>hk b _ (.inr (.inr hb)) e⟩
noncomputable abbrev GenP (g:Heap) (T:Tabs) (c:Value) (q:Str):Prop:=MakerOk g T c (q ++ "<genexpr>")
section
variable {prog:Program}{w:World}{g:Heap}{T:Tabs}{K:Frag}{n:Nat}{s s':Shared}{CA c dx:Addr}{ps:List (Str×Str)}{i:Int}{av:List Addr}{ow:Ow}{env genv:Env}{σ:Sto}{A:Around}{f:Addr}{q:Part}{scope:Scope}{xa xb x:Str}{p p1 p2 pos apos:Pos}{Q:Value→Shared→Prop}{E:Value→Shared→Prop}
theorem gen_len {y:Str}{t:Tok}(G:GenAtE g scope xa xb q env genv s) (hk0:scope.kind=.function) (hge:env.globals=mainGlobals) (hx:x=xa∧Value.str y t=.str q.x q.t∨x=xb∧Value.str y t=.str q.y q.u) (ho:okName x=true) (hlen:scope.names.lookup ("len" : Str)=some .globalImplicit)
  (gl:Glb g "len" (.builtin "len")) (ha:y.length≤lim) (hq:∀ t k,Q (.int y.length t) { s with toks:=k }):wpAny (model prog w) A (eval (.Call (.Name "len" p1) [.Name x p] [] pos) genv) Q E s :=
 have hk:genv.scope.kind=.function:=G.sc▸hk0
 wpAny_Call_NameR (wp_glob hk (G.glob.trans hge) G.blt ((congrArg (fun z:Scope=>z.names.lookup ("len" : Str)) G.sc).trans hlen) G.keep gl (PyProof.Rows.callWith_builtin1 (wpAny_items_cons (wp_load hk (G.ec x _ hx ho) (wpAny_items_nil (P.len_str (Int.not_le.mpr (lim63 ha)) (hq _ _)))))))
theorem lim1000 {k:Nat}(h:k≤1000):k≤lim:=Nat.le_trans h (by decide)
theorem cl_alen (M:MF (GenP g T) K g CA "__len__" f (meth1 "_Accumulator" "__len__") [] ["self"]) (L:LCls2 K CA) (X:K.In g) (gs:Glb g "sum" (.builtin "sum")) (gl:Glb g "len" (.builtin "len")) (hz:SmallP ps) (hi:0≤i∧i≤1000) :
  ClU prog w g T (n+3) f (accW CA [] c dx).ro (ps,i) [.adr c] (.int (accLen ps i)) (ps,i):=⟨fun A s vs rm hg hw hav hv=>wpAny_call (code_meth (R:=.ret (.int (accLen ps i))) M accR_ok (M.fo.looks hv.length) rm hg hw hav hv rfl fun env ow s₁ N Z=>by
 cases (show AccAt CA s₁.heap c dx ps i from Z.w.1) with | mk qs k kd hs tk t ep a =>
 refine wpAt_of_wpAny (wpAny_execs_cons (wpAny_Return_some (wpAny_Call_NameR (wp_glob Z.F.ec.kind Z.F.ec.glob Z.F.ec.blt (by rw [Env.kindOf,N.sc_]; rfl) Z.F.gk.keep gs ?_))))
 refine PyProof.Rows.callWith_builtin1 (wpAny_items_cons (wp_to (wp_gen (Fv:=fun q v=>∃ t,v=.int ((q.x.length:Int)+(q.y.length:Int)) t) ?S Z.F L.toLCls X M.fo.lim N.rm rfl a N.p fun A' E' q s₂ genv hA hq G=>?_) fun v s₂ h₂=>?_))
 case S=>exact ⟨rfl,fun _=>rfl,by decide,rfl,rfl,rfl,by decide,rfl⟩
 ·have b:=hz.p q.tx (ep▸List.mem_map.mpr ⟨q,hq,rfl⟩)
  exact wpAny_BinOp (gen_len G rfl Z.F.ec.glob (.inl ⟨rfl,rfl⟩) (by decide) rfl gl (lim1000 b.1) fun ta ka=>gen_len (s:={ s₂ with toks:=ka }) ⟨G.ec,G.sc,G.glob,G.blt,G.keep⟩ rfl Z.F.ec.glob (.inr ⟨rfl,rfl⟩) (by decide) rfl gl (lim1000 b.2) fun tb kb=>add_int ⟨⟨_,rfl⟩,_,_,rfl,fun _ _ e=>e⟩)
 ·obtain ⟨a,rfl,x₂,R⟩:=h₂
  have g₂:=x₂.gk Z.F.gk
  have Z₂:=Z.ext accR_ok x₂
  refine wpAny_items_cons (Attribute_any_ (wp_load Z₂.F.ec.kind (Z₂.F.ec.adr rfl) ?_) rfl)
  cases Z₂.w.1 with | mk qs' k' kd' hs' tk' t' ep' a' =>
  refine lget_value (in_up X g₂.keep) (acc_inst a'.o a'.d) L.ga L.gx (acc_isl L.toLCls (in_up X g₂.keep) a'.o) (findObj_own L.hd L.nsz (by rfl) (by rfl)) rfl (wpAny_items_nil ?_)
  have el:(ps.map fun p=>((p.1.length:Int)+(p.2.length:Int)))=qs.map fun q=>((q.x.length:Int)+(q.y.length:Int)):=by rw [← ep,List.map_map]; rfl
  unfold accLen
  rw [el]
  refine wp_to (wp_sum2 (i0:=i) (L:=qs.map fun q=>((q.x.length:Int)+(q.y.length:Int))) ?_ (by lia) (fun y hy=>?_) ?_) fun v s₃ h₃=>.ret h₃.2 h₃.1.mv (accR_ok.ext h₃.1 Z.F.gk Z.w)
  ·rw [List.length_map]
   exact (R.tok 1).imp fun j v ⟨q,hq,t,e⟩=>⟨_,t,by rw [List.getElem?_map,hq]; rfl,e⟩
  ·obtain ⟨q,hq,rfl⟩:=List.mem_map.mp hy
   have b:=hz.p q.tx (ep▸List.mem_map.mpr ⟨q,hq,rfl⟩)
   exact ⟨by lia,by lia⟩
  ·rw [List.length_map, ← List.length_map (f:=Part.tx),ep]; exact Nat.le_trans hz.n (by decide))⟩
end
end
section
section
variable {prog:Program}{w:World}{g:Heap}{T:Tabs}{K:Frag}{n:Nat}{s s':Shared}{CA c dx:Addr}{ps:List (Str×Str)}{i:Int}{av:List Addr}{ow:Ow}{env genv:Env}{σ:Sto}{A:Around}{f:Addr}{q:Part}{scope:Scope}{xa xb x:Str}{p p1 p2 pa pb pos apos:Pos}{Q:Value→Shared→Prop}{E:Value→Shared→Prop}{te:Tok}
inductive TextV (x:Str) (s:Shared):Value→Shared→Prop
 | mk (t:Tok) {s':Shared}(k:Keeps s s'):TextV x s (.str x t) s'
theorem pair_sum (q:Part):(([q.x,q.y]:List Str).map (·.length)).sum=q.x.length+q.y.length:=congrArg (q.x.length + ·) (Nat.add_zero _)
theorem gen_join {kt:Nat}(G:GenAtE g scope xa xb q env genv s) (hk0:scope.kind=.function) (hge:env.globals=mainGlobals) (hoa:okName xa=true) (hob:okName xb=true) (hem:scope.names.lookup ("EMPTYSTRING" : Str)=some .globalImplicit) (ge:Glb g "EMPTYSTRING" (.str es0 te)) (hq:q.x.length≤1000∧q.y.length≤1000)
  (hm:IsMeth (.Name "EMPTYSTRING" p1) "join" apos [.Tuple [.Name xa pa,.Name xb pb] kt p2] pos):wpAny (model prog w) A (eval (.Call (.Attribute (.Name "EMPTYSTRING" p1) "join" apos) [.Tuple [.Name xa pa,.Name xb pb] kt p2] [] pos) genv) (TextV (ptext q.tx) s) E s:=by
 have hk:genv.scope.kind=.function:=G.sc▸hk0
 refine wp_mcall hm (fun _=>rfl) (wp_glob hk (G.glob.trans hge) G.blt ((congrArg (fun z:Scope=>z.names.lookup ("EMPTYSTRING" : Str)) G.sc).trans hem) G.keep ge fun pl=>GM.join ?_)
 refine PyProof.Rows.callWith_method1 (wpAny_items_cons (wpAny_Tuple (wpAny_items_cons (wp_load hk (G.ec xa _ (.inl ⟨rfl,rfl⟩) hoa) (wpAny_items_cons (wp_load hk (G.ec xb _ (.inr ⟨rfl,rfl⟩) hob) (wpAny_items_nil ⟨show (2:Nat)≤sizeLine by decide,wpAny_items_nil ?_⟩)))))))
 have hs:(([q.x,q.y]:List Str).map (·.length)).sum≤2000:=pair_sum q▸Nat.add_le_add hq.1 hq.2
 refine call_meets PySem.F.slot_str_join (typeIs_str _ _ _) PySem.F.entry_str_join (PySem.F.args_str_join_2 _ _) (meets_str_join_tuple es0 te _ [(q.x,q.t),(q.y,q.u)] (decide_eq_false ?_)) ⟨⟨_,0,Heap.get?_push_size _ rfl,rfl,rfl⟩,?_⟩
 ·rw [List.foldl_toArray]
  exact Nat.not_lt.mpr (Nat.le_trans (Nat.le_of_eq ((foldl_len [q.x,q.y] 0).trans (Nat.zero_add _))) (Nat.le_trans hs (by decide)))
 ·unfold joinMade
  dsimp only
  rw [StrLaws.glued_eq_join]
  exact ⟨Nat.le_trans (Nat.le_trans (join0_len _) hs) (by decide),⟨_,⟨_,_,rfl,fun b o e=>Heap.get?_push_of_some _ e⟩⟩⟩
theorem cl_astr (M:MF (GenP g T) K g CA "__str__" f (meth1 "_Accumulator" "__str__") [] ["self"]) (L:LCls2 K CA) (X:K.In g) (ge:Glb g "EMPTYSTRING" (.str es0 te)) (hz:SmallP ps) :
  ClU prog w g T (n+3) f (accW CA [] c dx).ro (ps,i) [.adr c] (.str (accText ps)) (ps,i):=⟨fun A s vs rm hg hw hav hv=>wpAny_call (code_meth (R:=.ret (.str (accText ps))) M accR_ok (M.fo.looks hv.length) rm hg hw hav hv rfl fun env ow s₁ N Z=>by
 cases (show AccAt CA s₁.heap c dx ps i from Z.w.1) with | mk qs k kd hs tk t ep a =>
 refine wpAt_of_wpAny (wpAny_execs_cons (wpAny_Return_some (wp_mcall (fun _=>⟨_,rfl⟩) (fun _=>rfl) (wp_glob Z.F.ec.kind Z.F.ec.glob Z.F.ec.blt (by rw [Env.kindOf,N.sc_]; rfl) Z.F.gk.keep ge fun pl=>GM.join ?_))))
 refine PyProof.Rows.callWith_method1 (wpAny_items_cons (wp_to (wp_gen (Fv:=fun q v=>∃ t,v=.str (ptext q.tx) t) ?S Z.F L.toLCls X M.fo.lim N.rm rfl a N.p fun A' E' q s₂ genv hA hq G=>?_) fun v s₂ h₂=>?_))
 case S=>exact ⟨rfl,fun _=>rfl,by decide,rfl,rfl,rfl,by decide,rfl⟩
 ·exact wpAny_mono (gen_join G rfl Z.F.ec.glob (by decide) (by decide) rfl ge (hz.p q.tx (ep▸List.mem_map.mpr ⟨q,hq,rfl⟩)) fun _=>⟨_,rfl⟩) (fun v s' h=>by cases h with | mk t k=>exact ⟨⟨t,rfl⟩,k⟩) fun _ _ e=>e
 ·obtain ⟨a,rfl,x₂,R⟩:=h₂
  have el:ps.map ptext=qs.map fun q=>ptext q.tx:=by rw [← ep,List.map_map]; rfl
  have ht:=hz.text
  unfold accText
  rw [el] at ht ⊢
  refine wpAny_items_nil (wp_to (wp_joinG (ls:=qs.map fun q=>ptext q.tx) ?_ ?_ ht) fun v s₃ h₃=>.ret h₃.2 h₃.1.mv (accR_ok.ext h₃.1 Z.F.gk Z.w))
  ·rw [List.length_map]
   exact R.imp fun j v ⟨q,hq,t,e⟩=>⟨_,t,by rw [List.getElem?_map,hq]; rfl,e⟩
  ·rw [List.length_map, ← List.length_map (f:=Part.tx),ep]; exact Nat.le_trans hz.n (by decide))⟩
end
end
section
theorem callWith_bound {M:Model}{A:Around}{E:Value→Shared→Prop}{s:Shared}{env:Env}{pos:Pos}{bt id:String}{q x:Addr}{Q:Value→Shared→Prop}(hbt:bt = "builtin_function_or_method" ∨ bt = "method-wrapper") (ho:s.heap.get? q=some (boundO bt id x))
  (h:wpAny M A (call (.ref q) []) Q E s):wpAny M A (callWith pos (.ref q) [] (backTo pos (starEach [] env)) []) Q E s:=by
 refine callWith_of (P:=fun h=>h.get? q=some (boundO bt id x)) rfl (fun h hq=>⟨.machine,.inr (.inl rfl),(Looks.ld (part:=none) hq).andThen ?_⟩) (evalArgs_nil3 ⟨ho,h⟩)
 rcases hbt with rfl | rfl <;> exact .now
theorem call_bound {prog:Program}{w:World}{A:Around}{E:Value→Shared→Prop}{s:Shared}{bt id:String}{q x:Addr}{b:Builtin}{Q:Value→Shared→Prop}(hbt:bt = "builtin_function_or_method" ∨ bt = "method-wrapper") (ho:s.heap.get? q=some (boundO bt id x))
  (hchk:∀ (A:Around) (Q:Unit→Shared→Prop) (E:Value→Shared→Prop),Q () s→wpAny (model prog w) A (checkBoundCall id ⟨[.ref x],[]⟩) Q E s) (hp:plainId id=true) (hb:entryFor table id=some b)
  (hc:wpAny (model prog w) A.in1 (b ⟨[.ref x],[]⟩) (fun fin s'=>∃ v,fin=.done (.ret v)∧Q v s') E s):wpAny (model prog w) A (call (.ref q) []) Q E s:=by
 refine wpAny_call (codeAny_of_tree ?_)
 show wpAny _ A.in1 (callAny (.ref q) _) _ _ _
 unfold callAny
 refine wpAny_bind (wpAny_load ho ?_)
 have fin:∀ (b':Bool) {t:Sem PySem.Fin},t=(checkBoundCall id ⟨[.ref x],[]⟩ >>= fun _=>again (.builtin id ⟨[.ref x],[]⟩))→wpAny (model prog w) A.in1 t (fun fin s'=>match fin with
   | .done f=>(match (Except.ok f:Result) with | .ok (.ret v)=>Q v s' | .ok _=>False | .error e=>E e s')
   | .again c'=>c'.quiet=true∧codeAny (model prog w) A c' (fun r s'=>match r with | .ok (.ret v)=>Q v s' | .ok _=>False | .error e=>E e s') s') (fun e s'=>E e s') s:=by
  rintro _ _ rfl
  refine wpAny_bind (hchk _ _ _ (wpAny_pure ⟨plainId_quiet hp _,codeAny_builtin hb ?_⟩))
  rw [Around.under_plainId hp _]
  refine wpAny_mono hc (fun fin s' h'=>?_) fun _ _ e=>e
  obtain ⟨v,rfl,hv⟩:=h'
  exact hv
 rcases hbt with rfl | rfl <;> exact fin true rfl
theorem chk_slot {prog:Program}{w:World}{s:Shared}{id:String}{x:Addr}(hk:builtinKind id=some .slot) (ha:argsOk id ⟨[.ref x],[]⟩) (A:Around) (Q:Unit→Shared→Prop) (E:Value→Shared→Prop) (q:Q () s):wpAny (model prog w) A (checkBoundCall id ⟨[.ref x],[]⟩) Q E s:=by
 unfold checkBoundCall
 cases hsig:Manifest.signature? id with
 | none=>exact wpAny_pure q
 | some sig =>
  simp only [argsOk,hsig] at ha
  have h2:Bind.checkArgs id sig ⟨[.ref x],[]⟩=pure ():=ha
  simp only [hk]
  rw [if_pos (by decide),h2]
  exact wpAny_pure q
noncomputable def popSig (nm:String):Manifest.Signature:=⟨.positional,nm, "pop",.self,[{ name := "index",kind:=.posOnly,required:=false }]⟩
theorem sig_pop:Manifest.signature? "list.pop" = some (popSig "list.pop"):=by kernel_rfl
theorem chk_pop {prog:Program}{w:World}{K:Frag}{CA:Addr}{cd:ClassData}{h:Heap}{gs:Array GenState}{d:Drawn}{t:Nat}{os:OsState}{x dx:Addr}{vs:List Value}{k:Nat}(X:K.In h) (ho:h.get? x=some (accO CA dx vs k)) (hc:clsIn K CA=some cd) (ht:typeIn K (.ref CA)=some (.type "type"))
  (hmod:mroIn K CA (.type "module")=some false) (hcheck:Bind.checkArgs "list.pop" (popSig s!"{cd.qualname.toString}.{Bind.lastOf "list.pop"}") ⟨[.ref x],[]⟩=pure ()) (A:Around) (Q:Unit→Shared→Prop) (E:Value→Shared→Prop) (q:Q () ⟨h,gs,d,t,os⟩) :
  wpAny (model prog w) A (checkBoundCall "list.pop" ⟨[.ref x],[]⟩) Q E ⟨h,gs,d,t,os⟩:=by
 have hk:builtinKind "list.pop" = some .method:=by decide +kernel
 have hva:Manifest.varargsMethods.contains "list.pop" = false:=by decide +kernel
 have htx:Looks (model prog w) h (typeOf (.ref x)) (.ref CA):=(Looks.ld ho).andThen .now
 have L1:Looks (model prog w) h (isInstance (.ref x) (.type "module")) false:=htx.andThen (looks_mroIn X hmod)
 have L2:=looks_typeIn (M:=model prog w) X ht
 have L3:=looks_clsIn (M:=model prog w) X hc
 unfold checkBoundCall
 rw [sig_pop]
 simp only [hk]
 rw [if_neg (by decide)]
 refine wpAny_bind (Looks.at L1 ?_)
 rw [hva]
 simp only [Bool.or_self,Bool.false_eq_true,if_false]
 refine wpAny_bind (ks_wpAny_isType_inst ho (fun c e=>by cases e) ?_)
 simp only [Bool.false_eq_true,if_false]
 refine wpAny_bind (Looks.at htx ?_)
 refine wpAny_bind (Looks.at L3 ?_)
 refine wpAny_bind (Looks.at L2 ?_)
 rw [if_pos (by decide)]
 show wpAny _ _ (Bind.checkArgs "list.pop" (popSig _) _) _ _ _
 rw [hcheck]
 exact wpAny_pure q
structure SupG (prog:Program) (K:Frag) (g:Heap) (CA:Addr) (cd:ClassData) (cl:List (Str×Addr)):Prop where
 top:(prog.main.scope.names.lookup ("super" : Str)).isSome=false
 clo:∃ cc,cl.lookup (Str.ofString "__class__")=some cc∧g.IsCell cc (some (.ref CA))
 cls:clsIn K CA=some cd
 ob:∃ o,K.lookup CA=some o∧o.data=.cls cd
 mro:(cd.mro.dropWhile (· != .ref CA)).drop 1=[.type "list",.type "object"]
 self:mroIn K CA (.ref CA)=some true
 opq:nsIn K cStatics "thirdparty.any" = some none
 typ:typeIn K (.ref CA)=some (.type "type")
 modu:mroIn K CA (.type "module")=some false
 chk:∀ x:Addr,Bind.checkArgs "list.pop" (popSig s!"{cd.qualname.toString}.{Bind.lastOf "list.pop"}") ⟨[.ref x],[]⟩=pure ()
 gsup:Glb g "super" (.type "super")
inductive SupC (prog:Program) (g:Heap) (c:Value) (q:Str):Prop
 | mk (a:Addr) (o:Obj) (vs:Array Value) (file:Str) (t:Tok) (e:c=.ref a) (at_:g.get? a=some o) (d:o.data=.fields vs) (v:vs[2]?=some (.str file t)) (f:((prog.main.file:Str)==file)=true)
inductive SupP (g:Heap) (f:Addr):Prop
 | mk (o:Obj) (fd:FuncData) (ar:Arg) (at_:g.get? f=some o) (d:o.data=.func fd) (p:(fd.params.posonlyargs++fd.params.args).head?=some ar) (n:ar.arg=Str.ofString "self")
section
variable {prog:Program}{w:World}{g:Heap}{T:Tabs}{K:Frag}{n:Nat}{s s' s₀:Shared}{CA c dx:Addr}{av:List Addr}{ow ow₀:Ow}{env:Env}{σ σ₀:Sto}{A A₀:Around}{f:Addr}{cd:ClassData}{E:Value→Shared→Prop}{cl:List (Str×Addr)}{sc:Scope}{vs:List Value}{k:Nat}
theorem ld_name {M:Model}{x:Str}{v:Value}{Q:Value→Shared→Prop}(hk:env.scope.kind=.function) (l:Loads env s.heap x v) (h:Q v s):wpAny M A (loadName env x) Q E s:=by
 cases l with
 | loc o k m n hv=>exact wpAny_loadName_local hk k n hv h
 | cel o k c hc hv=>exact k.elim (fun k=>wpAny_loadName_cell hk k hc hv h) fun k=>wpAny_loadName_free hk k hc hv h (ok_name o).2
theorem ld_glob {M:Model}{x:Str}{v:Value}{Q:Value→Shared→Prop}(hk:env.scope.kind=.function) (hg:env.globals=mainGlobals) (hb:env.builtins=builtinsNs) (hx:env.kindOf x=some .globalImplicit) (k:∀ b o,g.get? b=some o→s.heap.get? b=some o) (l:Glb g x v) (h:Q v s):wpAny M A (loadName env x) Q E s:=by
 cases l with
 | glob o m n e=>exact ks_loadName_global hk hx (loadGlobal_global (env:=env) (hg▸n.keeps k) e h)
 | blt o m b n e n' e'=>exact ks_loadName_global hk hx (loadGlobal_builtin (env:=env) (hg▸n.keeps k) e (hb▸n'.keeps k) e' h)
theorem wp_super {body:List Stmt}{p0 p1:Pos}{attr:Str}{whole:Sem Value}{Q:Value→Shared→Prop}(S:SupG prog K g CA cd cl) (SP:SupP g f) (X:K.In g) (N:NewF (fun c q=>SupC prog g c q) g T n f sc cl av A₀ s₀ σ₀ env ow₀ s') (F:Fm g T av ow env σ s) (hself:σ.lookup (Str.ofString "self")=some (.val (.adr c))) (ho:s.heap.get? c=some (accO CA dx vs k))
  (hks:sc.names.lookup ("super" : Str)=some .globalImplicit) (hkc:sc.names.lookup ("__class__" : Str)=some .free) (hnc:cellNames sc.names=[]) (hat:(attr==("__class__" : Str))=false)
  (h:∀ h',h'.get? s.heap.objs.size=some (ks_superObj CA c CA)→(∀ y o,s.heap.get? y=some o→h'.get? y=some o)→Q (.ref s.heap.objs.size) { s with heap:=h' }) :
  _root_.PySem.wpAt (model prog w) A (.func body env) (attributeBase (.Call (.Name "super" p0) [] [] p1) attr env whole) Q E s:=by
 cases SP with | mk of fd ar hof hofd hp har =>
 cases N.p with | mk cda oc vs0 file tf e1 e2 e3 e4 e5 =>
 obtain ⟨cc,f1,f2⟩:=S.clo
 have X':=in_up X F.gk.keep
 have ks:env.kindOf "super" = some .globalImplicit:=(congrArg (fun z:Scope=>z.names.lookup ("super" : Str)) N.sc_).trans hks
 have kc:env.kindOf "__class__" = some .free:=(congrArg (fun z:Scope=>z.names.lookup ("__class__" : Str)) N.sc_).trans hkc
 refine ks_wpAt_super_base ks kc hat N.fn (F.gk.keep _ _ hof) hofd hp e1 (F.gk.keep _ _ e2) e3 e4 e5 S.top ?_
 refine ld_glob F.ec.kind F.ec.glob F.ec.blt ks F.gk.keep S.gsup ⟨rfl,?_⟩
 refine wpAny_loadName_free F.ec.kind kc ((N.cells _ fun h=>nomatch hnc▸mem_cellNames.mpr h).trans f1) (f2.keeps F.gk.keep) ?_
 rw [har]
 refine ld_name F.ec.kind (F.ec.adr hself) ?_
 obtain ⟨oD,hD1,hD2⟩:=S.ob
 have hD1:=X' _ _ hD1
 obtain ⟨hh,gg,d,t,os⟩:=s
 exact ks_wpAny_isType_cls hD1 hD2 ⟨rfl,ks_wpAny_call_super hD1 hD2 ho rfl (fun c e=>nomatch e) (looks_mroIn X' S.self) fun h' e kk=>h h' e kk⟩
theorem acc_ne {h:Heap}(X:K.In h) (S:SupG prog K g CA cd cl) (ho:h.get? c=some (accO CA dx vs k)):c≠CA:=fun z=>S.ob.elim fun o p=>disc tgB ((congrArg Obj.data (sinj (z▸ho) (X _ _ p.1))).trans p.2) rfl
theorem super_get {id mt bt gi name:String}{Bg:Builtin}{so:Addr}{pl:Sem Bool}{Q:Value×List Value→Shared→Prop}(S:SupG prog K g CA cd cl) (X:K.In s.heap) (hso:s.heap.get? so=some (ks_superObj CA c CA)) (ho:s.heap.get? c=some (accO CA dx vs k))
  (hf:alongIn K name [.type "list",.type "object"]=some (some (.builtin id))) (hTT:∀ s:Shared,s.TypeIs (.builtin id) mt) (Sl:Slot mt "__get__" gi) (hb:entryFor table gi=some Bg) (hargs:∀ a b c,argsOk gi ⟨[a,b,c],[]⟩)
  (hrun:∀ (A:Around) (h':Heap) (t':Nat) (Q:PySem.Fin→Shared→Prop) (E:Value→Shared→Prop),(∀ b o,s.heap.get? b=some o→h'.get? b=some o)→Q (.done (.ret (.ref h'.objs.size))) ⟨h'.push (boundO bt id c),s.gens,s.drawn,t',s.os⟩→wpAny (model prog w) A (Bg ⟨[.builtin id,.ref c,.ref CA],[]⟩) Q E ⟨h',s.gens,s.drawn,t',s.os⟩)
  (hn:((name:Str)==("__class__" : Str))=false) (hq:Q (.ref s.heap.objs.size,[]) { s with heap:=s.heap.push (boundO bt id c),toks:=s.toks+1 }):wpAny (model prog w) A (getMethod (.ref so) name pl) Q E s:=by
 obtain ⟨hh,gg,d,t,os⟩:=s
 exact super_bi (ox:=accO CA dx vs k) hso (looks_opaque X S.opq) ((looks_clsIn X S.cls).andThen .now) S.mro X hf hTT Sl hb hargs hrun (acc_ne X S ho) hn hq
end
section
variable {prog:Program}{w:World}{A:Around}{E:Value→Shared→Prop}{h:Heap}{gs:Array GenState}{d:Drawn}{t:Nat}{os:OsState}{CA c dx:Addr}{vs:List Value}{k:Nat}
theorem body_len {Q:Value→Shared→Prop}(ho:h.get? c=some (accO CA dx vs k)) (hq:∀ t,Q (.int vs.length t) ⟨h,gs,d,t+1,os⟩):wpAny (model prog w) A (Builtin.«list.__len__» ⟨[.ref c],[]⟩) (fun fin s'=>∃ v,fin=.done (.ret v)∧Q v s') E ⟨h,gs,d,t,os⟩:=by
 unfold Builtin.«list.__len__»
 have:=hq t
 wp_walk using wpAny_loadPart' ho
 exact ⟨_,rfl,by simpa using this⟩
theorem body_init {Q:Value→Shared→Prop}(ho:h.get? c=some (accO CA dx [] k)) (hq:∀ h' k',Heap.SameBut c h h'→h'.get? c=some (accO CA dx [] k')→Q .none ⟨h',gs,d,t,os⟩):wpAny (model prog w) A (Builtin.«list.__init__» ⟨[.ref c],[]⟩) (fun fin s'=>∃ v,fin=.done (.ret v)∧Q v s') E ⟨h,gs,d,t,os⟩:=by
 show let Q:=_; wpAny _ _ _ Q _ _
 intro Q
 have e:=acc_upd (s:=⟨h,gs,d,t,os⟩) (f:=fun _ => #[]) ho
 unfold Builtin.«list.__init__»
 wp_walk using (wpAny_updateSeq ho rfl (hz:=by decide) (_hz':=by decide)),wpAny_loadPart' ho
 exact ⟨_,rfl,hq _ _ (Heap.SameBut.update ..) e⟩
theorem erase_last (vs:List Value) (y:Value):(vs++[y]).eraseIdx vs.length=vs:=by
 induction vs with
 | nil=>rfl
 | cons v vs ih=>simp [ih]
theorem body_pop {y:Value}{Q:Value→Shared→Prop}(ho:h.get? c=some (accO CA dx (vs++[y]) k)) (hz:vs.length≤900) (hq:∀ h' k',Heap.SameBut c h h'→h'.get? c=some (accO CA dx vs k')→Q y ⟨h',gs,d,t,os⟩):wpAny (model prog w) A (Builtin.«list.pop» ⟨[.ref c],[]⟩) (fun fin s'=>∃ v,fin=.done (.ret v)∧Q v s') E ⟨h,gs,d,t,os⟩:=by
 show let Q:=_; wpAny _ _ _ Q _ _
 intro Q
 have hs:(vs++[y]).toArray.size=vs.length+1:=by simp
 have hl:(1000:Nat)≤sizeLine:=by decide
 have hne:¬ (vs++[y]).toArray.isEmpty=true:=by simp
 have hk:seqIndex? (-1) (vs++[y]).toArray.size=some vs.length:=by
  rw [hs,seqIndex_neg (by lia) (by lia)]; congr 1; lia
 have hy:(vs++[y]).toArray[vs.length]?=some y:=by simp
 have e:=acc_upd (s:=⟨h,gs,d,t,os⟩) (f:=fun xs=>xs.eraseIdxIfInBounds vs.length) ho
 have e1:((fun xs:Array Value=>xs.eraseIdxIfInBounds vs.length) (vs++[y]).toArray).toList=vs:=by
  simp [Array.eraseIdxIfInBounds]; exact erase_last vs y
 rw [e1] at e
 unfold Builtin.«list.pop»
 wp_walk using wpAny_loadPart' ho
 simp only [hk,hy,Option.bind_some,Option.map_some]
 have hz':((vs++[y]).toArray.eraseIdxIfInBounds vs.length).size≤sizeLine+1:=(by
  have:((vs++[y]).toArray.eraseIdxIfInBounds vs.length).toList=vs:=e1
  have:=congrArg List.length this
  simp only [Array.length_toList] at this
  lia)
 wp_walk using (wpAny_updateSeq ho rfl (hz:=by rw [hs]; lia) (_hz':=hz')),wpAny_loadPart' ho
 exact ⟨_,rfl,hq _ _ (Heap.SameBut.update ..) e⟩
end
end
section
section
variable {ι:Type}{prog:Program}{w:World}{g:Heap}{T:Tabs}{K:Frag}{n:Nat}{s s' s₀ s₁:Shared}{CA c dx:Addr}{av:List Addr}{ow ow₀:Ow}{env:Env}{σ σ₀:Sto}{A A₀:Around}{f:Addr}{cd:ClassData}{E:Value→Shared→Prop}{cl:List (Str×Addr)}{ps:List (Str×Str)}{i:Int}{sc:Scope}{pos pos2 pos3 p0 p1:Pos}{body:List Stmt}{W:Wo ι}{j:ι}{d:D}{vs:List Value}{k:Nat}
theorem wpAt_ret {e:Expr}(h:_root_.PySem.wpAt (model prog w) A (.func body env) (eval e env) (fun v s'=>MtU W g T ow env s (.ret d) j (.ret v) s') NoE s₁):_root_.PySem.wpAt (model prog w) A (.func body env) (execs [.Return (some e) pos] env) (MtU W g T ow env s (.ret d) j) NoE s₁:=ks_wpAt_execs_cons (ks_wpAt_Return_some h)
structure SupB (K:Frag) (m:Str) (id mt bt gi:String) (Bg b:Builtin):Prop where
 al:alongIn K m [.type "list",.type "object"]=some (some (.builtin id))
 ty:∀ s:Shared,s.TypeIs (.builtin id) mt
 sl:Slot mt "__get__" gi
 eg:entryFor table gi=some Bg
 ag:∀ a b c,argsOk gi ⟨[a,b,c],[]⟩
 cn:(m==("__class__" : Str))=false
 kd:bt = "builtin_function_or_method" ∨ bt = "method-wrapper"
 pl:plainId id=true
 en:entryFor table id=some b
 get:∀ {prog:Program}{w:World}{A:Around}{x C:Addr}{ox:Obj}{h:Heap}{g:Array GenState}{d:Drawn}{t:Nat}{os:OsState}{Q:PySem.Fin→Shared→Prop}{E:Value→Shared→Prop},h.get? x=some ox→ox.cls=.ref C→Looks (model prog w) h (isSubtype (.ref C) (.type "list")) true→Q (.done (.ret (.ref h.objs.size))) ⟨h.push (boundO bt id x),g,d,t,os⟩→wpAny (model prog w) A (Bg ⟨[.builtin id,.ref x,.ref C],[]⟩) Q E ⟨h,g,d,t,os⟩
theorem wp_superB {m:String}{id mt bt gi:String}{Bg b:Builtin}{apos:Pos}{Q:Value→Shared→Prop}(B:SupB K m id mt bt gi Bg b) (S:SupG prog K g CA cd cl) (SP:SupP g f) (L:LCls2 K CA) (X:K.In g) (N:NewF (fun c q=>SupC prog g c q) g T n f sc cl av A₀ s₀ σ₀ env ow₀ s') (F:Fm g T av ow env σ s) (hself:σ.lookup (Str.ofString "self")=some (.val (.adr c))) (ho:s.heap.get? c=some (accO CA dx vs k))
  (hks:sc.names.lookup ("super" : Str)=some .globalImplicit) (hkc:sc.names.lookup ("__class__" : Str)=some .free) (hnc:cellNames sc.names=[])
  (hchk:∀ (A:Around) (s:Shared) (Q:Unit→Shared→Prop) (E:Value→Shared→Prop),K.In s.heap→s.heap.get? c=some (accO CA dx vs k)→Q () s→wpAny (model prog w) A (checkBoundCall id ⟨[.ref c],[]⟩) Q E s)
  (h:∀ (A:Around) (s₂:Shared),Ext g T s s₂→s₂.heap.get? c=some (accO CA dx vs k)→wpAny (model prog w) A (b ⟨[.ref c],[]⟩) (fun fin s'=>∃ v,fin=.done (.ret v)∧Q v s') E s₂) (hE:E=NoE)
  (he:∃ pl,eval (.Call (.Attribute (.Call (.Name "super" p0) [] [] p1) m apos) [] [] pos) env=(do
   let ov ← attributeBase (.Call (.Name "super" p0) [] [] p1) m env (eval (.Call (.Name "super" p0) [] [] p1) env)
   standAt apos.atName
   let (f,first) ← holding [ov] (getMethod ov m pl)
   callWith pos f first (backTo pos (starEach [] env)) [])) :
  _root_.PySem.wpAt (model prog w) A (.func body env) (eval (.Call (.Attribute (.Call (.Name "super" p0) [] [] p1) m apos) [] [] pos) env) Q E s:=by
 obtain ⟨pl,he⟩:=he
 refine ks_wpAt_MethodCall (pl:=pl) (wp_super S SP X N F hself ho hks hkc hnc B.cn fun h' e1 e2=>?_) he
 have X₂:K.In h':=fun b o e=>e2 _ _ (F.gk.keep _ _ (X b o e))
 have c₂:=e2 _ _ ho
 refine super_get (s:={ s with heap:=h' }) (name:=m) S X₂ e1 c₂ B.al B.ty B.sl B.eg B.ag (fun A hh t' Q E kk q=>B.get (kk _ _ c₂) rfl ((looks_mroIn X₂ L.sub).keeps kk) q) B.cn ?_
 have k3:∀ b o,h'.get? b=some o→(h'.push (boundO bt id c)).get? b=some o:=fun b o e=>Heap.get?_push_of_some _ e
 have x₃:Ext g T s { s with heap:=h'.push (boundO bt id c),toks:=s.toks+1 }:=.of _ _ fun b o e=>k3 _ _ (e2 _ _ e)
 refine callWith_bound B.kd (Heap.get?_push_size _ rfl) (call_bound B.kd (Heap.get?_push_size _ rfl) (fun A Q E q=>hchk A _ Q E (fun b o e=>k3 _ _ (X₂ b o e)) (k3 _ _ c₂) q) B.pl B.en (h _ _ x₃ (k3 _ _ c₂)))
theorem supB_len (h:alongIn K "__len__" [.type "list",.type "object"]=some (some (.builtin "list.__len__"))):SupB K "__len__" "list.__len__" "wrapper_descriptor" "method-wrapper" "wrapper_descriptor.__get__" Builtin.«wrapper_descriptor.__get__» Builtin.«list.__len__» :=
 ⟨h,fun _=>type_llen,slot_wd_get,entry_wd_get,args_wd_get,by decide,.inr rfl,PySem.F.slot_list_len.plain,PySem.F.entry_list_len,run_wd_get (id := "list.__len__") (by decide +kernel)⟩
theorem supB_init (h:alongIn K "__init__" [.type "list",.type "object"]=some (some (.builtin "list.__init__"))):SupB K "__init__" "list.__init__" "wrapper_descriptor" "method-wrapper" "wrapper_descriptor.__get__" Builtin.«wrapper_descriptor.__get__» Builtin.«list.__init__» :=
 ⟨h,fun _=>type_linit,slot_wd_get,entry_wd_get,args_wd_get,by decide,.inr rfl,PySem.F.slot_list_init.plain,PySem.F.entry_list_init,run_wd_get (id := "list.__init__") (by decide +kernel)⟩
theorem supB_pop (h:alongIn K "pop" [.type "list",.type "object"]=some (some (.builtin "list.pop"))):SupB K "pop" "list.pop" "method_descriptor" "builtin_function_or_method" "method_descriptor.__get__" Builtin.«method_descriptor.__get__» Builtin.«list.pop» :=
 ⟨h,fun _=>type_lpop,slot_md_get,entry_md_get,args_md_get,by decide,.inl rfl,PySem.F.slot_list_pop.plain,PySem.F.entry_list_pop,run_md_get (id := "list.pop") (by decide +kernel) (by decide +kernel)⟩
end
end
section
section
variable {ι:Type}{prog:Program}{w:World}{g g':Heap}{T:Tabs}{K:Frag}{n:Nat}{CA c dx:Addr}{av:List Addr}{σ:Sto}{f fp:Addr}{cd:ClassData}{cl:List (Str×Addr)}{ps:List (Str×Str)}{i:Int}{sc:Scope}{pos apos:Pos}{W:Wo ι}{j:ι}{d:D}{P:Value→Str→Prop}{st:Stmt}{m:Str}{xs:List Str}{o:Expr}
theorem finds_acc (L:LCls2 K CA) (X:K.In g) (M:MF P K g CA m f st cl xs) (hne:(isz==m)=false):Finds prog w g ((accW CA av c dx).Ω (ps,i)) c f m:=fun k hw q=>by
 cases hw.1 with | mk qs kk kd hs tk t e a =>
 refine lmethod_fn (in_up X k) (acc_inst a.o a.d) L.ga L.gx M.find (beq_iff_eq.mp M.isf) ?_ q
 show (getL m (iszE hs tk i t)).map (·.isSome)=some false
 unfold getL iszE
 rw [List.find?_cons,show (Value.str isz tk).isStr m=false from hne]
 rfl
theorem Ev.own0 (up:∀ b o,g.get? b=some o→g'.get? b=some o) (ok:W.Ok g) (X:K.In g) (hk:keepIn K (.ref f)=true) (hm:IsMeth o m apos [] pos) (hb:∀ env,attributeBase o m env (eval o env)=eval o env) (ho:Ev prog w g' T n sc σ o (.adr c)) (hf:Finds prog w g (W.Ω j) c f m) (hr:ClU prog w g T n f W.ro j [.adr c] d j) (hw:W.Ω j g') (ha:W.av=[]) (hd:Flat d) :
  Ev prog w g' T n sc σ (.Call (.Attribute o m apos) [] [] pos) d:=fun A s av env he rm q hc=>wp_mcall hm hb (wp_to (ho A s av env he rm q hc) fun v s₁ h₁ pl=>by
 cases h₁.2.i1
 have q₁:=h₁.1.gk q
 have up₁:=fun b o e=>q₁.keep b o (up b o e)
 have w₁:W.Ω j s₁.heap:=ok.st j _ _ hw (fun b o _ e=>q₁.keep b o e) fun a _ _ e=>q₁.keep a _ e
 refine hf up₁ w₁ (callWith_K0 (in_up X up₁) hk (wp_to (hr.run A s₁ _ rm (q₁.down up) w₁ (fun b hb=>nomatch (ha▸hb:b∈([]:List Addr))) VDs.nil.cons0) fun v s₂ h₂=>?_))
 cases h₂ with | mk m r w₂=>exact ⟨h₁.1.trans ((m.ext fun b f=>f.elim).rise up),hd _ _ _ (r.sub (av':=[]) nofun)⟩)
theorem cl_pcount (S:SupG prog K g CA cd cl) (SP:SupP g f) (L:LCls2 K CA) (X:K.In g) (M:MF (fun c q=>SupC prog g c q) K g CA "part_count" f (meth1 "_Accumulator" "part_count") cl ["self"]) (h:alongIn K "__len__" [.type "list",.type "object"]=some (some (.builtin "list.__len__"))) :
  ClU prog w g T (n+1) f (accW CA [] c dx).ro (ps,i) [.adr c] (.int ps.length) (ps,i):=⟨fun A s vs rm hg hw hav hv=>wpAny_call (code_meth (R:=.ret (.int ps.length)) M accR_ok (M.fo.looks hv.length) rm hg hw hav hv rfl fun env ow s₁ N Z=>by
 cases (show AccAt CA s₁.heap c dx ps i from Z.w.1) with | mk qs k kd hs tk t ep a =>
 refine wpAt_ret (wp_superB (E:=NoE) (supB_len h) S SP L X N Z.F rfl a.o rfl rfl M.nc (fun A s Q E _ _ q=>chk_slot (by decide +kernel) (PySem.F.args_list_len_1 _) A Q E q) (fun A s₂ x o=>?_) rfl ⟨_,rfl⟩)
 have Z₂:=(Z.ext accR_ok (x.trans (.tok (s₂.toks+1)))).w
 obtain ⟨h,gs,d,t,os⟩:=s₂
 exact body_len o fun t=>.ret (acc_len ep▸.int _ t) (x.trans (.tok _)).mv Z₂)⟩
noncomputable def lastP (ps:List (Str×Str)):Str×Str:=ps.getLast?.getD (es0,es0)
theorem cl_pop (S:SupG prog K g CA cd cl) (SP:SupP g f) (L:LCls2 K CA) (X:K.In g) (hc:g.get? c=none) (hd:g.get? dx=none) (M:MF (fun c q=>SupC prog g c q) K g CA "pop" f (meth1 "_Accumulator" "pop") cl ["self"]) (h:alongIn K "pop" [.type "list",.type "object"]=some (some (.builtin "list.pop")))
  (Mp:MF P K g CA "part_count" fp st cl ["self"]) (hp:∀ ps,ClU prog w g T (n+1) fp (accW CA [] c dx).ro (ps,i) [.adr c] (.int (ps.length:Nat)) (ps,i)) (hz:ps.length≤900) :
  ClU prog w g T (n+2) f (accW CA av c dx) (ps,i) [.adr c] (chD (lastP ps)) (ps.dropLast,i):=⟨fun A s vs rm hg hw hav hv=>wpAny_call (code_meth (R:=.ret (chD (lastP ps))) M (accW_ok hc hd) (M.fo.looks hv.length) rm hg hw hav hv rfl fun env ow s₁ N Z=>by
 have ok:=accW_ok (CA:=CA) (av:=av) hc hd
 have test:Over g (accW CA av c dx) (ps,i) fun g'=>EvT prog w g' T (n+1) (scopeOf (meth1 "_Accumulator" "pop")) (froz (params ["self"] [.adr c])) (stP (nth (bodyOf (meth1 "_Accumulator" "pop")) 0)).test ((ps.length:Int)==0):=fun g' up hw =>
  EvT.cmp (Ev.own0 (W:=accW CA [] c dx) up (accW_ok hc hd) X Mp.kee (fun _=>⟨_,rfl⟩) (fun _=>rfl) (Ev.name rfl) (finds_acc L X Mp (by decide)) (hp ps) ⟨hw.1,nofun⟩ rfl flat_int) Ev.int rfl cmp_eq
 cases ps with
 | nil=>exact wpAt_of_wpAny (SxUL.last (SxU.ite ok test (SxUL.last (SxU.ret (EvU.gnd ok fun g' _ _=>Ev.tup (EvL.more (fun _=>rfl) Ev.str (EvL.more (fun _=>rfl) Ev.str EvL.nil)) (show (2:Nat)≤lim by decide))))) _ _ ow env N.sc_ N.c N.rm Z)
 | cons p ps =>
  refine ks_wpAt_execs_cons (wpAt_of_wpAny (wp_to (SxU.ite (R:=.next _) ok test SxUL.nil _ _ ow env N.sc_ N.c N.rm Z) fun fl s₂ h₂=>?_))
  cases h₂ with | next nx w₂ =>
  cases nx with | mk ow' c' F m hw' =>
  have Z₂:=Z.nx ok F hw' w₂
  cases (show AccAt CA s₂.heap c dx (p::ps) i from w₂.1) with | mk qs k kd hs tk t ep a =>
  rcases List.eq_nil_or_concat qs with rfl | ⟨qs,q,rfl⟩
  ·exact nomatch ep
  rw [List.concat_eq_append] at ep a
  have e1:p::ps=qs.map Part.tx++[q.tx]:=ep.symm.trans List.map_append
  have o:=a.o
  rw [List.map_append] at o
  have hl:(qs.map Part.ref).length≤900:=by
   have:=congrArg List.length e1
   rw [List.length_append,List.length_map] at this
   rw [List.length_map]
   exact Nat.le_trans (Nat.le_add_right ..) (this▸hz)
  rw [e1,show lastP (qs.map Part.tx++[q.tx])=q.tx by unfold lastP; rw [List.getLast?_concat]; rfl,List.dropLast_concat]
  refine ks_wpAt_mono (wpAt_ret (W:=accW CA av c dx) (ow:=ow') (s:=s₂) (j:=(qs.map Part.tx,i)) (d:=chD q.tx) (wp_superB (E:=NoE) (supB_pop h) S SP L X N F rfl o rfl rfl M.nc (fun A s Q E X' o q=>?_) (fun A s₃ x o₃=>?_) rfl ⟨_,rfl⟩)) (fun fl s' q=>q.then (Z₂.has ok) c' F.gk m hw') fun _ _ e=>e
  ·obtain ⟨h,gs,d,t,os⟩:=s
   exact chk_pop X' o S.cls S.typ S.modu (S.chk c) A Q E q
  ·have Z₃:=Z₂.ext ok x
   have a₃:AccO CA s₃.heap c dx (qs++[q]) k kd (iszE hs tk i t):=⟨x.get' F.gk a.o (nt_acc _ _ _ _),x.get' F.gk a.d (nt_dict _ _),a.p.keep fun _ _ _ e=>x.get' F.gk e (nt_tup _ _)⟩
   have hq:=a₃.p q (List.mem_append_right _ (.head _))
   have fin:∀ h' k',Heap.SameBut c s₃.heap h'→h'.get? c=some (accO CA dx (qs.map Part.ref) k')→OutU (accW CA av c dx) g T av s₂ (chD q.tx) (qs.map Part.tx,i) q.ref { s₃ with heap:=h' }:=fun h' k' hs' e =>
    acc_out hc x.mv Z₃.F.gk a₃ Z₃.w.2 (fun z hz=>a₃.p z (List.mem_append_left _ hz)) rfl hs' e (q.vd ((hs'.2 _ (apart hq a₃.o rfl)).trans hq) (Z₃.w.2.ntup hq))
   obtain ⟨h,gs,d,t,os⟩:=s₃
   exact body_pop o₃ hl fun h' k' hs' e=>by cases fin h' k' hs' e with | mk m r w=>exact .ret r (m.sub fun _ hb=>.inl (.inr hb)) w)⟩
end
end
section
section
variable {prog:Program}{w:World}{g g':Heap}{T:Tabs}{K:Frag}{n:Nat}{CA c dx:Addr}{av:List Addr}{σ:Sto}{f:Addr}{cd:ClassData}{ps qs:List (Str×Str)}{q:Str×Str}{i h:Int}{sc:Scope}{P:Value→Str→Prop}{A:Around}{s:Shared}{vs:List Value}{j k kd:Nat}{st:Stmt}{cl:List (Str×Addr)}{d:D}
section
variable (L:LCls K CA) (X:K.In g) (hc:g.get? c=none) (hd:g.get? dx=none) (hz:ps.length≤900)
include L X hc hd hz
theorem body_push:SxUL prog w g T n (scopeOf (meth1 "_Accumulator" "push")) (accW CA av c dx) (ps,i) (params ["self", "fws", "string"] [.adr c,.str q.1,.str q.2]) (bodyOf (meth1 "_Accumulator" "push")) (.next (params ["self", "fws", "string"] [.adr c,.str q.1,.str q.2])) (ps++[q],i) :=
 have ok:=accW_ok (CA:=CA) (av:=av) hc hd
 SxUL.cons ok (SxU.expr ok (EvU.accApp L X hc hd (fun _=>⟨_,rfl⟩) rfl (fun _ _ _=>Ev.tup (EvL.more (fun _=>rfl) (Ev.name rfl) (EvL.more (fun _=>rfl) (Ev.name rfl) EvL.nil)) (show (2:Nat)≤lim by decide)) (fun _=>rfl) hz) (fun _ _ _=>rfl)) SxUL.nil
theorem cl_pop_from (hj:j≤ps.length) (M:MF P K g CA "pop_from" f (meth1 "_Accumulator" "pop_from") cl ["self", "i"]):ClU prog w g T (n+1) f (accW CA av c dx) (ps,i) [.adr c,.int (j:Int)] (.lst ((ps.drop j).map chD)) (ps.take j,i):=by
 have ok:=accW_ok (CA:=CA) (av:=av) hc hd
 have e:ps.take j=ps.take j++[]:=(List.append_nil _).symm
 rw [e]
 exact ClU.of (R:=.ret _) M ok rfl (SxUL.cons ok (SxU.assign ok (EvU.accFrom L X hc hd rfl (Ev.name rfl) hz) (fun _ _ _=>rfl) rfl) (SxUL.cons ok (SxU.accSet (qs:=[]) (lo:=some (j:Int)) L X hc hd rfl (fun _ _ _=>Ev.list EvL.nil (Nat.zero_le _)) (fun _ _ _=>.some' (Ev.name rfl)) (fun _ _ _=>rfl) (Nat.le_trans hz (by decide)) (Nat.zero_le _) ((clipAt_nat ..).trans (Nat.min_eq_left hj)))
  (SxUL.last (SxU.ret (EvU.gnd ok fun _ _ _=>Ev.name rfl)))))
variable (Y:AccSet K CA cd)
include Y
theorem rest_reset (hz':qs.length≤1000) (hs:σ.lookup (Str.ofString "self")=some (.val (.adr c))) (hv:σ.lookup (Str.ofString "startval")=some (.val (.lst (qs.map chD)))):SxUL prog w g T n (scopeOf (meth1 "_Accumulator" "reset")) (accW CA av c dx) (ps,i) σ (bodyOf (meth1 "_Accumulator" "reset")).tail (.next σ) (qs,0) :=
 have ok:=accW_ok (CA:=CA) (av:=av) hc hd
 SxUL.cons ok (SxU.accSet (j:=0) (lo:=none) (qs:=qs) L X hc hd hs (fun _ _ _=>Ev.name hv) (fun _ _ _=>.none') (fun _ _ _=>rfl) (Nat.le_trans hz (by decide)) hz' rfl) (SxUL.cons ok (SxU.accIsz Y X hc hd hs (fun _ _ _=>rfl) fun _ _ _=>Ev.int) SxUL.nil)
theorem cl_reset1 (hz':qs.length≤1000) (M:MF P K g CA "reset" f (meth1 "_Accumulator" "reset") cl ["self", "startval"]):ClU prog w g T (n+2) f (accW CA av c dx) (ps,i) [.adr c,.lst (qs.map chD)] .none (qs,0) :=
 have ok:=accW_ok (CA:=CA) (av:=av) hc hd
 ClU.of (R:=.next _) M ok rfl (SxUL.cons ok (SxU.ite ok (fun _ _ _=>EvT.cmp (Ev.name rfl) Ev.none rfl cmp_isL) SxUL.nil) (rest_reset L X hc hd hz Y hz' rfl rfl))
theorem cl_reset0 (hb:∀ {o fd},g.get? f=some o→o.data=.func fd→Looks (model prog w) g (bindArgs fd ⟨[.ref c],[]⟩) [("self",.ref c),("startval",.none)]) (M:MF P K g CA "reset" f (meth1 "_Accumulator" "reset") cl ["self", "startval"]):ClU prog w g T (n+2) f (accW CA av c dx) (ps,i) [.adr c] .none ([],0):=⟨fun A s vs rm hg hw hav hv=>by
 have ok:=accW_ok (CA:=CA) (av:=av) hc hd
 cases hv.one1 with | mk r =>
 cases r.i1
 exact wpAny_call (code_meth (R:=.next _) (vs':=[.ref c,.none]) (ds:=[.adr c,.none]) M ok hb rm hg hw hav (.cons r (.cons .none .nil)) rfl fun env ow s₁ N Z=>wpAt_of_wpAny (SxUL.cons ok (SxU.ite ok (fun _ _ _=>EvT.cmp (Ev.name rfl) Ev.none rfl cmp_isN)
  (SxUL.cons ok (SxU.assign ok (EvU.gnd ok fun _ _ _=>Ev.list EvL.nil (Nat.zero_le _)) (fun _ _ _=>rfl) rfl) SxUL.nil)) (rest_reset (qs:=[]) L X hc hd hz Y (Nat.zero_le _) rfl rfl) _ s₁ ow env N.sc_ N.c N.rm Z))⟩
end
inductive AccI (CA c dx:Addr) (h:Heap):Option Int→Prop
 | nil (k kd:Nat) (a:AccO CA h c dx [] k kd []):AccI CA c dx h none
 | one (i:Int) (a:AccAt CA h c dx [] i):AccI CA c dx h (some i)
noncomputable abbrev accI (CA c dx:Addr):Wo (Option Int):={ av:=[],P:=fun b=>b=c∨b=dx,U:=fun b=>b=c∨b=dx,Ω:=fun i h=>AccI CA c dx h i }
inductive AccE (CA c dx:Addr) (h:Heap):Prop
 | mk (k kd:Nat) (es:List DictEntry) (qs:List Part) (a:AccO CA h c dx qs k kd es):AccE CA c dx h
theorem AccI.ex {h:Heap}{i:Option Int}(a:AccI CA c dx h i):AccE CA c dx h:=by
 cases a with
 | nil k kd a=>exact ⟨_,_,_,_,a⟩
 | one i a=>cases a with | mk qs k kd hs tk t e a=>exact ⟨_,_,_,_,a⟩
theorem accI_ok (hc:g.get? c=none) (hd:g.get? dx=none):(accI CA c dx).Ok g where
 up:=fun b hb=>hb
 off:=fun b hb=>hb.elim (fun e=>e▸hc) fun e=>e▸hd
 obj:=fun i h hw b hb=>hw.ex.rec fun _ _ _ _ a=>hb.elim (fun e=>e▸⟨_,a.o,nt_acc _ _ _ _⟩) fun e=>e▸⟨_,a.d,nt_dict _ _⟩
 seq:=fun i h hw b o hb e so=>hw.ex.rec fun _ _ _ _ a=>(hb.elim (fun z=>acc_nsq (sinj (z▸e) a.o▸so)) fun z=>dict_nsq (sinj (z▸e) a.d▸so)).elim
 st:=fun i h h' hw hk tk=>by
  cases hw with
  | nil k kd a=>exact .nil k kd ⟨hk _ _ (.inl rfl) a.o,hk _ _ (.inr rfl) a.d,nofun⟩
  | one i a=>exact .one i (a.st hk tk)
theorem code_init (L:LCls2 K CA) (X:K.In g) (hc:g.get? c=none) (hd:g.get? dx=none) (Y:AccSet K CA cd) (S:SupG prog K g CA cd cl) (SP:SupP g f) (M:MF (fun c q=>SupC prog g c q) K g CA "__init__" f (meth1 "_Accumulator" "__init__") cl ["self", "initial_size"]) (hal:alongIn K "__init__" [.type "list",.type "object"]=some (some (.builtin "list.__init__")))
  (rm:Rm (n+1) A) (hg:GK g T s) (a:AccO CA s.heap c dx [] k kd []) {th:Tok}:codeAny (model prog w) A (.call (.ref f) ⟨[.ref c,.int h th],[]⟩) (Ended (OutU (accI CA c dx) g T [] s .none (some h))) s :=
 code_meth (W:=accI CA c dx) (R:=.next (params ["self", "initial_size"] [.adr c,.int h])) (ds:=[.adr c,.int h]) M (accI_ok hc hd) (M.fo.looks rfl) rm hg (.nil k kd a) nofun (.cons (.adr c) (.cons (.int h th) .nil)) rfl fun env ow s₁ N Z=>by
  have ok:=accI_ok (CA:=CA) hc hd
  cases (show AccI CA c dx s₁.heap none from Z.w) with | nil k kd a =>
  refine ks_wpAt_execs_cons (wpAt_of_wpAny (wp_to (put_isz (j:=h) Y X hd .nil rfl (fun _ _ _=>rfl) Z.F (Ev.name rfl (A.deeper env) s₁ _ env N.sc_ N.rm Z.F.gk Z.F.ec) a nofun) fun fl s₂ h₂=>?_))
  cases h₂ with | mk kd hs tk t m a₂ l =>
  have m₂:Mv g T (accI CA c dx).U s₁ s₂:=m.sub fun _ hb=>.inl (.inr hb)
  have Z₂:FmW (accI CA c dx) g T ow env _ s₂ (some h):=Z.out ok m₂ (.one h ⟨[],k,kd,hs,tk,t,rfl,a₂⟩)
  refine ks_wpAt_execs_cons (ks_wpAt_Expr_any (wp_superB (E:=NoE) (supB_init hal) S SP L X N Z₂.F rfl a₂.o rfl rfl M.nc (fun A s Q E _ _ q=>chk_slot (by decide +kernel) (PySem.F.args_list_init_1 _) A Q E q) (fun A s₃ x o₃=>?_) rfl ⟨_,rfl⟩) (interactive_no Z₂.F) rfl)
  have Z₃:=Z₂.ext ok x
  have a₃:AccO CA s₃.heap c dx [] k kd (iszE hs tk h t):=⟨o₃,x.get' Z₂.F.gk a₂.d (nt_dict _ _),nofun⟩
  have fin:∀ h' k',Heap.SameBut c s₃.heap h'→h'.get? c=some (accO CA dx [] k')→MtU (accI CA c dx) g T ow env s₁ (.next _) (some h) .next { s₃ with heap:=h' }:=fun h' k' hs' e =>
   (OutU.mk (av:=[]) (d:=.none) (v:=.none) (m₂.trans (Mv.trans x.mv (Mv.one (tk:=s₃.toks) hs' o₃ noc_acc hc (.inl rfl:(accI CA c dx).U c)) fun _ hb=>.inl hb) fun _ hb=>.inl hb) .none (.one h ⟨[],k',kd,hs,tk,t,rfl,a₃.put nofun hs' e⟩)).next ok Z
  obtain ⟨hh,gs,d,t',os⟩:=s₃
  exact body_init o₃ fun h' k' hs' e=>wpAt_of_wpAny (wpAny_execs_nil (fin h' k' hs' e))
end
end
section
structure AccF where
 CA:Addr
 cd:ClassData
 cl:List (Str×Addr)
 ini:Addr
 psh:Addr
 pfr:Addr
 pop:Addr
 len:Addr
 str:Addr
 rst:Addr
 ows:Addr
 pcn:Addr
noncomputable abbrev AnyP:Value→Str→Prop:=fun _ _=>True
structure AccFns (prog:Program) (w:World) (K:Frag) (g:Heap) (T:Tabs) (a:AccF):Prop where
 L:LCls2 K a.CA
 X:K.In g
 Y:AccSet K a.CA a.cd
 mkL:LMake K a.CA a.ini
 S:SupG prog K g a.CA a.cd a.cl
 ini:MF (SupC prog g) K g a.CA "__init__" a.ini (meth1 "_Accumulator" "__init__") a.cl ["self", "initial_size"]
 psh:MF AnyP K g a.CA "push" a.psh (meth1 "_Accumulator" "push") [] ["self", "fws", "string"]
 pfr:MF (fun c _=>c≠.none) K g a.CA "pop_from" a.pfr (meth1 "_Accumulator" "pop_from") [] ["self", "i"]
 pop:MF (SupC prog g) K g a.CA "pop" a.pop (meth1 "_Accumulator" "pop") a.cl ["self"]
 len:MF (GenP g T) K g a.CA "__len__" a.len (meth1 "_Accumulator" "__len__") [] ["self"]
 str:MF (GenP g T) K g a.CA "__str__" a.str (meth1 "_Accumulator" "__str__") [] ["self"]
 rst:MF (fun c _=>c≠.none) K g a.CA "reset" a.rst (meth1 "_Accumulator" "reset") [] ["self", "startval"]
 ows:MF AnyP K g a.CA "is_onlyws" a.ows (meth1 "_Accumulator" "is_onlyws") [] ["self"]
 pcn:MF (SupC prog g) K g a.CA "part_count" a.pcn (meth1 "_Accumulator" "part_count") a.cl ["self"]
 pshG:specialIn K (.ref a.psh) "__get__" = some (some (.builtin "function.__get__"))
 pshT:takesIn K (.ref a.psh)=some false
 rs0:∀ {c o fd},g.get? a.rst=some o→o.data=.func fd→Looks (model prog w) g (bindArgs fd ⟨[.ref c],[]⟩) [("self",.ref c),("startval",.none)]
 iniP:SupP g a.ini
 popP:SupP g a.pop
 pcnP:SupP g a.pcn
 iniA:alongIn K "__init__" [.type "list",.type "object"]=some (some (.builtin "list.__init__"))
 popA:alongIn K "pop" [.type "list",.type "object"]=some (some (.builtin "list.pop"))
 lenA:alongIn K "__len__" [.type "list",.type "object"]=some (some (.builtin "list.__len__"))
 gsum:Glb g "sum" (.builtin "sum")
 glen:Glb g "len" (.builtin "len")
 gstr:Glb g "str" (.type "str")
 gemp:∃ te,Glb g "EMPTYSTRING" (.str es0 te)
structure AccIn (prog:Program) (w:World) (K:Frag) (g g':Heap) (T:Tabs) (a:AccF) (c dx:Addr) (ps:List (Str×Str)) (i:Int):Prop where
 B:AccFns prog w K g T a
 up:∀ b o,g.get? b=some o→g'.get? b=some o
 at_:AccAt a.CA g' c dx ps i
 sm:SmallP ps
 sz:0≤i∧i≤1000
theorem sum_nonneg {α:Type}(f:α→Nat) (l:List α):(l.map fun x=>(f x:Int)).sum=((l.map f).sum:Nat):=by
 induction l with
 | nil=>rfl
 | cons x l ih=>rw [List.map_cons,List.sum_cons,ih,List.map_cons,List.sum_cons,Int.natCast_add]
theorem accLen_bd {ps:List (Str×Str)}{i:Int}(hz:SmallP ps) (hi:0≤i∧i≤1000):0≤accLen ps i∧accLen ps i≤1801000:=by
 have h:=sum_le (fun p:Str×Str=>p.1.length+p.2.length) 2000 ps fun p hp=>Nat.add_le_add (hz.p p hp).1 (hz.p p hp).2
 have h2:=Nat.mul_le_mul_right 2000 hz.n
 have e:=sum_nonneg (fun p:Str×Str=>p.1.length+p.2.length) ps
 unfold accLen
 rw [show (ps.map fun p=>((p.1.length:Int)+(p.2.length:Int)))=ps.map fun p=>((p.1.length+p.2.length:Nat):Int) from List.map_congr_left fun p _=>(Int.natCast_add ..).symm,e]
 lia
section
variable {prog:Program}{w:World}{g g':Heap}{T:Tabs}{K:Frag}{n:Nat}{s s':Shared}{c dx:Addr}{ps:List (Str×Str)}{i:Int}{av:List Addr}{σ:Sto}{sc:Scope}{A:Around}{a:AccF}{x:Str}{e:Expr}{pos:Pos}
section
variable (Z:AccIn prog w K g g' T a c dx ps i)
include Z
theorem AccIn.here (q:GK g' T s):AccAt a.CA s.heap c dx ps i:=Z.at_.st (fun b o _ e=>q.keep b o e) fun b _ _ e=>q.keep b _ e
theorem AccIn.heap (q:GK g' T s):K.In s.heap:=in_up Z.B.X fun b o e=>q.keep b o (Z.up b o e)
theorem AccIn.run {f:Addr}{d:D}(q:GK g' T s) (rm:Rm n A) (h:ClU prog w g T n f (accW a.CA [] c dx).ro (ps,i) [.adr c] d (ps,i)):wpAny (model prog w) A (call (.ref f) [.ref c]) (Out g' T [] s d) NoE s :=
 wp_to (h.run A s _ rm (q.down Z.up) ⟨Z.here q,nofun⟩ nofun VDs.nil.cons0) fun v s₂ h₂=>by cases h₂ with | mk m r w=>exact ⟨(m.ext fun b f=>f.elim).rise Z.up,r⟩
theorem len_body (q:GK g' T s) (rm:Rm (n+3) A):wpAny (model prog w) A (Builtin.«len» ⟨[.ref c],[]⟩) (fun fin s'=>∃ v,fin=.done (.ret v)∧Out g' T [] s (.int (accLen ps i)) v s') NoE s:=by
 have b:=accLen_bd Z.sm Z.sz
 unfold Builtin.«len»
 refine wpAny_bind (m:=oneArg "len" _) (wpAny_pure ?_)
 cases Z.here q with | mk qs k kd hs tk t ep ac =>
 refine wpAny_bind (m:=callSpecial? (.ref c) (Str.ofString "__len__")) (special_fn (Z.heap q) (acc_inst ac.o ac.d) Z.B.len.find (beq_iff_eq.mp Z.B.len.isf) (wp_to (Z.run q rm (cl_alen (n:=n) Z.B.len Z.B.L Z.B.X Z.B.gsum Z.B.glen Z.sm Z.sz)) fun r s' hr=>?_))
 obtain ⟨t',rfl⟩:=hr.2.i4
 refine wpAny_bind (wpAny_holding (wpAny_pure (wpAny_bind (wpAny_letGo ?_))))
 show wpAny _ _ (if accLen ps i<0 then _ else _) _ _ _
 rw [if_neg (Int.not_lt.mpr b.1)]
 show wpAny _ _ (if accLen ps i≥2 ^ 63 then _ else _) _ _ _
 rw [if_neg (Int.not_le.mpr (Int.lt_of_le_of_lt b.2 (by decide)))]
 exact wpAny_bind (wpAny_mkInt (wpAny_pure ⟨_,rfl,hr.1.trans (.tok _),.int _ _⟩))
theorem flat_adr_args {vs:List Value}{av:List Addr}{h:Heap}(r:VDs av h vs [.adr c]):vs=[.ref c]:=by
 cases r.one1 with | mk r₁=>cases r₁.i1; rfl
theorem cl_lenAcc:ClV prog w g' T (n+4) "len" [.adr c] (.int (accLen ps i)):=⟨_,Z.B.glen.up Z.up,.bi _,fun A s av vs rm q hav hv=>by
 rw [flat_adr_args Z hv]
 exact Calls.call_function_entry PySem.kind_len plain_len entry_len (args_len1 _) (wp_to (len_body Z q rm.in1) fun fin s' h=>h.imp fun v p=>⟨p.1,p.2.1,flat_int _ _ _ p.2.2⟩)⟩
end
end
end
section
noncomputable def isOnly (ps:List (Str×Str)) (i:Int):Bool:=i==0&&(!(accLen ps i != 0)||Txt.isspace (accText ps))
section
variable {prog:Program}{w:World}{g g':Heap}{T:Tabs}{K:Frag}{n:Nat}{s s':Shared}{c dx:Addr}{ps:List (Str×Str)}{i:Int}{av:List Addr}{σ:Sto}{sc:Scope}{A:Around}{a:AccF}{x:Str}{e:Expr}{pos:Pos}
theorem mt_isspace:MtV prog w g T n "isspace" (.str x) [] (.bool (Txt.isspace x)) :=
 ⟨_,_,F.plainAttrs_str,F.slot_str_isspace,F.type_str_isspace,fun _ _ _=>kind_str,fun A s av ov vs rm hg hav ho hv=>by
  obtain ⟨_,rfl⟩:=ho.i5
  cases hv.i0
  exact call_gives F.slot_str_isspace (typeIs_str _ _ _) F.entry_str_isspace (F.args_str_isspace_1 _) (gives_str_isspace _ _) out_bool⟩
section
variable (Z:AccIn prog w K g g' T a c dx ps i)
include Z
theorem acc_truth (q:GK g' T s) (rm:Rm (n+4) A):wpAny (model prog w) A (truthy (.ref c)) (fun b s'=>b=(accLen ps i != 0)∧Ext g' T s s') NoE s:=by
 cases Z.here q with | mk qs k kd hs tk t ep ac =>
 have X:=Z.heap q
 have I:=acc_inst ac.o ac.d
 unfold truthy
 refine wpAny_bind (m:=callSpecial? (.ref c) (Str.ofString "__bool__")) (wpAny_bind (wpAny_bind (I.type.here ((looks_findIn X Z.B.L.bl).here (wpAny_pure ?_)))))
 refine wpAny_bind (wpAny_bind (I.type.here ((looks_findIn X Z.B.len.find).here ?_)))
 refine wpAny_bind (wp_to (wpAny_runValue (Q:=Out g' T [] s (.int (accLen ps i))) (codeAny_builtin entry_len (by
  rw [Around.under_plainId plain_len _]
  exact wp_to (len_body Z q rm.in1) fun fin s' h=>h.elim fun v p=>p.1▸p.2))) fun v s' h=>?_)
 obtain ⟨t',rfl⟩:=h.2.i4
 exact wpAny_pure ⟨rfl,h.1⟩
theorem Ev.notAcc {o:Expr}(ho:Ev prog w g' T (n+4) sc σ o (.adr c)):Ev prog w g' T (n+4) sc σ (.UnaryOp .Not o pos) (.bool (!(accLen ps i != 0))):=fun A s av env he rm q hc =>
 wpAny_UnaryOp (wp_to (ho A s av env he rm q hc) fun v s₁ h₁=>by
  cases h₁.2.i1
  exact not_value (wp_to (acc_truth Z (h₁.1.gk q) rm) fun b s₂ h₂=>⟨h₁.1.trans h₂.2,h₂.1▸.bool _⟩))
theorem cl_strAcc:ClV prog w g' T (n+5) "str" [.adr c] (.str (accText ps)):=⟨_,Z.B.gstr.up Z.up,.ty _,fun A s av vs rm q hav hv=>by
 rw [flat_adr_args Z hv]
 cases Z.here q with | mk qs k kd hs tk t ep ac =>
 obtain ⟨te,ge⟩:=Z.B.gemp
 have r2:Rm (n+3) A.in1.in1:=rm.in1.in1
 exact kso_call (by have:=r2.units; lia) (Z.heap q) (acc_inst ac.o ac.d) Z.B.str.find Z.B.str.isf (wp_to (Z.run q r2 (cl_astr (n:=n) Z.B.str Z.B.L Z.B.X ge Z.sm)) fun v s' h=>by
  obtain ⟨t,rfl⟩:=h.2.i5
  exact ⟨h.1,.str _ t⟩)⟩
end
theorem cl_ows (B:AccFns prog w K g T a) (hz:SmallP ps) (hi:0≤i∧i≤1000):ClU prog w g T (n+6) a.ows (accW a.CA [] c dx).ro (ps,i) [.adr c] (.bool (isOnly ps i)) (ps,i) :=
 ClU.of (R:=.ret (.bool (isOnly ps i))) B.ows accR_ok rfl (SxUL.last (SxU.ret (EvU.gnd accR_ok fun g' up hw=>by
  have Z:AccIn prog w K g g' T a c dx ps i:=⟨B,up,hw.1,hz,hi⟩
  exact Ev.bool2 (EvV.and_cons (Ev.cmp (Ev.attr (fun _=>rfl) (Ev.name rfl) (gets_isz B.L (in_up B.X up) hw.1) flat_int) Ev.int rfl cmp_eq) fun _=>EvV.one (Ev.bool2 (EvV.or_cons ((Ev.notAcc (n:=n) Z (Ev.name rfl)).mono (by lia)) fun _=>EvV.one (Ev.meth0 (fun _=>rfl) rfl (Ev.call rfl (EvL.more (fun _=>rfl) (Ev.name rfl) EvL.nil) (cl_strAcc (n:=n) Z)) mt_isspace)))))))
end
end
theorem tc_weight (C:Addr) (l:List Value):(Code.builtin "type.__call__" ⟨.ref C::l,[]⟩).weight=1:=by kernel_rfl
theorem tc_units (args:Args):(Code.builtin "type.__call__" args).cUnits=1:=by kernel_rfl
theorem Rm.tc {n:Nat}{A:Around}{C:Addr}{l:List Value}(r:Rm (n+1) A):Rm n (A.under (.builtin "type.__call__" ⟨.ref C::l,[]⟩)):=by
 refine ⟨?_,?_,r.hand⟩
 ·show A.depth+(Code.builtin "type.__call__" ⟨.ref C::l,[]⟩).weight+n<_
  rw [tc_weight,Nat.add_assoc,Nat.add_comm 1]
  exact r.depth
 ·show A.units+(Code.builtin "type.__call__" ⟨.ref C::l,[]⟩).cUnits+100*n<_
  rw [tc_units]
  exact Nat.lt_of_le_of_lt (by lia) r.units
inductive AccNew (g:Heap) (T:Tabs) (CA:Addr) (i:Int) (s:Shared):Value→Shared→Prop
 | mk {c dx:Addr}{s':Shared}(hc:s.heap.get? c=none) (hd:s.heap.get? dx=none) (x:Ext g T s s') (a:AccAt CA s'.heap c dx [] i):AccNew g T CA i s (.ref c) s'
theorem acc_new {prog:Program}{w:World}{g:Heap}{T:Tabs}{K:Frag}{n:Nat}{s:Shared}{A:Around}{a:AccF}{h:Int}{th:Tok}(B:AccFns prog w K g T a) (rm:Rm (n+2) A) (hg:GK g T s):wpAny (model prog w) A (call (.ref a.CA) [.int h th]) (AccNew g T a.CA h s) NoE s:=by
 obtain ⟨hp,gs,d,t,os⟩:=s
 have x₁:Ext g T ⟨hp,gs,d,t,os⟩ ⟨(hp.push emptyDict).push (accO a.CA hp.objs.size [] 0),gs,d,t,os⟩:=Ext.trans (s':=⟨hp.push emptyDict,gs,d,t,os⟩) (.push _) (.push _)
 have n1:hp.get? hp.objs.size=none:=Heap.get?_none_of_le (Nat.le_refl _)
 have n2:hp.get? (hp.objs.size+1)=none:=Heap.get?_none_of_le (Nat.le_succ _)
 have hx:((hp.push emptyDict).push (accO a.CA hp.objs.size [] 0)).get? (hp.objs.size+1)=some (accO a.CA hp.objs.size [] 0):=by heap_get
 refine wpAny_call (make_list (in_up B.X hg.keep) B.mkL (codeAny_mono (code_init (th:=th) (c:=hp.objs.size+1) (dx:=hp.objs.size) B.L B.X (hg.new n2) (hg.new n1) B.Y B.S B.iniP B.ini B.iniA rm.tc (x₁.gk hg) ⟨hx,by heap_get,nofun⟩) fun r s' z=>?_))
 rcases r with e | (v | _ | _ | _) <;> first | exact z.elim | skip
 cases z with | mk m r wj =>
 cases r.i2
 cases wj with | one _ ac=>exact ⟨rfl,n2,n1,(Mv.trans (W:=(accI a.CA (hp.objs.size+1) hp.objs.size).U) x₁.mv m fun b hb=>.inl hb).ext fun b hb=>hb.elim (fun e=>e▸n2) fun e=>e▸n1,ac⟩
section
structure Pg where
 m:Addr
 md:Addr
 l:Addr
 c:Addr
 dx:Addr
structure PgP where
 mx:Int
 cw:Str
 sp:Str
noncomputable abbrev Pst:=List Str×List (Str×Str)×Int
noncomputable def pgNames:List Str:=["newline", "_str", "__str__", "_append_chunk", "feed", "add_transition", "_maxlengths", "_ascii_split"]
structure PgHd (CV:Addr) (h:Heap) (q:Pg) (p:PgP) (es:List DictEntry) (kd:Nat):Prop where
 obj:h.get? q.m=some (instObj CV q.md)
 dic:h.get? q.md=some (dictOf es kd)
 mx:∃ t,getL "_maxlen" es=some (some (.int p.mx t))
 cw:∃ t,getL "_continuation_ws" es=some (some (.str p.cw t))
 cl:∃ t,getL "_continuation_ws_len" es=some (some (.int p.cw.length t))
 sp:∃ t,getL "_splitchars" es=some (some (.str p.sp t))
 ln:getL "_lines" es=some (some (.ref q.l))
 cu:getL "_current_line" es=some (some (.ref q.c))
 ne:q.dx≠q.md
 no:∀ x∈pgNames,getL x es=some none
inductive PageAt (CV CA:Addr) (h:Heap) (q:Pg) (p:PgP) (st:Pst):Prop
 | mk (es:List DictEntry) (kd:Nat) (ts:List (Str×Tok)) (kl:Nat) (H:PgHd CV h q p es kd) (l:h.get? q.l=some (lstO (strValues ts) kl)) (e:ts.map (·.1)=st.1) (a:AccAt CA h q.c q.dx st.2.1 st.2.2)
noncomputable def Pg.U (q:Pg) (b:Addr):Prop:=b=q.l∨b=q.c∨b=q.dx
noncomputable def Pg.all (q:Pg) (b:Addr):Prop:=b=q.m∨b=q.md∨q.U b
noncomputable abbrev pgW (CV CA:Addr) (q:Pg) (p:PgP):Wo Pst:={ av:=[q.l],P:=q.all,U:=q.U,Ω:=fun st h=>PageAt CV CA h q p st }
section
variable {g:Heap}{T:Tabs}{s s':Shared}{h h':Heap}{CV CA:Addr}{q:Pg}{p:PgP}{st:Pst}{ps:List (Str×Str)}{i:Int}{b:Addr}
theorem nt_inst (C d:Addr):NT (instObj C d):=fun _ e=>disc tgO e rfl
theorem PgHd.keep {es:List DictEntry}{kd:Nat}(H:PgHd CV h q p es kd) (k1:h'.get? q.m=some (instObj CV q.md)) (k2:h'.get? q.md=some (dictOf es kd)):PgHd CV h' q p es kd:={ H with obj:=k1,dic:=k2 }
theorem page_obj (P:PageAt CV CA h q p st) (hb:q.all b):∃ o,h.get? b=some o∧NT o:=by
 cases P with | mk es kd ts kl H l e a =>
 cases a with | mk qs k kd hs tt t e' a =>
 rcases hb with rfl | rfl | rfl | rfl | rfl
 ·exact ⟨_,H.obj,nt_inst _ _⟩
 ·exact ⟨_,H.dic,nt_dict _ _⟩
 ·exact ⟨_,l,nt_lst _ _⟩
 ·exact ⟨_,a.o,nt_acc _ _ _ _⟩
 ·exact ⟨_,a.d,nt_dict _ _⟩
theorem page_st (P:PageAt CV CA h q p st) (hk:∀ b o,q.all b→h.get? b=some o→h'.get? b=some o) (tk:TupK h h'):PageAt CV CA h' q p st:=by
 cases P with | mk es kd ts kl H l e a =>
 exact ⟨es,kd,ts,kl,H.keep (hk _ _ (.inl rfl) H.obj) (hk _ _ (.inr (.inl rfl)) H.dic),hk _ _ (.inr (.inr (.inl rfl))) l,e,a.st (fun b o hb=>hk b o (.inr (.inr (.inr hb)))) tk⟩
theorem page_seq {o:Obj}(P:PageAt CV CA h q p st) (hb:q.U b) (eo:h.get? b=some o) (so:SeqObj o):b=q.l:=by
 cases P with | mk es kd ts kl H l e a =>
 cases a with | mk qs k kd hs tt t e' a =>
 rcases hb with rfl | rfl | rfl
 ·rfl
 ·exact (acc_nsq (sinj eo a.o▸so)).elim
 ·exact (dict_nsq (sinj eo a.d▸so)).elim
theorem pgW_ok (hU:∀ b,q.U b→g.get? b=none):(pgW CV CA q p).Ok g where
 up:=fun b hb=>.inr (.inr hb)
 off:=hU
 obj:=fun st h hw b hb=>page_obj hw hb
 seq:=fun st h hw b o hb eo so=>page_seq hw hb eo so▸.head _
 st:=fun st h h' hw hk tk=>page_st hw hk tk
structure PgNe (q:Pg):Prop where
 mU:¬ q.U q.m
 dU:¬ q.U q.md
 lc:q.l≠q.c
 ld:q.l≠q.dx
theorem PageAt.apart (P:PageAt CV CA h q p st):PgNe q:=by
 cases P with | mk es kd ts kl H l e a =>
 cases a with | mk qs k kd' hs tt t e' a =>
 exact ⟨fun z=>z.elim (Mine.apart H.obj l rfl) fun z=>z.elim (Mine.apart H.obj a.o rfl) (Mine.apart H.obj a.d rfl),fun z=>z.elim (Mine.apart H.dic l rfl) fun z=>z.elim (Mine.apart H.dic a.o rfl) fun z=>H.ne z.symm,Mine.apart l a.o rfl,Mine.apart l a.d rfl⟩
theorem PageAt.accMv (P:PageAt CV CA s.heap q p st) (hg:GK g T s) (m:Mv g T (fun b=>b=q.c∨b=q.dx) s s') (a:AccAt CA s'.heap q.c q.dx ps i):PageAt CV CA s'.heap q p (st.1,ps,i):=by
 have A:=P.apart
 cases P with | mk es kd ts kl H l e _ =>
 exact ⟨es,kd,ts,kl,H.keep (m.get' hg H.obj (fun z=>A.mU (.inr z)) (nt_inst _ _)) (m.get' hg H.dic (fun z=>A.dU (.inr z)) (nt_dict _ _)),m.get' hg l (fun z=>z.elim A.lc A.ld) (nt_lst _ _),e,a⟩
theorem PageAt.acc (P:PageAt CV CA h q p st):AccAt CA h q.c q.dx st.2.1 st.2.2:=P.rec fun _ _ _ _ _ _ _ a=>a
theorem PageAt.avl (P:PageAt CV CA h q p st):AvL [q.l] h:=fun b hb=>List.mem_singleton.mp hb▸P.rec fun _ _ _ _ _ l _ _=>⟨_,_,l⟩
theorem PageAt.rows {ts:List (Str×Tok)}{kl:Nat}(P:PageAt CV CA h q p st) (hs:Heap.SameBut q.l h h') (l':h'.get? q.l=some (lstO (strValues ts) kl)):PageAt CV CA h' q p (ts.map (·.1),st.2):=by
 have A:=P.apart
 cases P with | mk es kd ts' kl' H l e a =>
 refine ⟨es,kd,ts,kl,H.keep ((hs.2 _ fun z=>A.mU (.inl z)).trans H.obj) ((hs.2 _ fun z=>A.dU (.inl z)).trans H.dic),l',rfl,a.st (fun b o hb e=>(hs.2 b fun z=>hb.elim (fun y=>A.lc (z▸y)) fun y=>A.ld (z▸y)).trans e) fun a us n e=>(hs.2 a (Mine.apart e l rfl)).trans e⟩
end
section
variable {prog:Program}{w:World}{g:Heap}{T:Tabs}{n:Nat}{σ:Sto}{f:Addr}{CV CA:Addr}{q:Pg}{p:PgP}{ls:List Str}{ps ps':List (Str×Str)}{i i':Int}{ds:List D}{d:D}
theorem RunU.cur (h:∀ av,ClU prog w g T n f (accW CA av q.c q.dx) (ps,i) ds d (ps',i')):RunU prog w g T n σ f (pgW CV CA q p) (ls,ps,i) ds d (ls,ps',i'):=⟨fun A s ow env vs rm Z hv=>by
 have l:=Z.lists Z.w.avl
 exact wp_to ((h _).run A s vs rm Z.F.gk ⟨Z.w.acc,l⟩ l.ok hv) fun v s' q=>by
  cases q with | mk m r wj=>exact ⟨m.sub fun _ hb=>.inl (.inr hb),r,Z.w.accMv Z.F.gk m wj.1⟩⟩
end
end
section
structure FmtF where
 CV:Addr
 cv:ClassData
 ini:Addr
 sfn:Addr
 nwl:Addr
 apc:Addr
noncomputable def pgAttrs:List Str:=["_maxlen", "_continuation_ws", "_continuation_ws_len", "_splitchars", "_lines", "_current_line"]
structure VCls (K:Frag) (CV:Addr):Prop where
 ga:findIn K (.ref CV) "__getattribute__" = some (some (.builtin "object.__getattribute__"))
 gx:findIn K (.ref CV) "__getattr__" = some none
 hd:hasDictIn K CV=true
 at_:∀ x∈pgAttrs,findIn K (.ref CV) x=some none
structure VSet (K:Frag) (CV:Addr) (cd:ClassData):Prop where
 sa:findIn K (.ref CV) "__setattr__" = some (some (.builtin "object.__setattr__"))
 cls:clsIn K CV=some cd
 mro:cd.mro=[.ref CV,.type "object"]
 tak:∀ x∈pgAttrs,takerIn K CV x=some none
 dict:cd.hasDict=true
structure FmtFns (prog:Program) (w:World) (K:Frag) (g:Heap) (T:Tabs) (a:AccF) (b:FmtF):Prop where
 A:AccFns prog w K g T a
 V:VCls K b.CV
 S:VSet K b.CV b.cv
 mkV:makesIn K b.CV=true
 gacc:Glb g "_Accumulator" (.ref a.CA)
 kacc:keepIn K (.ref a.CA)=true
 gran:Glb g "range" (.type "range")
 ini:MF AnyP K g b.CV "__init__" b.ini (meth1 "_ValueFormatter" "__init__") [] ["self", "headerlen", "maxlen", "continuation_ws", "splitchars"]
 sfn:MF AnyP K g b.CV "_str" b.sfn (meth1 "_ValueFormatter" "_str") [] ["self", "linesep"]
 nwl:MF AnyP K g b.CV "newline" b.nwl (meth1 "_ValueFormatter" "newline") [] ["self"]
 apc:MF AnyP K g b.CV "_append_chunk" b.apc (meth1 "_ValueFormatter" "_append_chunk") [] ["self", "fws", "string"]
noncomputable def sp1:Str:=Str.ofString " "
structure Small (st:Pst):Prop where
 n:st.2.1.length≤800
 p:∀ x∈st.2.1,x.1.length≤1000∧x.2.length≤1000
 o:∀ x∈st.2.1,PyData.strOk x.1=true∧PyData.strOk x.2=true
 i:0≤st.2.2∧st.2.2≤1000
 l:st.1.length≤900
 m:∀ x∈st.1,x.length≤4000000
theorem flat_adr {c:Addr}:Flat (.adr c):=fun av h v r=>by cases r.i1; exact .adr _
theorem flat_str {x:Str}:Flat (.str x):=fun av h v r=>by obtain ⟨t,rfl⟩:=r.i5; exact .str _ t
theorem flat_none:Flat .none:=fun av h v r=>r.i2▸.none
theorem flat_bool {b:Bool}:Flat (.bool b):=fun av h v r=>r.i3▸.bool b
section
variable {prog:Program}{w:World}{g g':Heap}{T:Tabs}{K:Frag}{n:Nat}{q:Pg}{p:PgP}{st:Pst}{ls:List Str}{ps:List (Str×Str)}{i:Int}{σ:Sto}{sc:Scope}{a:AccF}{b:FmtF}{p0 p1 p2 p3 p4 p5 pos apos:Pos}{kk:Nat}{e:Expr}
inductive PgGet (q:Pg) (p:PgP):Str→D→Prop
 | mx:PgGet q p "_maxlen" (.int p.mx)
 | cw:PgGet q p "_continuation_ws" (.str p.cw)
 | sp:PgGet q p "_splitchars" (.str p.sp)
 | ln:PgGet q p "_lines" (.adr q.l)
 | cu:PgGet q p "_current_line" (.adr q.c)
inductive PgEnt (q:Pg) (p:PgP) (es:List DictEntry) (x:Str) (d:D):Prop
 | mk (v:Value) (e:getL x es=some (some v)) (h:handedIn v=true) (r:∀ av h,VD av h v d) (m:x∈pgAttrs)
theorem PgHd.ent {CV:Addr}{h:Heap}{es:List DictEntry}{kd:Nat}{x:Str}{d:D}(H:PgHd CV h q p es kd) (z:PgGet q p x d):PgEnt q p es x d:=by
 cases z with
 | mx=>exact H.mx.elim fun t e=>⟨_,e,rfl,fun _ _=>.int _ t,by decide⟩
 | cw=>exact H.cw.elim fun t e=>⟨_,e,rfl,fun _ _=>.str _ t,by decide⟩
 | sp=>exact H.sp.elim fun t e=>⟨_,e,rfl,fun _ _=>.str _ t,by decide⟩
 | ln=>exact ⟨_,H.ln,rfl,fun _ _=>.adr _,by decide⟩
 | cu=>exact ⟨_,H.cu,rfl,fun _ _=>.adr _,by decide⟩
theorem PgHd.inst {CV:Addr}{h:Heap}{es:List DictEntry}{kd:Nat}(H:PgHd CV h q p es kd):InstAt h q.m (instObj CV q.md) CV (some (dictOf es kd)):=⟨H.obj,rfl,rfl,H.dic⟩
theorem Ev.pg {x:Str}{d:D}{o:Expr}(B:FmtFns prog w K g T a b) (up:∀ b o,g.get? b=some o→g'.get? b=some o) (P:PageAt b.CV a.CA g' q p st) (hi:IsAttr o x pos) (ho:Ev prog w g' T n sc σ o (.adr q.m)) (z:PgGet q p x d):Ev prog w g' T n sc σ (.Attribute o x pos) d:=fun A s av env he rm hg hc =>
 Attribute_any_ (wp_to (ho A s av env he rm hg hc) fun v s₁ h₁=>by
  cases h₁.2.i1
  have k:=(h₁.1.gk hg).keep
  cases P with | mk es kd ts kl H l e ac =>
  cases H.ent z with | mk v e h r m=>exact get_value (in_up B.A.X fun b o e=>k b o (up b o e)) (H.keep (k _ _ H.obj) (k _ _ H.dic)).inst B.V.ga (findObj_own B.V.hd (B.V.at_ _ m) (by rfl) e) h ⟨h₁.1.trans (.tok _),r _ _⟩) (hi env)
theorem finds_pg {m:Str}{xs:List Str}{sm:Stmt}{f:Addr}(B:FmtFns prog w K g T a b) (M:MF AnyP K g b.CV m f sm [] xs) (hm:m∈pgNames):Finds prog w g ((pgW b.CV a.CA q p).Ω st) q.m f m:=fun k P z=>by
 cases P with | mk es kd ts kl H l e ac =>
 refine method_fn (in_up B.A.X k) H.inst B.V.ga B.V.gx M.find (beq_iff_eq.mp M.isf) ?_ z
 show (getL m es).map (·.isSome)=some false
 rw [H.no m hm]; rfl
section
variable (B:FmtFns prog w K g T a b) (hU:∀ x,q.U x→g.get? x=none) (hs:σ.lookup (Str.ofString "self")=some (.val (.adr q.m)))
include B hs
theorem ev_cur:Over g (pgW b.CV a.CA q p) st fun g'=>Ev prog w g' T n sc σ (.Attribute (.Name "self" p0) "_current_line" p1) (.adr q.c):=fun g' up P=>.pg B up P (fun _=>rfl) (Ev.name hs) .cu
omit hs
theorem pg_in (hz:SmallP ps) (hi:0≤i∧i≤1000) (up:∀ b o,g.get? b=some o→g'.get? b=some o) (P:PageAt b.CV a.CA g' q p (ls,ps,i)):AccIn prog w K g g' T a q.c q.dx ps i:=⟨B.A,up,P.acc,hz,hi⟩
include hs
theorem ev_lenCur (hl:sc.names.lookup ("len" : Str)=some .globalImplicit) (hz:SmallP ps) (hi:0≤i∧i≤1000):Over g (pgW b.CV a.CA q p) (ls,ps,i) fun g'=>Ev prog w g' T (n+4) sc σ (.Call (.Name "len" p2) [.Attribute (.Name "self" p0) "_current_line" p1] [] pos) (.int (accLen ps i)):=fun g' up P =>
 Ev.call hl (EvL.more (fun _=>rfl) (ev_cur B hs g' up P) EvL.nil) (cl_lenAcc (n:=n) (pg_in B hz hi up P))
theorem ev_strCur (hl:sc.names.lookup ("str" : Str)=some .globalImplicit) (hz:SmallP ps) (hi:0≤i∧i≤1000):Over g (pgW b.CV a.CA q p) (ls,ps,i) fun g'=>Ev prog w g' T (n+5) sc σ (.Call (.Name "str" p2) [.Attribute (.Name "self" p0) "_current_line" p1] [] pos) (.str (accText ps)):=fun g' up P =>
 Ev.call hl (EvL.more (fun _=>rfl) (ev_cur B hs g' up P) EvL.nil) (cl_strAcc (n:=n) (pg_in B hz hi up P))
theorem ev_own {m:Str}{P:Value→Str→Prop}{f:Addr}{sm:Stmt}{cl:List (Str×Addr)}{xs:List Str}{d:D}(M:MF P K g a.CA m f sm cl xs) (hne:(isz==m)=false) (hr:ClU prog w g T n f (accW a.CA [] q.c q.dx).ro (ps,i) [.adr q.c] d (ps,i)) (hd:Flat d) (hm:IsMeth (.Attribute (.Name "self" p0) "_current_line" p1) m apos [] pos) (hb:∀ env,attributeBase (.Attribute (.Name "self" p0) "_current_line" p1) m env (eval (.Attribute (.Name "self" p0) "_current_line" p1) env)=eval (.Attribute (.Name "self" p0) "_current_line" p1) env) (hU:∀ x,q.U x→g.get? x=none) :
  Over g (pgW b.CV a.CA q p) (ls,ps,i) fun g'=>Ev prog w g' T n sc σ (.Call (.Attribute (.Attribute (.Name "self" p0) "_current_line" p1) m apos) [] [] pos) d:=fun g' up P =>
 Ev.own0 (W:=accW a.CA [] q.c q.dx) up (accW_ok (hU _ (.inr (.inl rfl))) (hU _ (.inr (.inr rfl)))) B.A.X M.kee hm hb (ev_cur B hs g' up P) (finds_acc B.A.L B.A.X M hne) hr ⟨P.acc,nofun⟩ rfl hd
theorem ev_call {m:Str}{P:Value→Str→Prop}{f:Addr}{sm:Stmt}{cl:List (Str×Addr)}{xs:List Str}{d:D}{ds:List D}{es:List Expr}{ps':List (Str×Str)}{i':Int}(hU:∀ x,q.U x→g.get? x=none) (M:MF P K g a.CA m f sm cl xs) (hne:(isz==m)=false) (hr:∀ av,ClU prog w g T n f (accW a.CA av q.c q.dx) (ps,i) (.adr q.c::ds) d (ps',i')) (hm:IsMeth (.Attribute (.Name "self" p0) "_current_line" p1) m apos (e::es) pos) (hb:∀ env,attributeBase (.Attribute (.Name "self" p0) "_current_line" p1) m env (eval (.Attribute (.Name "self" p0) "_current_line" p1) env)=eval (.Attribute (.Name "self" p0) "_current_line" p1) env) (ha:Over g (pgW b.CV a.CA q p) (ls,ps,i) fun g'=>EvL prog w g' T n sc σ (e::es) ds) :
  EvU prog w g T n sc (pgW b.CV a.CA q p) (ls,ps,i) σ (.Call (.Attribute (.Attribute (.Name "self" p0) "_current_line" p1) m apos) (e::es) [] pos) d (ls,ps',i') :=
 EvU.own (pgW_ok hU) B.A.X M.kee hm hb (ev_cur B hs) (fun k P=>finds_acc (av:=[]) B.A.L B.A.X M hne k ⟨P.acc,nofun⟩) ha (RunU.cur hr)
theorem ev_call0 {m:Str}{P:Value→Str→Prop}{f:Addr}{sm:Stmt}{cl:List (Str×Addr)}{xs:List Str}{d:D}{ps':List (Str×Str)}{i':Int}(hU:∀ x,q.U x→g.get? x=none) (M:MF P K g a.CA m f sm cl xs) (hne:(isz==m)=false) (hr:∀ av,ClU prog w g T n f (accW a.CA av q.c q.dx) (ps,i) [.adr q.c] d (ps',i')) (hm:IsMeth (.Attribute (.Name "self" p0) "_current_line" p1) m apos [] pos) (hb:∀ env,attributeBase (.Attribute (.Name "self" p0) "_current_line" p1) m env (eval (.Attribute (.Name "self" p0) "_current_line" p1) env)=eval (.Attribute (.Name "self" p0) "_current_line" p1) env) :
  EvU prog w g T n sc (pgW b.CV a.CA q p) (ls,ps,i) σ (.Call (.Attribute (.Attribute (.Name "self" p0) "_current_line" p1) m apos) [] [] pos) d (ls,ps',i') :=
 EvU.own0 (pgW_ok hU) B.A.X M.kee hm hb (ev_cur B hs) (fun k P=>finds_acc (av:=[]) B.A.L B.A.X M hne k ⟨P.acc,nofun⟩) (RunU.cur hr)
end
end
end
section
section
variable {prog:Program}{w:World}{g g':Heap}{T:Tabs}{K:Frag}{n:Nat}{q:Pg}{p:PgP}{st:Pst}{ls:List Str}{ps:List (Str×Str)}{i:Int}{σ:Sto}{sc:Scope}{a:AccF}{b:FmtF}{p0 p1 p2 p3 p4 p5 pos apos spos:Pos}{kk:Nat}{e:Expr}{A:Around}{s:Shared}{vs:List Value}{k:Nat}{env:Env}{E:Value→Shared→Prop}{x:Str}{pr:Str×Str}
theorem wp_setLast {l:Addr}{y:Value}{t:Tok}{v:Value}{Q:Unit→Shared→Prop}(ho:s.heap.get? l=some (lstO (vs++[y]) k))
  (h:∀ h' n',h'.get? l=some (lstO (vs++[v]) n')→Heap.SameBut l s.heap h'→Q () { s with heap:=h' }):wpAny (model prog w) A (setItem (.ref l) (.int (-1) t) v) Q E s:=by
 have hl:s.heap.IsList l (vs++[y]).toArray:=⟨_,ho,rfl,k,rfl⟩
 unfold setItem
 try with_reducible refine wpAny_holding ?_
 first | refine wpAny_bind (wpAny_pure ?_) | skip
 refine wpAny_bind (wpAny_sequenceKey hl.typeIs (by decide) ?_)
 refine wpAny_bind (wpAny_callSpecial?_slot (name:=Str.ofString "__setitem__") hl.typeIs slot_list_setitem
  (wpAny_call_entry slot_list_setitem hl.typeIs entry_list_setitem ?_ (args_list_setitem _ _ _)))
 show wpAny _ _ (Builtin.List.listSubscript? (.int (-1) t) >>= _) _ _ s
 refine wpAny_bind (wpAny_listSubscript_int (fitsIndex_neg (by decide) (by decide)) ?_)
 have hs:(vs++[y]).toArray.size=vs.length+1:=by simp
 have hidx:seqIndex? (-1) (vs++[y]).toArray.size=some vs.length:=by
  rw [hs,seqIndex_neg (by lia) (by lia)]; congr 1; lia
 have hx:(vs++[y]).toArray[vs.length]?=some y:=by simp
 show wpAny _ _ ((Builtin.List.listItems (.ref l) >>= fun xs=>pure ((seqIndex? (Int.negSucc 0) xs.size).bind fun i=>xs[i]?.map (i, ·))) >>= _) _ _ s
 refine wpAny_bind (wpAny_bind ?_)
 show wpAny _ _ (seqItems? (.ref l) >>= _) _ _ s
 refine wpAny_bind (wpAny_seqItems ho rfl (wpAny_pure (wpAny_pure ?_)))
 rw [show seqIndex? (Int.negSucc 0) (vs++[y]).toArray.size=some vs.length from hidx]
 simp only [Option.bind_some,hx,Option.map_some]
 show wpAny _ _ (setSeqItemAt l vs.length v >>= _) _ _ s
 have hfin:(s.heap.update l (Obj.mapSeq (·.setIfInBounds vs.length v))).get? l=some (lstO (vs++[v]) k):=by
  have:=PySem.IsL.update (h:=s.heap) (l:=l) (items:=(vs++[y]).toArray) (n:=k) ho (fun x=>x.setIfInBounds vs.length v)
  simpa [lstO] using this
 refine wpAny_bind (wpAny_setSeqItemAt ho rfl ?_)
 first
  | exact wpAny_bind (wpAny_pure (wpAny_pure ⟨.none,rfl,wpAny_pure (h _ _ hfin (Heap.SameBut.update ..))⟩))
  | exact wpAny_pure ⟨.none,rfl,wpAny_pure (h _ _ hfin (Heap.SameBut.update ..))⟩
theorem callWith_star {f:Value}{first:List Value}{Q:Value→Shared→Prop}{Pr:Heap→Prop}(hk:∀ h,Pr h→∃ k,(k=Keeper.frame∨k=Keeper.machine∨k=Keeper.boundFrame)∧Looks (model prog w) h (keeperOf f) k)
  (h:wpAny (model prog w) A (eval e env) (fun v s₁=>StarOf (model prog w) A E v (fun vs s₂=>Pr s₂.heap∧wpAny (model prog w) A (call f (first++vs)) Q E s₂) s₁) E s) (he:starEach [.Starred e spos] env=[(true,eval e env)]):wpAny (model prog w) A (callWith pos f first (backTo pos (starEach [.Starred e spos] env)) []) Q E s :=
 he▸ks_call rfl hk (ks_lone h)
theorem star_tup {c:Addr}{Q:List Value→Shared→Prop}(D:s.heap.get? c=some (tupO vs k)) (hz:vs.length≤sizeLine) (h:∀ h',(∀ b o,s.heap.get? b=some o→h'.get? b=some o)→Q vs { s with heap:=h' }):StarOf (model prog w) A E (.ref c) Q s :=
 wpAny_bind (wpAny_specialOf (T := "tuple") ⟨_,D,rfl⟩ PySem.F.slot_tuple_iter.lookup (wpAny_pure ⟨rfl,wpAny_collect_seq c (.inr rfl) D rfl rfl (fun h' hk=>h h' hk) hz⟩))
theorem wpAny_MethodStar {M:Model}{E:Value→Shared→Prop}{o:Expr}{name:Str}{args:List Expr}{Q:Value→Shared→Prop}(hb:∀ env,attributeBase o name env (eval o env)=eval o env)
  (h:wpAny M A (eval o env) (fun ov s₁=>wpAny M A (getAttr ov name true) (fun f s₂=>wpAny M A (callWith pos f [] (backTo pos (starEach args env)) []) Q E s₂) E s₁) E s) (he:methodCallForm (args.length+0) (backTo pos (starEach args env)) []=false) :
  wpAny M A (eval (.Call (.Attribute o name apos) args [] pos) env) Q E s:=by
 rw [arm_eval_Call,hb env]
 refine wpAny_bind (wpAny_mono h (fun ov s₁ h₁=>wpAny_bind (wpAny_standAt ?_)) fun _ _ x=>x)
 show wpAny M A (holding [ov] (calleeOf (methodCallForm (args.length+0) (backTo pos (starEach args env)) []) o env ov name) >>= fun p=>methodCallPos (methodCallForm (args.length+0) (backTo pos (starEach args env)) []) o env apos pos >>= fun c=>callWith c p.1 p.2 (backTo pos (starEach args env)) []) Q E s₁
 rw [he]
 exact wpAny_bind (wpAny_holding (wpAny_bind (wpAny_mono h₁ (fun f s₂ h₂=>wpAny_pure (wpAny_bind (wpAny_pure h₂:wpAny M A (pure pos) _ E s₂))) fun _ _ x=>x)))
theorem ev_pushStar (B:FmtFns prog w K g T a b) (hU:∀ x,q.U x→g.get? x=none) (hs:σ.lookup (Str.ofString "self")=some (.val (.adr q.m))) (hx:σ.lookup x=some (.val (chD pr))) (hz:ps.length≤900) :
  EvU prog w g T (n+1) sc (pgW b.CV a.CA q p) (ls,ps,i) σ (.Call (.Attribute (.Attribute (.Name "self" p0) "_current_line" p1) "push" p2) [.Starred (.Name x p3) p4] [] pos) .none (ls,ps++[pr],i):=fun A s ow env he rm Z=>by
 have ok:=pgW_ok (CV:=b.CV) (CA:=a.CA) (p:=p) hU
 refine wpAny_MethodStar (fun _=>rfl) (wp_to (EvU.gnd ok (ev_cur B hs) A s ow env he rm Z) fun ov s₁ h₁=>?_) rfl
 cases h₁ with | mk m₁ r₁ w₁ =>
 cases r₁.i1
 have Z₁:=Z.out ok m₁ w₁
 have Xs:=in_up B.A.X Z₁.F.gk.keep
 cases Z₁.w.acc with | mk qs k kd hs' tk t ep ac =>
 refine lget_bind (g:=.builtin "function.__get__") (a:=.ref a.psh) Xs (acc_inst ac.o ac.d) B.A.L.ga B.A.L.gx (acc_isl B.A.L.toLCls Xs ac.o) ?_ (wpAny_call (fn_get (s:={ s₁ with toks:=s₁.toks+1 }) Xs (beq_iff_eq.mp B.A.psh.isf) ?_))
 ·exact findObj_fn B.A.L.hd B.A.psh.find B.A.pshG B.A.pshT (by decide) rfl
 ·refine (wpAny_of_eq (handedOut_of (v:=.ref s₁.heap.objs.size) rfl) ?_:wpAny (model prog w) A (handedOut (.ref s₁.heap.objs.size)) _ NoE _)
  have x₁:Ext g T s₁ { s₁ with toks:=s₁.toks+1,heap:=s₁.heap.push (methodObj (.ref a.psh) (.ref q.c)) }:=Ext.trans (s':={ s₁ with toks:=s₁.toks+1 }) (.tok _) (.push _)
  have hq:(s₁.heap.push (methodObj (.ref a.psh) (.ref q.c))).get? s₁.heap.objs.size=some (methodObj (.ref a.psh) (.ref q.c)):=Heap.get?_push_size _ rfl
  have Z₂:=Z₁.ext ok x₁
  refine callWith_star (Pr:=MethP K s₁.heap.objs.size a.psh (.ref q.c)) (fun h=>keeps_M B.A.psh.fni h) ?_ rfl
  cases Z₂.F.ec.vars x _ hx with | mk v l r =>
  cases VD.i7 r with | mk na e r₂ =>
  cases r₂.pair with | mk t1 t2 =>
  refine wp_load Z₂.F.ec.kind l (star_tup e (show (2:Nat)≤sizeLine by decide) fun h' hk=>?_)
  have x₂:Ext g T s₁ { s₁ with toks:=s₁.toks+1,heap:=h' }:=x₁.trans (.of h' (s₁.toks+1) hk)
  have Z₃:=Z₁.ext ok x₂
  refine ⟨⟨hk _ _ hq,in_up B.A.X Z₃.F.gk.keep⟩,wpAny_call (method_call (hk _ _ hq) ?_)⟩
  have l:=Z₃.lists Z₃.w.avl
  refine codeAny_mono (code_of (W:=accW a.CA (ow.adr++[q.l]) q.c q.dx) B.A.psh (accW_ok (hU _ (.inr (.inl rfl))) (hU _ (.inr (.inr rfl)))) rfl (body_push (q:=pr) B.A.L.toLCls B.A.X (hU _ (.inr (.inl rfl))) (hU _ (.inr (.inr rfl))) hz) rm Z₃.F.gk ⟨Z₃.w.acc,l⟩ l.ok (.cons (.adr _) (.cons (.str _ t1) (.cons (.str _ t2) .nil)))) fun r s₄ h₄=>?_
  rcases r with e | (v | _ | _ | _) <;> first | exact h₄.elim | skip
  cases h₄ with | mk m₄ r₄ w₄=>exact ⟨m₁.trans (Mv.trans x₂.mv m₄ fun b hb=>.inl (.inr hb)) fun b hb=>.inl hb,r₄,Z₃.w.accMv Z₃.F.gk m₄ w₄.1⟩
end
end
section
section
variable {prog:Program}{w:World}{g g':Heap}{T:Tabs}{K:Frag}{n:Nat}{q:Pg}{p:PgP}{st:Pst}{ls:List Str}{ps:List (Str×Str)}{i:Int}{σ:Sto}{sc:Scope}{a:AccF}{b:FmtF}{p0 p1 p2 p3 p4 p5 pos apos cpos:Pos}{kk:Nat}{e:Expr}{A:Around}{s s₁:Shared}{env:Env}{x y:Str}{ow:Ow}
theorem strs_snoc (ts:List (Str×Tok)) (x:Str) (t:Tok):strValues ts++[Value.str x t]=strValues (ts++[(x,t)]):=by unfold strValues; rw [List.map_append]; rfl
theorem rows_out {h':Heap}{ts ts':List (Str×Tok)}{kl kl':Nat}{d:D}{v:Value}{av:List Addr}(hU:∀ x,q.U x→g.get? x=none) (m:Mv g T (pgW b.CV a.CA q p).U s s₁) (P:PageAt b.CV a.CA s₁.heap q p st) (o:s₁.heap.get? q.l=some (lstO (strValues ts) kl)) (hs:Heap.SameBut q.l s₁.heap h') (e:h'.get? q.l=some (lstO (strValues ts') kl')) (r:VD av h' v d) :
  OutU (pgW b.CV a.CA q p) g T av s d (ts'.map (·.1),st.2) v { s₁ with heap:=h' } :=
 ⟨m.trans (Mv.one (tk:=s₁.toks) hs o (lst_data _ _) (hU _ (.inl rfl)) (.inl rfl:(pgW b.CV a.CA q p).U q.l)) fun _ hb=>.inl hb,r,P.rows hs e⟩
theorem ev_linApp (B:FmtFns prog w K g T a b) (hU:∀ x,q.U x→g.get? x=none) (hs:σ.lookup (Str.ofString "self")=some (.val (.adr q.m))) (hln:(apos.endLine==cpos.line)=true) (hst:∀ env,starEach [e] env=[(false,eval e env)]) (he:Over g (pgW b.CV a.CA q p) (ls,ps,i) fun g'=>Ev prog w g' T n sc σ e (.str x)) (hl:ls.length≤1000) :
  EvU prog w g T n sc (pgW b.CV a.CA q p) (ls,ps,i) σ (.Call (.Attribute (.Attribute (.Name "self" p0) "_lines" p1) "append" apos) [e] [] cpos) .none (ls++[x],ps,i):=fun A s ow env hev rm Z=>by
 have ok:=pgW_ok (CV:=b.CV) (CA:=a.CA) (p:=p) hU
 refine wpAny_Call_method_late rfl (by rw [hst]; rfl) hln rfl (wp_to (EvU.gnd ok (fun g' up P=>Ev.pg B up P (fun _=>rfl) (Ev.name hs) .ln) A s ow env hev rm Z) fun ov s₁ h₁=>?_)
 cases h₁ with | mk m₁ r₁ w₁ =>
 cases r₁.i1
 have Z₁:=Z.out ok m₁ w₁
 have k:∃ vs kl,s₁.heap.get? q.l=some (lstO vs kl):=w₁.avl _ (.head _)
 obtain ⟨_,_,e1⟩:=k
 refine ⟨"list", "list.append",PySem.F.plainAttrs_list,PySem.F.slot_list_append,PySem.F.type_list_append,⟨_,e1,rfl⟩,fun b hb=>by cases hb; exact ⟨_,e1,rfl⟩,?_⟩
 refine callWith_method1 (wp_to ((EvL.more hst (FmW.over ok Z₁.F.gk Z₁.w he) EvL.nil).run A s₁ _ env cpos hev rm (Z₁.F.gk.core .refl) Z₁.F.ec) fun us s₂ h₂=>?_) (hst _) rfl
 have x₂:=h₂.1.base (g:=g) (Z₁.F.gk.core .refl)
 have Z₂:=Z₁.ext ok x₂
 cases h₂.2.one1 with | mk r =>
 obtain ⟨t,rfl⟩:=r.i5
 cases (show PageAt b.CV a.CA s₂.heap q p (ls,ps,i) from Z₂.w) with | mk es kd ts kl H l el ac =>
 have hz:(strValues ts).length≤1000:=by rw [strValues,List.length_map, ← List.length_map (f:=(·.1)),el]; exact hl
 refine wpAny_list_append_plain ⟨kl,l⟩ (fun h' hp hs'=>?_) (by rw [List.size_toArray]; exact Nat.le_trans hz (by decide))
 obtain ⟨k',e6⟩:=hp
 have e7:h'.get? q.l=some (lstO (strValues (ts++[(x,t)])) k'):=by rw [← strs_snoc]; simpa [List.push_toArray] using e6
 have o:=rows_out (T:=T) (s:=s) (d:=.none) (v:=.none) (av:=ow.adr++[q.l]) hU (m₁.trans x₂.mv fun _ f=>.inl f) Z₂.w l hs' e7 .none
 rw [List.map_append,el] at o
 exact o
theorem sx_linAdd (B:FmtFns prog w K g T a b) (hU:∀ x,q.U x→g.get? x=none) (hs:σ.lookup (Str.ofString "self")=some (.val (.adr q.m))) (he:Over g (pgW b.CV a.CA q p) (ls++[y],ps,i) fun g'=>Ev prog w g' T n sc σ e (.str x)) (hl:ls.length≤1000) (hx:y.length+x.length≤6000000) :
  SxU prog w g T n sc (pgW b.CV a.CA q p) (ls++[y],ps,i) σ (.AugAssign (.Subscript (.Attribute (.Name "self" p0) "_lines" p1) (.UnaryOp .USub (.Constant (.int 1) kk p4) p5) p2) .Add e pos) (.next σ) (ls++[y++x],ps,i):=fun A s ow env hev hoc rm Z=>by
 have ok:=pgW_ok (CV:=b.CV) (CA:=a.CA) (p:=p) hU
 refine wpAny_AugAssign_SubscriptAny (wp_to (EvU.gnd ok (fun g' up P=>Ev.pg B up P (fun _=>rfl) (Ev.name hs) .ln) A s ow env hev rm Z) fun ov s₁ h₁=>?_)
 cases h₁ with | mk m₁ r₁ w₁ =>
 cases r₁.i1
 have Z₁:=Z.out ok m₁ w₁
 refine wp_to ((Ev.neg Ev.int:Ev prog w g T n sc σ _ (.int (-1))) A _ _ env hev rm Z₁.F.gk Z₁.F.ec) fun v s₂ h₂=>?_
 obtain ⟨_,rfl⟩:=h₂.2.i4
 have Z₂:=Z₁.ext ok h₂.1
 cases (show PageAt b.CV a.CA s₂.heap q p (ls++[y],ps,i) from Z₂.w) with | mk es kd ts kl H l el ac =>
 rcases List.eq_nil_or_concat ts with rfl | ⟨ts,⟨y',t'⟩,rfl⟩
 ·exact nomatch (congrArg List.length el).trans List.length_append
 rw [List.concat_eq_append] at l el
 rw [List.map_append] at el
 have e2:=List.append_inj' el rfl
 have ey:y=y':=(List.head_eq_of_cons_eq e2.2).symm
 subst ey
 rw [← strs_snoc] at l
 have hlt:(strValues ts).length≤1000:=by rw [strValues,List.length_map, ← List.length_map (f:=(·.1)),e2.1]; exact hl
 have hsz:(strValues ts++[Value.str y t']).toArray.size=(strValues ts).length+1:=by rw [List.size_toArray,List.length_append]; rfl
 refine wpAny_getItem_list_neg (x:=.str y t') ⟨_,l,rfl,kl,rfl⟩ (by decide) (by rw [hsz]; lia) (by decide) (by
  rw [hsz,show ((-1:Int)+(((strValues ts).length+1:Nat):Int)).toNat=(strValues ts).length by lia,List.getElem?_toArray]; exact List.getElem?_concat_length) ?_
 refine wp_to (FmW.over ok Z₂.F.gk Z₂.w he A s₂ _ env hev rm (Z₂.F.gk.core .refl) Z₂.F.ec) fun v s₃ h₃=>?_
 obtain ⟨t,rfl⟩:=h₃.2.i5
 have x₃:=h₃.1.base (g:=g) (Z₂.F.gk.core .refl)
 refine iadd_str (fun t₄ k₄=>?_) (show _≤sizeLine from Nat.le_trans hx (by decide))
 have x:=(h₂.1.trans x₃).trans (.tok k₄)
 have Z₄:=Z₁.ext ok x
 have l₄:=(x₃.trans (.tok k₄)).get' Z₂.F.gk l (nt_lst _ _)
 refine wp_setLast l₄ fun h' n' e5 hs'=>?_
 rw [strs_snoc] at l₄ e5
 have o:=rows_out (T:=T) (s:=s) (d:=.none) (v:=.none) (av:=[]) hU (m₁.trans x.mv fun _ f=>.inl f) Z₄.w l₄ hs' e5 .none
 rw [List.map_append,e2.1] at o
 exact o.next ok Z
end
end
section
noncomputable def popped (ps:List (Str×Str)):List (Str×Str):=if (lastP ps != (sp1,es0))=true then ps.dropLast++[lastP ps] else ps.dropLast
noncomputable def addLine (ls:List Str) (x:Str) (j:Bool):List Str:=if (j && !ls.isEmpty)=true then ls.dropLast++[ls.getLast?.getD es0++x] else ls++[x]
noncomputable def nlF (ls:List Str) (ps:List (Str×Str)) (i:Int):List Str:=if decide (accLen (popped ps) i>0)=true then addLine ls (accText (popped ps)) (isOnly (popped ps) i) else ls
theorem lastP_mem {ps:List (Str×Str)}:lastP ps=(es0,es0)∨lastP ps∈ps:=by
 unfold lastP
 cases h:ps.getLast? with
 | none=>exact .inl rfl
 | some x=>exact .inr (List.mem_of_getLast? h)
theorem popped_mem {ps:List (Str×Str)}:∀ x∈popped ps,x=(es0,es0)∨x∈ps:=fun x hx=>by
 have h0:x∈ps.dropLast→x∈ps:=fun h=>(List.dropLast_sublist ps).subset h
 unfold popped at hx
 by_cases c:(lastP ps != (sp1,es0))=true
 ·rw [if_pos c] at hx
  exact (List.mem_append.mp hx).elim (fun h=>.inr (h0 h)) fun h=>List.mem_singleton.mp h▸lastP_mem
 ·rw [if_neg c] at hx; exact .inr (h0 hx)
theorem popped_len (ps:List (Str×Str)):(popped ps).length≤ps.length+1:=by
 have h:ps.dropLast.length≤ps.length:=(List.dropLast_sublist ps).length_le
 unfold popped
 by_cases c:(lastP ps != (sp1,es0))=true
 ·rw [if_pos c,List.length_append]; exact Nat.succ_le_succ h
 ·rw [if_neg c]; exact Nat.le_succ_of_le h
theorem Small.sp {st:Pst}(h:Small st):SmallP st.2.1:=⟨Nat.le_trans h.n (by decide),h.p⟩
theorem Small.pop {st:Pst}(h:Small st):SmallP (popped st.2.1) :=
 ⟨Nat.le_trans (popped_len _) (Nat.le_trans (Nat.succ_le_succ h.n) (by decide)),fun x hx=>(popped_mem x hx).elim (fun e=>e▸by decide) (h.p x)⟩
theorem eqv_pair (a b:Str×Str):(PyData.tuple [.str a.1,.str a.2]).eqv (.tuple [.str b.1,.str b.2])=(a==b):=by
 show (a.1==b.1&&(a.2==b.2&&true))=(a.1==b.1&&a.2==b.2)
 rw [Bool.and_true]
section
variable {prog:Program}{w:World}{g g':Heap}{T:Tabs}{K:Frag}{n:Nat}{q:Pg}{p:PgP}{st:Pst}{ls:List Str}{ps:List (Str×Str)}{i:Int}{σ:Sto}{a:AccF}{b:FmtF}
theorem dp_pair {x:Str×Str}(h:PyData.strOk x.1=true∧PyData.strOk x.2=true):Dp 9 (chD x) (.tuple [.str x.1,.str x.2]):=.tup (.cons (.str h.1) (.cons (.str h.2) .nil))
noncomputable abbrev nlB:List Stmt:=bodyOf (meth1 "_ValueFormatter" "newline")
noncomputable abbrev nlSc:Scope:=scopeOf (meth1 "_ValueFormatter" "newline")
variable (B:FmtFns prog w K g T a b) (hU:∀ x,q.U x→g.get? x=none)
include B hU
theorem acc_hc:g.get? q.c=none:=hU _ (.inr (.inl rfl))
theorem acc_hd:g.get? q.dx=none:=hU _ (.inr (.inr rfl))
theorem ev_linesT {p0 p1:Pos}{sc:Scope}(hs:σ.lookup (Str.ofString "self")=some (.val (.adr q.m))) (hl:ls.length≤1000):Over g (pgW b.CV a.CA q p) (ls,ps,i) fun g'=>EvT prog w g' T n sc σ (.Attribute (.Name "self" p0) "_lines" p1) (!ls.isEmpty):=fun g' up P A s av env he rm hg hc =>
 wpAny_isTrue_value (wp_to (Ev.pg B up P (fun _=>rfl) (Ev.name hs) .ln A s av env he rm hg hc) fun v s₁ h₁=>by
  cases h₁.2.i1
  cases (show PageAt b.CV a.CA g' q p (ls,ps,i) from P) with | mk es kd ts kl H l el ac =>
  have hz:ts.length=ls.length:=(List.length_map ..).symm.trans (congrArg List.length el)
  refine wpAny_truthy_list ⟨_,(h₁.1.gk hg).keep _ _ l,rfl,kl,rfl⟩ (by rw [List.size_toArray,strValues,List.length_map,hz]; exact Int.lt_of_le_of_lt (Int.ofNat_le.mpr hl) (by decide)) ⟨?_,h₁.1.trans (.tok _)⟩
  have el:ts.map (·.1)=ls:=el
  rw [← el]
  cases ts <;> rfl) rfl
theorem nl_write (hs:σ.lookup (Str.ofString "self")=some (.val (.adr q.m))) (hf:(froz σ).lookup (Str.ofString "self")=some (.val (.adr q.m))) (hz:SmallP ps) (hi:0≤i∧i≤1000) (hl:ls.length≤900) (hm:∀ x∈ls,x.length≤4000000) :
  SxU prog w g T (n+6) nlSc (pgW b.CV a.CA q p) (ls,ps,i) σ (nth nlB 2) (.next σ) (if decide (accLen ps i>0)=true then addLine ls (accText ps) (isOnly ps i) else ls,ps,i):=by
 have ok:=pgW_ok (CV:=b.CV) (CA:=a.CA) (p:=p) hU
 refine SxU.ite ok (fun g' up P=>EvT.cmp ((ev_lenCur (n:=n+2) B hf rfl hz hi) g' up P) Ev.int rfl cmp_gt) ?_
 by_cases h0:decide (accLen ps i>0)=true
 ·rw [h0]
  have only:Over g (pgW b.CV a.CA q p) (ls,ps,i) fun g'=>EvT prog w g' T (n+6) nlSc (froz σ) (stP (nth (stP (nth nlB 2)).body 0)).test (isOnly ps i&&(!ls.isEmpty&&true)):=fun g' up P =>
   EvT.bool (EvA.and_cons (EvT.val ((ev_own B hf B.A.ows (by decide) (cl_ows (n:=n) B.A hz hi) flat_bool (fun _=>⟨_,rfl⟩) (fun _=>rfl) hU) g' up P) (fun _ _=>rfl) tru_bool) fun _=>EvA.and_cons (ev_linesT B hU hf (Nat.le_trans hl (by decide:900≤1000)) g' up P) fun _=>EvA.and_nil)
  rw [Bool.and_true] at only
  refine SxUL.cons ok (SxU.ite ok only ?_) SxUL.nil
  unfold addLine
  by_cases c:(isOnly ps i && !ls.isEmpty)=true
  ·rw [c]
   rcases List.eq_nil_or_concat ls with rfl | ⟨ls,y,rfl⟩
   ·exact nomatch (Bool.and_eq_true_iff.mp c).2
   rw [List.concat_eq_append] at hl hm ⊢
   have e:(ls++[y]).dropLast++[(ls++[y]).getLast?.getD es0++accText ps]=ls++[y++accText ps]:=by rw [List.dropLast_concat,List.getLast?_concat]; rfl
   exact e▸SxUL.cons ok (sx_linAdd B hU hs ((ev_strCur (n:=n+1) B hs rfl hz hi)) (Nat.le_trans (Nat.le_add_right ..) (Nat.le_trans (List.length_append▸hl) (by decide))) (Nat.le_trans (Nat.add_le_add (hm y (List.mem_append_right _ (.head _))) hz.textLen) (by decide))) SxUL.nil
  ·rw [Bool.not_eq_true] at c
   rw [c]
   exact SxUL.cons ok (SxU.expr ok (ev_linApp B hU hs rfl (fun _=>rfl) (ev_strCur (n:=n+1) B hs rfl hz hi) (Nat.le_trans hl (by decide))) (fun _ _ _=>rfl)) SxUL.nil
 ·rw [Bool.not_eq_true] at h0; rw [h0]; exact SxUL.nil
theorem cl_newline (hz:Small (ls,ps,i)):ClU prog w g T (n+7) b.nwl (pgW b.CV a.CA q p) (ls,ps,i) [.adr q.m] .none (nlF ls ps i,[],0):=by
 have ok:=pgW_ok (CV:=b.CV) (CA:=a.CA) (p:=p) hU
 have hn:ps.length≤900:=Nat.le_trans hz.n (by decide)
 have hp:=hz.pop
 refine ClU.of (R:=.next _) B.nwl ok rfl (SxUL.cons ok (SxU.assign (d:=chD (lastP ps)) ok (ev_call0 B rfl hU B.A.pop (by decide) (fun av=>cl_pop (n:=n+4) B.A.S B.A.popP B.A.L B.A.X (acc_hc B hU) (acc_hd B hU) B.A.pop B.A.popA B.A.pcn (fun ps=>cl_pcount (n:=n+4) B.A.S B.A.pcnP B.A.L B.A.X B.A.pcn B.A.lenA) hn) (fun _=>⟨_,rfl⟩) (fun _=>rfl)) (fun _ _ _=>rfl) rfl)
  (SxUL.cons (σ₁:=(Str.ofString "end_of_line",.val (chD (lastP ps)))::params ["self"] [.adr q.m]) (j:=(ls,popped ps,i)) ok ?_ (SxUL.cons ok (nl_write B hU rfl rfl hp hz.i hz.l hz.m) (SxUL.cons ok (SxU.expr ok (ev_call0 B rfl hU B.A.rst (by decide) (fun av=>cl_reset0 (n:=n+4) B.A.L.toLCls B.A.X (acc_hc B hU) (acc_hd B hU) hp.n B.A.Y B.A.rs0 B.A.rst) (fun _=>⟨_,rfl⟩) (fun _=>rfl)) (fun _ _ _=>rfl)) SxUL.nil))))
 refine SxU.ite (b:=lastP ps != (sp1,es0)) ok (fun g' up P=>?_) ?_
 ·rw [show (lastP ps != (sp1,es0)) = !(lastP ps==(sp1,es0)) from rfl, ← eqv_pair]
  exact EvT.cmp (Ev.name rfl) (Ev.tup (EvL.more (fun _=>rfl) Ev.str (EvL.more (fun _=>rfl) Ev.str EvL.nil)) (show (2:Nat)≤lim by decide)) rfl (cmp_neD (dp_pair (lastP_mem.elim (fun e=>e▸⟨by decide +kernel,by decide +kernel⟩) (hz.o _))) (dp_pair (x:=(sp1,es0)) ⟨by decide +kernel,by decide +kernel⟩))
 ·unfold popped
  by_cases c:(lastP ps != (sp1,es0))=true
  ·rw [c]
   exact SxUL.cons ok (SxU.expr ok (ev_pushStar (n:=n+5) B hU rfl rfl (Nat.le_trans (List.dropLast_sublist ps).length_le hn)) (fun _ _ _=>rfl)) SxUL.nil
  ·rw [Bool.not_eq_true] at c; rw [c]; exact SxUL.nil
end
end
section
section
variable {prog:Program}{w:World}{g g':Heap}{T:Tabs}{K:Frag}{n:Nat}{q:Pg}{p:PgP}{st:Pst}{ls:List Str}{ps:List (Str×Str)}{i:Int}{σ:Sto}{sc:Scope}{a:AccF}{b:FmtF}{p0 p1 p2 pos apos:Pos}{x sep:Str}
variable (B:FmtFns prog w K g T a b)
include B
theorem ev_joinLines (hs:σ.lookup (Str.ofString "self")=some (.val (.adr q.m))) (hx:σ.lookup x=some (.val (.str sep))) (hln:(apos.endLine==pos.line)=true) (h1:sumLen sep ls≤lim) (h2:(Str.join sep ls).length≤lim) :
  Over g (pgW b.CV a.CA q p) (ls,ps,i) fun g'=>Ev prog w g' T n sc σ (.Call (.Attribute (.Name x p0) "join" apos) [.Attribute (.Name "self" p1) "_lines" p2] [] pos) (.str (Str.join sep ls)):=fun g' up P A s av env he rm hg hc =>
 wpAny_Call_method_late rfl rfl hln rfl (wp_to (Ev.name hx A s av env he rm hg hc) fun ov s₁ h₁=>by
  obtain ⟨t,rfl⟩:=h₁.2.i5
  have g₁:=h₁.1.gk hg
  refine ⟨"str", "str.join",PySem.F.plainAttrs_str,PySem.F.slot_str_join,PySem.F.type_str_join,typeIs_str _ _ _,nofun,callWith_method1 (wp_to ((EvL.more (fun _=>rfl) (Ev.pg B up P (fun _=>rfl) (Ev.name hs) .ln) EvL.nil).run A s₁ av env pos he rm g₁ (hc.ext h₁.1 hg)) fun us s₂ h₂=>?_) rfl rfl⟩
  cases h₂.2.one1 with | mk r =>
  cases r.i1
  cases (show PageAt b.CV a.CA g' q p (ls,ps,i) from P) with | mk es kd ts kl H l el ac =>
  have el:ts.map (·.1)=ls:=el
  subst el
  exact wp_to (call_meets F.slot_str_join (typeIs_str _ _ _) F.entry_str_join (F.args_str_join_2 _ _) (meets_str_join_list sep t _ ts (decide_eq_false (by
   rw [List.foldl_toArray]
   exact Nat.not_lt.mpr (Nat.le_trans (Nat.le_trans h1 (Nat.le_add_left ..)) lim_le)))) ⟨⟨_,(h₂.1.gk g₁).keep _ _ l,rfl,_,rfl⟩,join_post h2⟩) fun v s₃ h₃=>⟨(h₁.1.trans h₂.1).trans h₃.1,h₃.2⟩)
variable (hU:∀ x,q.U x→g.get? x=none)
include hU
theorem ev_selfNl (hm:IsMeth (.Name "self" p0) "newline" apos [] pos) (hs:σ.lookup (Str.ofString "self")=some (.val (.adr q.m))) (hz:Small (ls,ps,i)):EvU prog w g T (n+7) sc (pgW b.CV a.CA q p) (ls,ps,i) σ (.Call (.Attribute (.Name "self" p0) "newline" apos) [] [] pos) .none (nlF ls ps i,[],0) :=
 .own0 (pgW_ok hU) B.A.X B.nwl.kee hm (fun _=>rfl) (fun _ _ _=>Ev.name hs) (finds_pg B B.nwl (by decide)) (.of (cl_newline B hU hz) flat_none)
theorem cl_pageStr (hz:Small (ls,ps,i)) (h1:sumLen sep (nlF ls ps i)≤lim) (h2:(Str.join sep (nlF ls ps i)).length≤lim):ClU prog w g T (n+8) b.sfn (pgW b.CV a.CA q p) (ls,ps,i) [.adr q.m,.str sep] (.str (Str.join sep (nlF ls ps i))) (nlF ls ps i,[],0):=by
 have ok:=pgW_ok (CV:=b.CV) (CA:=a.CA) (p:=p) hU
 exact ClU.of (R:=.ret _) B.sfn ok rfl (SxUL.cons ok (SxU.expr ok (ev_selfNl B hU (fun _=>⟨_,rfl⟩) rfl hz) (fun _ _ _=>rfl)) (SxUL.last (SxU.ret (EvU.gnd ok (ev_joinLines B rfl rfl rfl h1 h2)))))
end
end
section
noncomputable def isAt (x:Str) (k:Nat):Bool:=((x.length:Int) != 0)&&(x.cps[k]?.elim false fun c=>(⟨#[c]⟩:Str)==sp1)
noncomputable abbrev headIs (x:Str):Bool:=isAt x 0
noncomputable abbrev lastIs (x:Str):Bool:=isAt x (x.length - 1)
noncomputable abbrev pAt (ps:List (Str×Str)) (j:Nat):Str×Str:=ps.getD j (es0,es0)
noncomputable def cutF (ps:List (Str×Str)) (t:Nat):Option Nat:=t.rec none fun j ih=>if (headIs (pAt ps (j+1)).1||lastIs (pAt ps j).2)=true then some (j+1) else ih
theorem rngL_down (t:Nat):rngL ((t+1:Nat):Int) 0 (-1)=.int ((t+1:Nat):Int)::rngL (t:Int) 0 (-1):=by
 have e:∀ t:Nat,(Builtin.Range.rangeSize (t:Int) 0 (-1)).toNat=t:=fun t=>by simp [Builtin.Range.rangeSize]; try lia
 unfold rngL
 rw [e,e,List.range_succ_eq_map,List.map_cons,List.map_map]
 exact congr (congrArg List.cons (congrArg D.int (by lia))) (List.map_congr_left fun i _=>congrArg D.int (show _+((i+1:Nat):Int)*(-1)=_ by lia))
theorem seq_zero {m:Nat}(h:m≠0):seqIndex? 0 m=some 0:=by
 unfold seqIndex?
 exact if_pos (by simpa using Nat.pos_of_ne_zero h)
theorem seq_last {m:Nat}(h:m≠0):seqIndex? (-1) m=some (m - 1):=by
 cases m with
 | zero=>exact (h rfl).elim
 | succ k =>
  have e:(-1:Int)+((k+1:Nat):Int)=k:=by rw [Int.natCast_succ,Int.add_comm,Int.add_neg_cancel_right]
  show (if (decide (0≤(-1:Int)+((k+1:Nat):Int))&&decide ((-1:Int)+((k+1:Nat):Int)<((k+1:Nat):Int)))=true then some ((-1:Int)+((k+1:Nat):Int)).toNat else none)=_
  rw [e,decide_eq_true (Int.natCast_nonneg k),decide_eq_true (Int.ofNat_lt.mpr (Nat.lt_succ_self k))]
  rfl
noncomputable abbrev acB:List Stmt:=bodyOf (meth1 "_ValueFormatter" "_append_chunk")
noncomputable abbrev acSc:Scope:=scopeOf (meth1 "_ValueFormatter" "_append_chunk")
noncomputable abbrev acOut:Stmt:=nth (stP (nth acB 1)).body 0
noncomputable abbrev acIn:Stmt:=nth (stP acOut).body 0
noncomputable abbrev sgb (m:Addr):Sto:=[(Str.ofString "ch",.val (.str sp1)),(Str.ofString "self",.val (.adr m))]
noncomputable abbrev sgi (m:Addr) (j:Nat):Sto:=(Str.ofString "i",.val (.int (j:Int)))::sgb m
section
variable {prog:Program}{w:World}{g g':Heap}{T:Tabs}{K:Frag}{n:Nat}{q:Pg}{p:PgP}{ls:List Str}{ps:List (Str×Str)}{i:Int}{σ:Sto}{sc:Scope}{a:AccF}{b:FmtF}{x y:Str}{ie:Expr}{k:Nat}{p1 p2 p3 p4 p5 p6:Pos}{ki:Int}
theorem ev_sign (hy:σ.lookup y=some (.val (.str x))) (hc:σ.lookup (Str.ofString "ch")=some (.val (.str sp1))) (hz:x.length≤1000) (hi:Ev prog w g T (n+1) sc σ ie (.int ki)) (hn:NoSl ie) (hs:smallI ki=true) (hk:x.length≠0→seqIndex? ki x.length=some k) (hl:x.length≠0→k<x.length) :
  EvT prog w g T (n+1) sc σ (.BoolOp .And [.Name y p1,.Compare (.Subscript (.Name y p2) ie p3) [.Eq] [.Name "ch" p4] p5] p6) (isAt x k) :=
 .bool (EvA.and_cons (.val (Ev.name hy) (fun _ _=>rfl) (tru_str (Nat.le_trans hz (by decide)))) fun h=>by
  have h0:x.length≠0:=fun e=>by rw [e] at h; exact nomatch h
  have e:x.cps[k]?=some (x.cps[k]'(hl h0)):=Array.getElem?_eq_getElem (hl h0)
  rw [e, ← Bool.and_true (Option.elim ..)]
  exact EvA.and_cons (.cmp (Ev.item (Ev.name hy) hi hn (it_str hs ((congrArg (Option.bind · (x.cps[·]?)) (hk h0)).trans e))) (Ev.name hc) rfl cmp_eqS) fun _=>EvA.and_nil)
theorem Ev.cell {kk:Nat}{j:Nat}{c:Int}{d:D}(B:FmtFns prog w K g T a b) (up:∀ b o,g.get? b=some o→g'.get? b=some o) (P:PageAt b.CV a.CA g' q p (ls,ps,i)) (hs:σ.lookup (Str.ofString "self")=some (.val (.adr q.m))) (hi:Ev prog w g' T n sc σ ie (.int (j:Int))) (hn:NoSl ie) (hj:j<ps.length) (hz:ps.length≤1000)
  (e:ItemV prog w g' T (chD (pAt ps j)) c d) (hd:Flat d):Ev prog w g' T n sc σ (.Subscript (.Subscript (.Attribute (.Name "self" p1) "_current_line" p2) ie p3) (.Constant (.int c) kk p4) p5) d:=fun A s av env he rm hg hc =>
 Subscript_ (Subscript_ ((ev_cur B hs g' up P).two hi he rm hg hc fun o iv s₂ x av₂ ho hi'=>by
  cases ho.i1
  obtain ⟨t,rfl⟩:=hi'.i4
  have q₂:=x.gk hg
  have X:=in_up B.A.X fun b o e=>q₂.keep b o (up b o e)
  cases P.acc with | mk qs k kd hs tk t' ep a =>
  subst ep
  have hj':j<qs.length:=Nat.lt_of_lt_of_eq hj (List.length_map _)
  have ex:(qs.map Part.ref)[j]?=some qs[j].ref:=by rw [List.getElem?_map,List.getElem?_eq_getElem hj']; rfl
  have ed:pAt (qs.map Part.tx) j=qs[j].tx:=by rw [pAt,List.getD_eq_getElem?_getD,List.getElem?_map,List.getElem?_eq_getElem hj']; rfl
  have a₂:=q₂.keep _ _ a.o
  refine acc_tail B.A.L.toLCls X a₂ (acc_item B.A.L.toLCls X a₂ (Int.natCast_nonneg _) (Int.lt_of_le_of_lt (Int.ofNat_le.mpr (Nat.le_trans (Nat.le_of_lt hj) hz)) (by decide)) ex (wpAny_Constant_int ?_)) (hn _ _)
  have r:VD [] s₂.heap qs[j].ref (chD (pAt (qs.map Part.tx) j)):=ed▸qs[j].vd (q₂.keep _ _ (a.p _ (List.getElem_mem hj'))) nofun
  cases e.ok { s₂ with toks:=s₂.toks+1 } [] _ r with | mk Ty id hT hl=>exact tail_any hT hl (wp_to (e.run A { s₂ with toks:=s₂.toks+1 } [] _ _ r) fun _ _ h=>⟨(x.trans (.tok _)).trans h.1,hd _ _ _ h.2⟩) rfl))
section
variable (B:FmtFns prog w K g T a b) (hU:∀ x,q.U x→g.get? x=none)
include B hU
theorem ev_pcn (hs:σ.lookup (Str.ofString "self")=some (.val (.adr q.m))) (hz:SmallP ps) (hm:IsMeth (.Attribute (.Name "self" p1) "_current_line" p2) "part_count" p3 [] p4):Over g (pgW b.CV a.CA q p) (ls,ps,i) fun g'=>Ev prog w g' T (n+1) sc σ (.Call (.Attribute (.Attribute (.Name "self" p1) "_current_line" p2) "part_count" p3) [] [] p4) (.int (ps.length:Nat)) :=
 ev_own B hs B.A.pcn (by decide) (cl_pcount (n:=n) B.A.S B.A.pcnP B.A.L B.A.X B.A.pcn B.A.lenA) flat_int hm (fun _=>rfl) hU
theorem cut_body {j:Nat}(hz:SmallP ps) (hj:j+1<ps.length):Over g (pgW b.CV a.CA q p) (ls,ps,i) fun g' =>
  SxL prog w g' T (n+4) acSc (sgi q.m (j+1)) (stP acIn).body (if (headIs (pAt ps (j+1)).1||lastIs (pAt ps j).2)=true then .brk (sgi q.m (j+1)) else .next (sgb q.m)):=fun g' up P=>by
 have hn:ps.length≤1000:=Nat.le_trans hz.n (by decide)
 have hp:∀ {k},k<ps.length→pAt ps k∈ps:=fun {k} h=>by rw [pAt,List.getD_eq_getElem?_getD,List.getElem?_eq_getElem h]; exact List.getElem_mem h
 have h1:=(hz.p _ (hp hj)).1
 have h2:=(hz.p _ (hp (Nat.lt_of_succ_lt hj))).2
 have spc:EvT prog w g' T (n+4) acSc (froz (sgi q.m (j+1))) (stP (nth (stP acIn).body 0)).test true:=.val (Ev.meth0 (fun _=>rfl) rfl (Ev.name rfl) ((by decide +kernel:Txt.isspace sp1=true)▸mt_isspace)) (fun _ _=>rfl) tru_bool
 have c0:Sx prog w g' T (n+4) acSc (sgi q.m (j+1)) (nth (stP (nth (stP acIn).body 0)).body 0) (.next ((Str.ofString "fws",.val (.str (pAt ps (j+1)).1))::sgi q.m (j+1))):=.assign (Ev.cell B up P rfl (Ev.name rfl) (fun _ _=>rfl) hj hn (it_tup (k:=0) rfl rfl rfl) flat_str) (fun _ _ _=>rfl) rfl
 have hd:∀ {x:Str},x.length≤1000→EvT prog w g' T (n+4) acSc (froz ((Str.ofString "fws",.val (.str x))::sgi q.m (j+1))) (stP (nth (stP (nth (stP acIn).body 0)).body 1)).test (headIs x):=fun {x} h=>ev_sign rfl rfl h Ev.int (fun _ _=>rfl) rfl seq_zero (fun h=>Nat.pos_of_ne_zero h)
 cases hh:headIs (pAt ps (j+1)).1 with
 | true=>refine SxL.post (R:=.brk _) (SxL.one (.ite spc (SxL.cons c0 (SxL.one (.ite (hh▸hd h1) (SxL.one .brk nofun)) nofun))) nofun) ?_; exact .brk (.cons rfl (.cons rfl (.cons rfl .nil)))
 | false =>
  refine SxL.cons (.ite spc (SxL.cons c0 (SxL.cons (.ite (hh▸hd h1) SxL.nil) SxL.nil))) (SxL.cons (.assign (Ev.cell (j:=j) B up P rfl (Ev.bin (Ev.name rfl) Ev.int ((by lia:((j+1:Nat):Int) - 1=(j:Int))▸bin_sub)) (fun _ _=>rfl) (Nat.lt_of_succ_lt hj) hn (it_tup (k:=1) rfl rfl rfl) flat_str) (fun _ _ _=>rfl) rfl) ?_)
  have ls:EvT prog w g' T (n+4) acSc _ (stP (nth (stP acIn).body 2)).test (lastIs (pAt ps j).2):=ev_sign (σ:=froz ((Str.ofString "prevpart",.val (.str (pAt ps j).2))::(Str.ofString "fws",.val (.str (pAt ps (j+1)).1))::sgi q.m (j+1))) rfl rfl h2 (Ev.neg Ev.int) (fun _ _=>rfl) rfl seq_last (fun h=>Nat.sub_lt (Nat.pos_of_ne_zero h) (by decide))
  cases hl:lastIs (pAt ps j).2 with
  | true=>refine SxL.post (R:=.brk _) (SxL.one (.ite (hl▸ls) (SxL.one .brk nofun)) nofun) ?_; exact .brk (.cons rfl (.cons rfl (.cons rfl .nil)))
  | false=>refine SxL.post (SxL.cons (.ite (hl▸ls) SxL.nil) SxL.nil) ?_; exact .next (.cons rfl (.cons rfl .nil))
noncomputable abbrev cutN (m:Addr) (o:Option Nat) (σ:Sto):Prop:=o.rec (σ=sgb m) fun _=>False
noncomputable abbrev cutB (m:Addr) (o:Option Nat) (σ:Sto):Prop:=o.rec False fun j=>σ=sgi m j
theorem cut_loop (hz:SmallP ps) {g':Heap}(up:∀ b o,g.get? b=some o→g'.get? b=some o) (P:PageAt b.CV a.CA g' q p (ls,ps,i)) (t:Nat):t<ps.length →
  ForG prog w g' T (n+4) acSc (stP acIn).test (stP acIn).body (cutN q.m (cutF ps t)) (cutB q.m (cutF ps t)) (fun _=>False) (rngL (t:Int) 0 (-1)) (sgb q.m):=by
 induction t with
 | zero=>exact fun _=>⟨_,rfl,.refl⟩
 | succ t ih =>
  intro h
  have body:=cut_body (n:=n) B hU hz h g' up P
  rw [rngL_down]
  show ForG prog w g' T (n+4) acSc _ _ (cutN q.m (if _ then _ else cutF ps t)) (cutB q.m (if _ then _ else cutF ps t)) _ (_::_) _
  by_cases c:(headIs (pAt ps (t+1)).1||lastIs (pAt ps t).2)=true
  ·rw [if_pos c] at body ⊢
   exact ⟨_,_,.name,stAll_of rfl,body,rfl⟩
  ·rw [if_neg c] at body ⊢
   exact ⟨_,_,.name,stAll_of rfl,body,ih (Nat.lt_of_succ_lt h)⟩
end
end
end
section
noncomputable def fwsOr (x:Str):Str:=if ((x.length:Int) != 0)=true then x else sp1
noncomputable def acElse (st:Pst) (pr:Str×Str):Pst:=if decide (st.2.2>0)=true then (nlF st.1 st.2.1 st.2.2,[(fwsOr pr.1,pr.2)],0) else (st.1,st.2.1++[pr],st.2.2)
noncomputable def acF (mx:Int) (st:Pst) (pr:Str×Str):Pst :=
 if decide (accLen (st.2.1++[pr]) st.2.2>mx)=true then (cutF (st.2.1++[pr]) st.2.1.length).elim (acElse st pr) fun j=>(st.1++[accText ((st.2.1++[pr]).take j)],(st.2.1++[pr]).drop j,0) else (st.1,st.2.1++[pr],st.2.2)
theorem cutF_le (ps:List (Str×Str)) (t j:Nat):cutF ps t=some j→j≤t:=by
 induction t with
 | zero=>exact nofun
 | succ t ih =>
  intro h
  by_cases c:(headIs (pAt ps (t+1)).1||lastIs (pAt ps t).2)=true
  ·exact Nat.le_of_eq (Option.some.inj ((show cutF ps (t+1)=_ from if_pos c).symm.trans h)).symm
  ·exact Nat.le_succ_of_le (ih ((show cutF ps (t+1)=_ from if_neg c).symm.trans h))
theorem chars_sp1:chars sp1=[.str sp1]:=by kernel_rfl
section
variable {prog:Program}{w:World}{g:Heap}{T:Tabs}{K:Frag}{n:Nat}{q:Pg}{p:PgP}{ls:List Str}{ps:List (Str×Str)}{pr:Str×Str}{i:Int}{σ:Sto}{sc:Scope}{a:AccF}{b:FmtF}{j:Nat}
noncomputable abbrev σac (m:Addr) (pr:Str×Str):Sto:=params ["self", "fws", "string"] [.adr m,.str pr.1,.str pr.2]
theorem SmallP.snoc (h:SmallP ps) (hn:ps.length≤800) (hx:pr.1.length≤1000∧pr.2.length≤1000):SmallP (ps++[pr]) :=
 ⟨by rw [List.length_append]; exact Nat.le_trans (Nat.add_le_add_right hn 1) (by decide),fun x hm=>(List.mem_append.mp hm).elim (h.p x) fun e=>List.mem_singleton.mp e▸hx⟩
theorem SmallP.take (h:SmallP ps):SmallP (ps.take j):=⟨Nat.le_trans (List.length_take_le' ..) h.n,fun x hm=>h.p x (List.mem_of_mem_take hm)⟩
section
variable (B:FmtFns prog w K g T a b) (hU:∀ x,q.U x→g.get? x=none) (hsp:p.sp=sp1)
include B hU hsp
theorem cut_outer {N B':Sto→Prop}{R:Rz}(hs:σ.lookup (Str.ofString "self")=some (.val (.adr q.m))) (hz:SmallP ps) (ht:ps.length=j+1)
  (h:Over g (pgW b.CV a.CA q p) (ls,ps,i) fun g'=>(∀ {iter},iter=(stP acIn).iter→LoopV prog w g' T (n+4) acSc (stP acIn).test iter (stP acIn).body (rngL (j:Int) 0 (-1)) (cutN q.m (cutF ps j)) (cutB q.m (cutF ps j)) (sgb q.m))→SxL prog w g' T (n+4) acSc (sgb q.m) (stP acOut).body R) (go:R.rec (ForN N) (ForN N) B' fun _=>False) :
  Over g (pgW b.CV a.CA q p) (ls,ps,i) fun g'=>LoopV prog w g' T (n+4) acSc (stP acOut).test (stP acOut).iter (stP acOut).body [.str sp1] N B' σ:=fun g' up P =>
 ⟨chars_sp1▸hsp▸EvI.str (Ev.pg B up P (fun _=>rfl) (Ev.name hs) .sp),⟨_,R,.name,stAll_of rfl,SxL.pre (.cons rfl (.cons hs .nil)) (h g' up P fun e=>e▸⟨EvI.range3 rfl (B.gran.up up) (fun _ _=>rfl) (fun _ _=>rfl) (fun _ _=>rfl) (Ev.bin ((ev_pcn (n:=n) B hU rfl hz (fun _=>⟨_,rfl⟩) g' up P).mono (by lia)) Ev.int ((by rw [ht]; lia:((ps.length:Nat):Int) - 1=(j:Int))▸bin_sub)) Ev.int (Ev.neg Ev.int) (midI_iff.mpr (by have:=hz.n; lia)) rfl rfl (by decide),cut_loop B hU hz up P j (by lia)⟩),go⟩⟩
theorem cut_some (hs:σ.lookup (Str.ofString "self")=some (.val (.adr q.m))) (hz:SmallP ps) (ht:ps.length=j+1) {k:Nat}(hc:cutF ps j=some k):SxU prog w g T (n+4) acSc (pgW b.CV a.CA q p) (ls,ps,i) σ acOut (.next (sgi q.m k)) (ls,ps,i) :=
 .next (pgW_ok hU) fun g' up P=>.forB (fun _ _=>rfl) (cut_outer (R:=.brk (sgi q.m k)) (N:=fun _=>False) (B':=(· = sgi q.m k)) B hU hsp hs hz ht (fun g' up P L=>SxL.cons (.forB (fun _ _=>rfl) (hc▸L rfl)) (SxL.one .brk nofun)) rfl g' up P)
theorem cut_none {R:Rz}{st':Pst}(hs:σ.lookup (Str.ofString "self")=some (.val (.adr q.m))) (hz:SmallP ps) (ht:ps.length=j+1) (hc:cutF ps j=none) (h:SxUL prog w g T (n+4) acSc (pgW b.CV a.CA q p) (ls,ps,i) (sgb q.m) (stP acOut).orelse R st'):SxU prog w g T (n+4) acSc (pgW b.CV a.CA q p) (ls,ps,i) σ acOut R st' :=
 .forN (pgW_ok hU) (fun _ _=>rfl) (cut_outer (R:=.cont (sgb q.m)) (N:=(· = sgb q.m)) (B':=fun _=>False) B hU hsp hs hz ht (fun g' up P L=>SxL.one (.forN (fun _ _=>rfl) (hc▸L rfl) (SxL.one .cont nofun)) nofun) ⟨_,rfl,.refl⟩) h
end
end
end
section
section
variable {prog:Program}{w:World}{g:Heap}{T:Tabs}{K:Frag}{n:Nat}{q:Pg}{p:PgP}{ls:List Str}{ps:List (Str×Str)}{pr:Str×Str}{i:Int}{σ:Sto}{sc:Scope}{a:AccF}{b:FmtF}{j:Nat}{p1 p2 p3 pos:Pos}{x y:Expr}
theorem lastP_snoc:lastP (ps++[pr])=pr:=by unfold lastP; rw [List.getLast?_concat]; rfl
section
variable (B:FmtFns prog w K g T a b) (hU:∀ x,q.U x→g.get? x=none)
include B hU
noncomputable abbrev σel (m:Addr) (pr:Str×Str):Sto:=(Str.ofString "part",.val (.str pr.2))::(Str.ofString "fws",.val (.str pr.1))::sgb m
theorem ev_push (hm:IsMeth (.Attribute (.Name "self" p1) "_current_line" p2) "push" p3 [x,y] pos) (hst:NoSt x) (hst':NoSt y) (hs:σ.lookup (Str.ofString "self")=some (.val (.adr q.m))) (hz:ps.length≤900) (hx:∀ g',Ev prog w g' T (n+1) sc σ x (.str pr.1)) (hy:∀ g',Ev prog w g' T (n+1) sc σ y (.str pr.2)) :
  EvU prog w g T (n+1) sc (pgW b.CV a.CA q p) (ls,ps,i) σ (.Call (.Attribute (.Attribute (.Name "self" p1) "_current_line" p2) "push" p3) [x,y] [] pos) .none (ls,ps++[pr],i) :=
 ev_call B hs hU B.A.psh (by decide) (fun av=>.of (R:=.next _) B.A.psh (accW_ok (acc_hc B hU) (acc_hd B hU)) rfl (body_push B.A.L.toLCls B.A.X (acc_hc B hU) (acc_hd B hU) hz)) hm (fun _=>rfl) fun g' _ _=>.more (hst _) (hx g') (.more (hst' _) (hy g') .nil)
theorem ev_pop (hm:IsMeth (.Attribute (.Name "self" p1) "_current_line" p2) "pop" p3 [] pos) (hs:σ.lookup (Str.ofString "self")=some (.val (.adr q.m))) (hz:(ps++[pr]).length≤900) :
  EvU prog w g T (n+2) sc (pgW b.CV a.CA q p) (ls,ps++[pr],i) σ (.Call (.Attribute (.Attribute (.Name "self" p1) "_current_line" p2) "pop" p3) [] [] pos) (chD pr) (ls,ps,i):=by
 have h:=fun av=>cl_pop (prog:=prog) (w:=w) (T:=T) (av:=av) (n:=n) (i:=i) B.A.S B.A.popP B.A.L B.A.X (acc_hc B hU) (acc_hd B hU) B.A.pop B.A.popA B.A.pcn (fun ps=>cl_pcount (n:=n) B.A.S B.A.pcnP B.A.L B.A.X B.A.pcn B.A.lenA) hz
 rw [lastP_snoc,List.dropLast_concat] at h
 exact ev_call0 B hs hU B.A.pop (by decide) h hm fun _=>rfl
theorem ac_else (hz:Small (ls,ps,i)) (hp:pr.1.length≤1000):SxUL prog w g T (n+7) acSc (pgW b.CV a.CA q p) (ls,ps++[pr],i) (sgb q.m) (stP acOut).orelse (.ret .none) (acElse (ls,ps,i) pr):=by
 have ok:=pgW_ok (CV:=b.CV) (CA:=a.CA) (p:=p) hU
 have psh:∀ {z:Str}{st:Pst},st.2.1.length≤900→SxUL prog w g T (n+7) acSc (pgW b.CV a.CA q p) st (σel q.m (z,pr.2)) ((stP acOut).orelse.drop 2) (.ret .none) (st.1,st.2.1++[(z,pr.2)],st.2.2):=fun h =>
  SxUL.cons ok (SxU.expr ok (ev_push (n:=n+6) (pr:=(_,pr.2)) B hU (fun _=>⟨_,rfl⟩) (fun _ _=>rfl) (fun _ _=>rfl) rfl h (fun _=>Ev.name rfl) fun _=>Ev.name rfl) (fun _ _ _=>rfl)) (SxUL.last SxU.ret0)
 refine SxUL.cons (σ₁:=σel q.m pr) (j:=(ls,ps,i)) ok (SxU.assignTup (b:=[(Str.ofString "fws",.str pr.1),(Str.ofString "part",.str pr.2)]) ok (ev_pop (n:=n+5) B hU (fun _=>⟨_,rfl⟩) rfl (List.length_append▸Nat.le_trans (Nat.add_le_add_right hz.n 1) (by decide))) (fun _ _ _=>rfl) (fun _=>rfl) (.cons (.cons .nil)) (stAll_of rfl)) ?_
 have ht:Over g (pgW b.CV a.CA q p) (ls,ps,i) fun g'=>EvT prog w g' T (n+7) acSc (froz (σel q.m pr)) (stP (nth (stP acOut).orelse 1)).test (decide (i>0)):=fun g' up P=>EvT.cmp (Ev.attr (fun _=>rfl) (ev_cur B rfl g' up P) (gets_isz B.A.L (in_up B.A.X up) P.acc) flat_int) Ev.int rfl cmp_gt
 by_cases c:decide (i>0)=true
 ·rw [show acElse (ls,ps,i) pr=(nlF ls ps i,[(fwsOr pr.1,pr.2)],0) from if_pos c]
  rw [c] at ht
  have hf:∀ {e':Bool},((pr.1.length:Int) != 0)=e'→Over g (pgW b.CV a.CA q p) (nlF ls ps i,[],0) fun g'=>EvT prog w g' T (n+7) acSc (froz (σel q.m pr)) (stP (nth (stP (nth (stP acOut).orelse 1)).body 1)).test (!e'):=fun e g' _ _=>.not (.val (Ev.name rfl) (fun _ _=>rfl) (e▸tru_str (Nat.le_trans hp (by decide))))
  have go:∀ {σ₁:Sto},SxU prog w g T (n+7) acSc (pgW b.CV a.CA q p) (nlF ls ps i,[],0) (σel q.m pr) (nth (stP (nth (stP acOut).orelse 1)).body 1) (.next σ₁) (nlF ls ps i,[],0)→Sub (σel q.m (fwsOr pr.1,pr.2)) σ₁→SxUL prog w g T (n+7) acSc (pgW b.CV a.CA q p) (ls,ps,i) (σel q.m pr) (stP acOut).orelse.tail (.ret .none) (nlF ls ps i,[(fwsOr pr.1,pr.2)],0):=fun h hs =>
   SxUL.cons ok (SxU.ite ok ht (SxUL.cons ok (SxU.expr ok (ev_selfNl B hU (fun _=>⟨_,rfl⟩) rfl hz) (fun _ _ _=>rfl)) (SxUL.cons ok h SxUL.nil))) (.pre hs (psh (st:=(nlF ls ps i,[],0)) (Nat.zero_le _)))
  unfold fwsOr at go ⊢
  cases e:((pr.1.length:Int) != 0) with
  | true=>rw [e] at go; exact go (SxU.ite ok (hf e) SxUL.nil) .refl
  | false=>rw [e] at go; refine go (SxU.ite ok (hf e) (SxUL.cons ok (SxU.assign ok (EvU.gnd ok fun _ _ _=>Ev.str) (fun _ _ _=>rfl) rfl) SxUL.nil)) ?_; exact .cons rfl (.cons rfl (.cons rfl (.cons rfl .nil)))
 ·rw [show acElse (ls,ps,i) pr=(ls,ps++[pr],i) from if_neg c]
  rw [Bool.not_eq_true] at c
  rw [c] at ht
  exact SxUL.cons ok (SxU.ite ok ht SxUL.nil) (psh (st:=(ls,ps,i)) (Nat.le_trans hz.n (by decide)))
variable (hsp:p.sp=sp1)
include hsp
theorem cl_append (hz:Small (ls,ps,i)) (hx:pr.1.length≤1000∧pr.2.length≤1000):ClU prog w g T (n+8) b.apc (pgW b.CV a.CA q p) (ls,ps,i) [.adr q.m,.str pr.1,.str pr.2] .none (acF p.mx (ls,ps,i) pr):=by
 have ok:=pgW_ok (CV:=b.CV) (CA:=a.CA) (p:=p) hU
 have hz':=hz.sp.snoc hz.n hx
 have hl:(ps++[pr]).length=ps.length+1:=List.length_append
 have hc:=acc_hc B hU
 have hd:=acc_hd B hU
 have fin:∀ {R:Rz}{st':Pst},R.val=.none→SxUL prog w g T (n+7) acSc (pgW b.CV a.CA q p) (ls,ps++[pr],i) (σac q.m pr) (acB.drop 1) R st'→ClU prog w g T (n+8) b.apc (pgW b.CV a.CA q p) (ls,ps,i) [.adr q.m,.str pr.1,.str pr.2] .none st':=fun e h =>
  e▸.of B.apc ok rfl (SxUL.cons ok (SxU.expr ok (ev_push (n:=n+6) B hU (fun _=>⟨_,rfl⟩) (fun _ _=>rfl) (fun _ _=>rfl) rfl hz.sp.n (fun _=>Ev.name rfl) fun _=>Ev.name rfl) (fun _ _ _=>rfl)) h)
 have ht:Over g (pgW b.CV a.CA q p) (ls,ps++[pr],i) fun g'=>EvT prog w g' T (n+7) acSc (froz (σac q.m pr)) (stP (nth acB 1)).test (decide (accLen (ps++[pr]) i>p.mx)):=fun g' up P=>EvT.cmp (ev_lenCur (n:=n+3) B rfl rfl hz' hz.i g' up P) (.pg B up P (fun _=>rfl) (Ev.name rfl) .mx) rfl cmp_gt
 by_cases c:decide (accLen (ps++[pr]) i>p.mx)=true
 ·rw [show acF p.mx (ls,ps,i) pr=(cutF (ps++[pr]) ps.length).elim (acElse (ls,ps,i) pr) fun j=>(ls++[accText ((ps++[pr]).take j)],(ps++[pr]).drop j,0) from if_pos c]
  rw [c] at ht
  cases k:cutF (ps++[pr]) ps.length with
  | none =>
   exact fin (R:=.ret .none) rfl (SxUL.last (SxU.ite ok ht (SxUL.last (cut_none (n:=n+3) B hU hsp rfl hz' hl k (ac_else B hU hz hx.1)))))
  | some j =>
   have hj:j≤(ps++[pr]).length:=hl▸Nat.le_succ_of_le (cutF_le _ _ _ k)
   refine fin (R:=.next _) rfl (SxUL.cons ok (SxU.ite ok ht (SxUL.cons ok (cut_some (n:=n+3) B hU hsp rfl hz' hl k) (SxUL.cons ok (SxU.assign (d:=.lst (((ps++[pr]).drop j).map chD)) (j:=(ls,(ps++[pr]).take j,i)) ok (ev_call (n:=n+7) B rfl hU B.A.pfr (by decide) (fun av=>cl_pop_from (n:=n+6) B.A.L.toLCls B.A.X hc hd hz'.n hj B.A.pfr) (fun _=>⟨_,rfl⟩) (fun _=>rfl) fun _ _ _=>.more (fun _=>rfl) (Ev.name rfl) .nil) (fun _ _ _=>rfl) rfl) (SxUL.cons ok (SxU.expr ok (ev_linApp B hU rfl rfl (fun _=>rfl) (ev_strCur (n:=n+2) B rfl rfl hz'.take hz.i) (Nat.le_trans hz.l (by decide))) (fun _ _ _=>rfl)) (SxUL.cons ok (SxU.expr ok (ev_call (n:=n+7) B rfl hU B.A.rst (by decide) (fun av=>cl_reset1 (n:=n+5) B.A.L.toLCls B.A.X hc hd hz'.take.n B.A.Y ?_ B.A.rst) (fun _=>⟨_,rfl⟩) (fun _=>rfl) fun _ _ _=>.more (fun _=>rfl) (Ev.name rfl) .nil) (fun _ _ _=>rfl)) SxUL.nil))))) SxUL.nil)
   exact Nat.le_trans (List.drop_sublist ..).length_le (Nat.le_trans hz'.n (by decide))
 ·rw [show acF p.mx (ls,ps,i) pr=(ls,ps++[pr],i) from if_neg c]
  rw [Bool.not_eq_true] at c
  rw [c] at ht
  exact fin (R:=.next _) rfl (SxUL.cons ok (SxU.ite ok ht SxUL.nil) SxUL.nil)
end
end
end
section
noncomputable abbrev FD (v:Value) (d:D):Prop:=∀ av h,VD av h v d
inductive Ents:List (Str×D)→List DictEntry→Prop
 | nil:Ents [] []
 | cons {x:Str}{d:D}{v:Value}{xs:List (Str×D)}{es:List DictEntry}(hs:Int) (tk:Tok) (f:FD v d) (r:Ents xs es):Ents ((x,d)::xs) (⟨hs,.str x tk,v⟩::es)
section
variable {xs:List (Str×D)}{es:List DictEntry}{x:Str}{d:D}{v:Value}
theorem Ents.snoc (r:Ents xs es) (hs:Int) (tk:Tok) (f:FD v d):Ents (xs++[(x,d)]) (es++[⟨hs,.str x tk,v⟩]):=by
 induction r with
 | nil=>exact .cons hs tk f .nil
 | cons hs tk f _ ih=>exact .cons hs tk f ih
theorem Ents.length (r:Ents xs es):es.length=xs.length:=by
 induction r with
 | nil=>rfl
 | cons _ _ _ _ ih=>exact congrArg (· + 1) ih
theorem Ents.plain (r:Ents xs es):es.any (·.refKey)=false:=by
 induction r with
 | nil=>rfl
 | cons _ _ _ _ ih=>rw [List.any_cons,ih]; rfl
theorem Ents.away (r:Ents xs es) (h:(xs.all fun p => !(p.1==x))=true):∀ e∈es,e.key.isStr x=false:=by
 induction r with
 | nil=>exact fun _ h=>(List.not_mem_nil h).elim
 | cons _ _ _ _ ih =>
  rw [List.all_cons,Bool.and_eq_true] at h
  exact fun e he=>(List.mem_cons.mp he).elim (fun z=>z▸(Bool.not_eq_true' _).mp h.1) (ih h.2 e)
theorem Ents.no (r:Ents xs es) (h:(xs.all fun p => !(p.1==x))=true):getL x es=some none:=by
 unfold getL
 rw [List.find?_eq_none.mpr fun e he=>by rw [r.away h e he]; exact Bool.false_ne_true,r.plain]
 rfl
inductive GotE (x:Str) (es:List DictEntry) (d:D):Prop
 | mk (v:Value) (e:getL x es=some (some v)) (f:FD v d)
theorem Ents.get (r:Ents xs es) (h:xs.lookup x=some d):GotE x es d:=by
 induction r with
 | nil=>exact nomatch h
 | @cons y d' v xs es hs tk f r ih =>
  by_cases c:(x==y)=true
  ·rw [List.lookup_cons,c] at h
   cases h
   exact ⟨v,by unfold getL; rw [List.find?_cons,show (Value.str y tk).isStr x=true from beq_iff_eq.mpr (beq_iff_eq.mp c).symm],f⟩
  ·rw [Bool.not_eq_true] at c
   rw [List.lookup_cons,c] at h
   cases ih h with | mk v e f =>
   refine ⟨v,?_,f⟩
   rw [← e]
   unfold getL
   rw [List.find?_cons,show (Value.str y tk).isStr x=false from beq_eq_false_iff_ne.mpr (beq_eq_false_iff_ne.mp c).symm,List.any_cons]
   rfl
end
inductive MdAt (CV:Addr) (h:Heap) (m md:Addr) (xs:List (Str×D)):Prop
 | mk (es:List DictEntry) (kd:Nat) (o:h.get? m=some (instObj CV md)) (d:h.get? md=some (dictOf es kd)) (r:Ents xs es)
noncomputable abbrev iniW (CV m md:Addr):Wo (List (Str×D)):={ av:=[],P:=fun b=>b=m∨b=md,U:=fun b=>b=md,Ω:=fun xs h=>MdAt CV h m md xs }
section
variable {prog:Program}{w:World}{g:Heap}{T:Tabs}{K:Frag}{n:Nat}{s s₀:Shared}{sc:Scope}{A:Around}{CV m md:Addr}{xs:List (Str×D)}{σ:Sto}{ow:Ow}{env:Env}{x y:Str}{e:Expr}{p0 apos pos:Pos}{cv:ClassData}{d:D}
theorem iniW_ok (h:g.get? md=none):(iniW CV m md).Ok g where
 up:=fun b hb=>.inr hb
 off:=fun b hb=>hb▸h
 obj:=fun i h hw b hb=>by
  cases hw with | mk es kd o d r =>
  rcases hb with rfl | rfl
  ·exact ⟨_,o,nt_inst _ _⟩
  ·exact ⟨_,d,nt_dict _ _⟩
 seq:=fun i h hw b o hb e so=>by
  cases hw with | mk es kd o d r =>
  cases hb
  exact (dict_nsq (sinj e d▸so)).elim
 st:=fun i h h' hw hk tk=>by
  cases hw with | mk es kd o d r=>exact ⟨es,kd,hk _ _ (.inl rfl) o,hk _ _ (.inr rfl) d,r⟩
inductive Gv (g:Heap) (T:Tabs) (R:D→Shared→Prop) (s:Shared) (v:Value) (s':Shared):Prop
 | mk (d:D) (x:Ext g T s s') (f:FD v d) (r:R d s')
theorem put_fld {R:D→Shared→Prop}{Q:Flow→Shared→Prop}(S:VSet K CV cv) (X:K.In g) (hmd:g.get? md=none) (hself:σ.lookup x=some (.val (.adr m))) (hc:NoC e) (hn:y∈pgAttrs) (hy:(xs.all fun p => !(p.1==y))=true) (hz:xs.length≤900) (Z:FmW (iniW CV m md) g T ow env σ s xs) (he:wpAny (model prog w) A (eval e env) (Gv g T R s) NoE s)
  (k:∀ d s₁ s',R d s₁→Ext g T s s₁→Mv g T (iniW CV m md).U s₁ s'→Heap.SameBut md s₁.heap s'.heap→FmW (iniW CV m md) g T ow env σ s' (xs++[(y,d)])→Q .next s') :
  wpAny (model prog w) A (exec (.Assign [.Attribute (.Name x p0) y apos] e pos) env) Q NoE s :=
 plainObj_wpAny_Assign_Attribute (wp_to he fun v s₁ h₁=>by
  cases h₁ with | mk d x f r =>
  have Z₁:=Z.ext (iniW_ok hmd) x
  refine wp_load Z₁.F.ec.kind (Z₁.F.ec.adr hself) ?_
  cases Z₁.w with | mk es kd o dd q =>
  refine set_attr (l:=[.type "object"]) (in_up X Z₁.F.gk.keep) (InstAt.mk (ox:=instObj CV md) o rfl rfl dd) rfl S.sa S.cls S.mro (refuse_object _) (by rw [S.mro]; rfl) (S.tak _ hn) S.dict (by rw [q.no hy]; rfl) (q.length▸hz) fun h' tk hs hg=>?_
  rw [putL_new (q.away hy)] at hg
  have m:=Mv.one (T:=T) (W:=(iniW CV m md).U) (tk:=s₁.toks+2) hs dd noc_dict hmd rfl
  exact k d _ _ r x m hs (Z₁.out (iniW_ok hmd) m ⟨_,_,(hs.2 _ (apart o dd rfl)).trans o,hg,q.snoc _ tk f⟩)) (hc _ _ _)
theorem SxU.put (S:VSet K CV cv) (X:K.In g) (hmd:g.get? md=none) (hself:σ.lookup x=some (.val (.adr m))) (hc:NoC e) (hn:y∈pgAttrs) (hy:(xs.all fun p => !(p.1==y))=true) (hz:xs.length≤900) (he:Ev prog w g T n sc σ e d) (hd:∀ {av h v},VD av h v d→FD v d) :
  SxU prog w g T n sc (iniW CV m md) xs σ (.Assign [.Attribute (.Name x p0) y apos] e pos) (.next σ) (xs++[(y,d)]):=fun A s ow env hev hoc rm Z =>
 put_fld (R:=fun d' _=>d=d') S X hmd hself hc hn hy hz Z (wp_to (he A s _ env hev rm Z.F.gk Z.F.ec) fun v s₁ h=>⟨d,h.1,hd h.2,rfl⟩) fun d' s₁ s' e x m _ Z'=>by
  subst e
  have m':Mv g T (iniW CV _ md).U s s':=Mv.trans x.mv m fun _ h=>.inl h
  exact .next ⟨ow,rfl,Z'.F,m'.sub fun _ h=>.inl (.inr h),fun _ h=>.inl h⟩ Z'.w
theorem SxUL.wp {ι:Type}{W:Wo ι}{i j:ι}{Q:Flow→Shared→Prop}{σ₁:Sto}{pre post:List Stmt}(ok:W.Ok g) (h:SxUL prog w g T n sc W i σ pre (.next σ₁) j) (he:env.scope=sc) (hc:ow.c=cellNames sc.names) (rm:Rm n A) (Z:FmW W g T ow env σ s i)
  (k:∀ ow' s',ow'.c=ow.c→FmW W g T ow' env σ₁ s' j→Mv g T (fun b=>Wr env ow b∨W.U b) s s'→(∀ b,Wr env ow' b→Wr env ow b∨s.heap.get? b=none)→wpAny (model prog w) A (execs post env) Q NoE s'):wpAny (model prog w) A (execs (pre++post) env) Q NoE s:=by
 rw [execs_append]
 refine wpAny_bind (wp_to (h A s ow env he hc rm Z) fun fl s₁ h₁=>?_)
 cases h₁ with | next n wj =>
 cases n with | mk ow' c F m hw=>exact k ow' s₁ c (Z.nx ok F hw wj) m hw
end
end
section
section
variable {prog:Program}{w:World}{g:Heap}{T:Tabs}{K:Frag}{n:Nat}{s:Shared}{sc:Scope}{A:Around}{m md:Addr}{σ:Sto}{ow:Ow}{env:Env}{av:List Addr}{f:Str}{e:Expr}{es:List Expr}{ds:List D}{pos p0:Pos}{a:AccF}{b:FmtF}{p:PgP}{hl:Int}
theorem wp_callK {c:Addr}{Q:Value→Shared→Prop}(hx:sc.names.lookup f=some .globalImplicit) (hgl:Glb g f (.ref c)) (hk:keepIn K (.ref c)=true) (X:K.In g) (ha:EvL prog w g T n sc σ (e::es) ds) (he:env.scope=sc) (rm:Rm n A) (hg:GK g T s) (hc:EC av env σ s.heap)
  (h:∀ vs s₁,Ext g T s s₁→VDs av s₁.heap vs ds→wpAny (model prog w) A (call (.ref c) vs) Q NoE s₁):wpAny (model prog w) A (eval (.Call (.Name f p0) (e::es) [] pos) env) Q NoE s :=
 wpAny_Call_NameR (wp_glob hc.kind hc.glob hc.blt (by rw [Env.kindOf,he]; exact hx) hg.keep hgl (callWith_K (h₀:=s.heap) (in_up X hg.keep) hk (wp_to (ha.run A s av env pos he rm hg hc) fun vs s₁ h₁=>⟨in_up X (h₁.1.gk hg).keep,h vs s₁ h₁.1 h₁.2⟩) (ha.plain.1 _) ha.plain.2.any))
noncomputable abbrev pgXs (p:PgP) (l c:Addr):List (Str×D):=[("_maxlen",.int p.mx),("_continuation_ws",.str p.cw),("_continuation_ws_len",.int p.cw.length),("_splitchars",.str p.sp),("_lines",.adr l),("_current_line",.adr c)]
theorem MdAt.page {CV CA l c dx:Addr}{h:Heap}{k:Nat}(M:MdAt CV h m md (pgXs p l c)) (hl':h.get? l=some (lstO [] k)) (a:AccAt CA h c dx [] hl) (hne:dx≠md):PageAt CV CA h ⟨m,md,l,c,dx⟩ p ([],[],hl):=by
 cases M with | mk es kd o d r =>
 refine ⟨es,kd,[],k,?_,hl',rfl,a⟩
 have int:∀ {x:Str}{i:Int},(pgXs p l c).lookup x=some (.int i)→∃ t,getL x es=some (some (.int i t)):=fun z=>(r.get z).rec fun v e f=>by
  obtain ⟨t,rfl⟩:=(f [] h).i4; exact ⟨t,e⟩
 have str:∀ {x:Str}{i:Str},(pgXs p l c).lookup x=some (.str i)→∃ t,getL x es=some (some (.str i t)):=fun z=>(r.get z).rec fun v e f=>by
  obtain ⟨t,rfl⟩:=(f [] h).i5; exact ⟨t,e⟩
 have adr:∀ {x:Str}{i:Addr},(pgXs p l c).lookup x=some (.adr i)→getL x es=some (some (.ref i)):=fun z=>(r.get z).rec fun v e f=>by
  cases (f [] h).i1; exact e
 exact ⟨o,d,int rfl,str rfl,int rfl,str rfl,adr rfl,adr rfl,hne,fun x hx=>r.no ((by decide:∀ x∈pgNames,(pgAttrs.all fun y => !(y==x))=true) x hx)⟩
inductive PgNew (g:Heap) (T:Tabs) (CV CA m md:Addr) (p:PgP) (hl:Int) (s s':Shared):Prop
 | mk (l c dx:Addr) (h1:s.heap.get? l=none) (h2:s.heap.get? c=none) (h3:s.heap.get? dx=none) (m':Mv g T (fun x=>x=md) s s') (P:PageAt CV CA s'.heap ⟨m,md,l,c,dx⟩ p ([],[],hl))
theorem Mv.no {W:Addr→Prop}{s':Shared}(x:Mv g T W s s') (hg:GK g T s') {c:Addr}(h:s'.heap.get? c=none) (hw:¬ W c):s.heap.get? c=none:=(x.new hg h).elim (fun q=>(hw q).elim) id
inductive LstNew (s:Shared):D→Shared→Prop
 | mk {s':Shared}{l k:Nat}(h:s.heap.get? l=none) (o:s'.heap.get? l=some (lstO [] k)):LstNew s (.adr l) s'
inductive AccNewD (CA:Addr) (i:Int) (s:Shared):D→Shared→Prop
 | mk {s':Shared}{c dx:Addr}(h:s.heap.get? c=none) (h':s.heap.get? dx=none) (o:AccAt CA s'.heap c dx [] i):AccNewD CA i s (.adr c) s'
noncomputable abbrev iniB:List Stmt:=bodyOf (meth1 "_ValueFormatter" "__init__")
noncomputable abbrev iniS:Scope:=scopeOf (meth1 "_ValueFormatter" "__init__")
noncomputable abbrev iniσ (m:Addr) (hl:Int) (p:PgP):Sto:=params ["self", "headerlen", "maxlen", "continuation_ws", "splitchars"] [.adr m,.int hl,.int p.mx,.str p.cw,.str p.sp]
section
variable (B:FmtFns prog w K g T a b) (hmd:g.get? md=none)
include B hmd
theorem ini_four (hcw:p.cw.length≤1000):SxUL prog w g T n iniS (iniW b.CV m md) [] (iniσ m hl p) (iniB.take 4) (.next (iniσ m hl p)) ((pgXs p 0 0).take 4) :=
 have ok:=iniW_ok (CV:=b.CV) (m:=m) hmd
 have hs:(iniσ m hl p).lookup (Str.ofString "self")=some (.val (.adr m)):=rfl
 SxUL.cons ok (SxU.put B.S B.A.X hmd hs (fun _ _ _=>rfl) (by decide) rfl (Nat.zero_le _) (Ev.name rfl) fun r=>by obtain ⟨t,rfl⟩:=r.i4; exact fun _ _=>.int _ t)
  (SxUL.cons ok (SxU.put B.S B.A.X hmd hs (fun _ _ _=>rfl) (by decide) rfl (by decide:1≤900) (Ev.name rfl) fun r=>by obtain ⟨t,rfl⟩:=r.i5; exact fun _ _=>.str _ t)
  (SxUL.cons ok (SxU.put B.S B.A.X hmd hs (fun _ _ _=>rfl) (by decide) rfl (by decide:2≤900) (Ev.call rfl (EvL.more (fun _=>rfl) (Ev.name rfl) EvL.nil) (cl_len_str B.A.glen (Nat.le_trans hcw (by decide)))) fun r=>by obtain ⟨t,rfl⟩:=r.i4; exact fun _ _=>.int _ t)
  (SxUL.cons ok (SxU.put B.S B.A.X hmd hs (fun _ _ _=>rfl) (by decide) rfl (by decide:3≤900) (Ev.name rfl) fun r=>by obtain ⟨t,rfl⟩:=r.i5; exact fun _ _=>.str _ t) SxUL.nil)))
theorem ini_two (hs:σ.lookup (Str.ofString "self")=some (.val (.adr m))) (hh:σ.lookup (Str.ofString "headerlen")=some (.val (.int hl))) (he:env.scope=iniS) (rm:Rm (n+5) A) (Z:FmW (iniW b.CV m md) g T ow env σ s ((pgXs p 0 0).take 4)) :
  wpAny (model prog w) A (execs (iniB.drop 4) env) (fun fl s'=>fl=.next∧PgNew g T b.CV a.CA m md p hl s s') NoE s:=by
 have ok:=iniW_ok (CV:=b.CV) (m:=m) hmd
 refine wpAny_execs_cons (put_fld (R:=LstNew s) (xs:=(pgXs p 0 0).take 4) B.S B.A.X hmd hs (fun _ _ _=>rfl) (by decide) rfl (by decide:4≤900) Z (wp_to (EvO.list EvL.nil (Nat.zero_le _) A s _ env he rm Z.F.gk Z.F.ec) fun v s' h=>?_) fun d s₂ s₃ r₃ x₃ k₃ u₃ Z₃=>?_)
 ·cases h with | mk x hn ho hd =>
  cases hd.i0
  exact ⟨_,x,fun _ _=>.adr _,hn,ho⟩
 cases r₃ with | @mk _ l k hln ol =>
 refine wpAny_execs_cons (put_fld (R:=AccNewD a.CA hl s₃) (xs:=(pgXs p l 0).take 5) B.S B.A.X hmd hs (fun _ _ _=>rfl) (by decide) rfl (by decide:5≤900) Z₃ (wp_callK rfl B.gacc B.kacc B.A.X (EvL.more (fun _=>rfl) (Ev.name hh) EvL.nil) he rm Z₃.F.gk Z₃.F.ec fun us s' x' r'=>?_) fun d s₄ s₅ r₄ x₄ k₄ u₄ Z₅=>?_)
 ·cases r'.one1 with | mk r =>
  obtain ⟨t,rfl⟩:=r.i4
  refine wp_to (acc_new (n:=n+3) B.A rm (x'.gk Z₃.F.gk)) fun v s'' h=>?_
  cases h with | mk hc hd x'' ac=>exact ⟨_,x'.trans x'',fun _ _=>.adr _,x'.none Z₃.F.gk hc,x'.none Z₃.F.gk hd,ac⟩
 cases r₄ with | @mk _ c dx hcn hdn ac =>
 have far:∀ {xs:List (Str×D)}{s:Shared}{x:Addr},FmW (iniW b.CV m md) g T ow env σ s xs→s.heap.get? x=none→x≠md:=fun Z h e=>by
  cases Z.w with | mk es kd o dd r=>exact nos (e▸h) dd
 have n₃:Mv g T (fun x=>x=md) s s₃:=x₃.mv.trans k₃ fun _ h=>.inl h
 refine wpAny_execs_nil ⟨rfl,l,c,dx,hln,n₃.no Z₃.F.gk hcn (far Z₃ hcn),n₃.no Z₃.F.gk hdn (far Z₃ hdn),(n₃.trans x₄.mv fun _ (f:False)=>f.elim).trans k₄ fun _ h=>.inl h,Z₅.w.page ((u₄.2 _ (far Z hln)).trans (x₄.get' Z₃.F.gk ((u₃.2 _ (far Z hln)).trans ol) (nt_lst _ _))) (ac.st (fun b o hb e=>(u₄.2 _ (hb.elim (fun z=>z▸far Z₃ hcn) fun z=>z▸far Z₃ hdn)).trans e) fun b us k e=>(u₄.2 _ fun z=>?_).trans e) (far Z₃ hdn)⟩
 cases (Z₃.ext ok x₄).w with | mk es kd o dd r=>exact apart e dd rfl z
theorem code_initV {vs:List Value}(rm:Rm (n+6) A) (hg:GK g T s) (M:MdAt b.CV s.heap m md []) (hcw:p.cw.length≤1000) (hv:VDs [] s.heap vs [.adr m,.int hl,.int p.mx,.str p.cw,.str p.sp]) :
  codeAny (model prog w) A (.call (.ref b.ini) ⟨vs,[]⟩) (Ended fun v s'=>v=.none∧PgNew g T b.CV a.CA m md p hl s s') s :=
 code_callX B.ini.fo B.ini.fs (B.ini.fo.looks hv.length) (σc:=[]) ⟨fun x c e=>(B.ini.ce x c e).imp fun _ i=>i.keeps hg.keep,B.ini.fr,nofun⟩ rm hg (av:=[]) (fun _ h=>nomatch h) hv rfl fun env ow s₁ N=>by
  have ok:=iniW_ok (CV:=b.CV) (m:=m) hmd
  have Z:FmW (iniW b.CV m md) g T ow env _ s₁ _:=.to ok B.ini M hg N
  refine wpAt_of_wpAny (SxUL.wp (pre:=iniB.take 4) (post:=iniB.drop 4) ok (ini_four B hmd hcw) N.sc_ N.c N.rm Z fun ow' s₂ c Z₂ m₂ q₂=>wp_to (ini_two B hmd rfl rfl N.sc_ N.rm Z₂) fun fl s' h=>?_)
  cases h.1
  have n₂:Mv g T (fun x=>x=md) s s₂:=Mv.trans N.x.mv m₂ fun b hb=>hb.elim (fun z=>.inr (N.w b z)) .inl
  have far:∀ {x},s₂.heap.get? x=none→x≠md:=fun h e=>by
   cases Z₂.w with | mk es kd o dd r=>exact nos (e▸h) dd
  cases h.2 with | mk l c dx h1 h2 h3 m' P=>exact ⟨rfl,l,c,dx,n₂.no Z₂.F.gk h1 (far h1),n₂.no Z₂.F.gk h2 (far h2),n₂.no Z₂.F.gk h3 (far h3),n₂.trans m' fun _ h=>.inl h,P⟩
end
end
end
section
section
variable {prog:Program}{w:World}{g:Heap}{T:Tabs}{K:Frag}{n:Nat}{s:Shared}{A:Around}{vs:List Value}{a:AccF}{b:FmtF}{p:PgP}{hl:Int}
inductive PageNew (g:Heap) (T:Tabs) (CV CA:Addr) (p:PgP) (hl:Int) (s:Shared):Value→Shared→Prop
 | mk {s':Shared}(q:Pg) (hn:∀ x,q.all x→s.heap.get? x=none) (x:Ext g T s s') (P:PageAt CV CA s'.heap q p ([],[],hl)):PageNew g T CV CA p hl s (.ref q.m) s'
theorem page_new (B:FmtFns prog w K g T a b) (rm:Rm (n+7) A) (hg:GK g T s) (hcw:p.cw.length≤1000) (hv:VDs [] s.heap vs [.int hl,.int p.mx,.str p.cw,.str p.sp]):wpAny (model prog w) A (call (.ref b.CV) vs) (PageNew g T b.CV a.CA p hl s) NoE s:=by
 obtain ⟨hp,gs,d,t,os⟩:=s
 have X:=in_up B.A.X hg.keep
 have x₁:Ext g T ⟨hp,gs,d,t,os⟩ ⟨(hp.push emptyDict).push (instObj b.CV hp.objs.size),gs,d,t,os⟩:=Ext.trans (s':=⟨hp.push emptyDict,gs,d,t,os⟩) (.push _) (.push _)
 have n1:hp.get? hp.objs.size=none:=Heap.get?_none_of_le (Nat.le_refl _)
 have n2:hp.get? (hp.objs.size+1)=none:=Heap.get?_none_of_le (Nat.le_succ _)
 refine wpAny_call (make_core (makes_of X B.mkV) (looks_findIn X B.ini.find) (fun self=>bind_fn X self (beq_iff_eq.mp B.ini.isf)) (.inl rfl) (codeAny_mono (code_initV (p:=p) (hl:=hl) (m:=hp.objs.size+1) (md:=hp.objs.size) B (hg.new n1) rm.tc (x₁.gk hg) ⟨[],0,by heap_get,by heap_get,.nil⟩ hcw (.cons (.adr _) (x₁.vds hg hv))) fun r s' z=>?_))
 rcases r with e | (v | _ | _ | _) <;> first | exact z.elim | skip
 cases z.2 with | mk l c dx h1 h2 h3 m P =>
 refine ⟨z.1,⟨_,_,l,c,dx⟩,?_,(Mv.trans (W:=fun x=>x=hp.objs.size) x₁.mv m fun b hb=>.inl hb).ext fun b hb=>hb▸n1,P⟩
 rintro x (rfl | rfl | rfl | rfl | rfl)
 ·exact n2
 ·exact n1
 ·exact x₁.none hg h1
 ·exact x₁.none hg h2
 ·exact x₁.none hg h3
end
end
section
noncomputable abbrev Wo.on {ι:Type}(W:Wo ι) (fp:List Addr):Wo ι:={ W with av:=fp++W.av }
theorem TgEach.uniq {es:List Expr}{ds:List D}{b:Bd}(h:TgEach es ds b):∀ {b':Bd},TgEach es ds b'→b=b':=by
 induction h with
 | nil=>exact fun h=>by cases h; rfl
 | cons _ ih=>exact fun h=>by cases h with | cons h=>rw [ih h]
theorem Tg.uniq {tg:Expr}{d:D}{b b':Bd}(h:Tg tg d b) (h':Tg tg d b'):b=b':=by
 cases h with
 | name=>cases h'; rfl
 | tup h=>cases h' with | tup h'=>exact h.uniq h'
section
variable {ι:Type}(prog:Program) (w:World) (g:Heap) (T:Tabs) (n:Nat) (sc:Scope) (W:Wo ι) (tg:Expr) (body:List Stmt)
inductive ForUS (K:Sto→ι→Prop) (d:D) (σ:Sto) (i:ι):Prop
 | mk (b:Bd) (σ₁:Sto) (j:ι) (t:Tg tg d b) (st:stAll sc (cellNames sc.names) b) (run:∀ fp,SxUL prog w g T n sc (W.on fp) i (bindAll b σ) body (.next σ₁) j) (go:K σ₁ j)
noncomputable def ForU (N:Sto→ι→Prop) (ds:List D):Sto→ι→Prop:=ds.rec N fun d _ ih=>ForUS prog w g T n sc W tg body ih d
end
section
variable {ι:Type}{prog:Program}{w:World}{g:Heap}{T:Tabs}{n:Nat}{sc:Scope}{W:Wo ι}{i j:ι}{σ σ₁ σ₂:Sto}{tg iter:Expr}{body sts:List Stmt}{pos:Pos}{ds:List D}{R:Rz}{N:Sto→ι→Prop}
theorem Wo.Ok.on (ok:W.Ok g) (fp:List Addr):(W.on fp).Ok g:={ ok with seq:=fun i h w b o u e s=>List.mem_append_right _ (ok.seq i h w b o u e s) }
theorem SxUL.post (h:SxUL prog w g T n sc W i σ sts (.next σ₁) j) (hs:Sub σ₂ σ₁):SxUL prog w g T n sc W i σ sts (.next σ₂) j:=fun A s ow env he hoc rm Z =>
 wp_to (h A s ow env he hoc rm Z) fun fl s' q=>by
  cases q with | next n wj =>
  cases n with | mk ow' c F m hw=>exact .next ⟨ow',c,F.weak hs,m,hw⟩ wj
inductive ForI (prog:Program) (w:World) (g:Heap) (T:Tabs) (n:Nat) (sc:Scope) (W:Wo ι) (tg:Expr) (body:List Stmt) (N:Sto→ι→Prop) (ds:List D) (σ:Sto) (s:Shared):Prop
 | mk (i:ι) (wi:W.Ω i s.heap) (h:ForU prog w g T n sc W tg body N ds σ i)
theorem forI_ok (ok:W.Ok g):LoopP True g T W.av W.P W.U (ForI prog w g T n sc W tg body N) where
 obj:=fun ds σ s h b p=>h.rec fun i wi _=>ok.obj i _ wi b p
 seq:=fun ds σ s h b o u e q=>h.rec fun i wi _=>ok.seq i _ wi b o u e q
 up:=ok.up
 st:=fun ds σ s₁ s₂ Z h q m hz tk=>h.rec fun i wi k=>⟨i,ok.mv m q wi hz (tk trivial),k⟩
theorem SxU.for (ok:W.Ok g) (hi:EvF prog w g T n sc σ tg iter ds) (hsd:NoSet iter) (h:ForU prog w g T n sc W tg body (fun σ' j'=>σ'=σ₁∧j'=j) ds σ i):SxU prog w g T n sc W i σ (.For tg iter body [] pos) (.next σ₁) j:=fun A s ow env he hoc rm Z =>
 wp_for (Inv:=ForI prog w g T n sc W tg body fun σ' j'=>σ'=σ₁∧j'=j) (B:=fun _ _=>False) (D':=fun _=>False) (forI_ok ok) hi hsd he hoc rm Z.F Z.nw ⟨i,Z.w,h⟩
  (fun d ds' σ' s₁ q=>by
   cases q with | mk i₁ w₁ h₁ =>
   cases h₁ with | mk b _ _ t st _ _ =>
   refine ⟨b,t,st,fun fp s₂ ow' c F q nw=>?_⟩
   cases q with | mk i₂ w₂ h₂ =>
   cases h₂ with | mk b' σ₃ k t' st' run go =>
   cases t.uniq t'
   refine wp_to (run fp A s₂ ow' env he c rm ⟨F,w₂,nw,Z.cl⟩) fun fl s₃ h₃=>?_
   cases h₃ with | next nx w₃=>exact .next nx ⟨k,w₃,go⟩)
  (fun σ' s' q nx=>by
   cases q with | mk k wk e =>
   obtain ⟨rfl,rfl⟩:=e
   exact wpAny_execs_nil (.next nx wk))
  (fun _ _ f=>f.elim) fun _ _ _ f=>f.elim
end
end
section
noncomputable abbrev P9 (x:Str×Str):Prop:=(x.1.length≤9∧x.2.length≤9)∧PyData.strOk x.1=true∧PyData.strOk x.2=true
structure SmN (c:Nat) (st:Pst):Prop where
 n:st.2.1.length≤c
 p:∀ x∈st.2.1,P9 x
 i:0≤st.2.2∧st.2.2≤1000
 l:st.1.length≤c
 m:∀ x∈st.1,x.length≤20*(c*c)
section
variable {c:Nat}{st:Pst}{ls:List Str}{ps:List (Str×Str)}{i mx:Int}{pr:Str×Str}{x:Str}
theorem SmN.small (h:SmN c st) (hc:c≤400):Small st where
 n:=Nat.le_trans h.n (Nat.le_trans hc (by decide))
 p:=fun x hx=>⟨Nat.le_trans (h.p x hx).1.1 (by decide),Nat.le_trans (h.p x hx).1.2 (by decide)⟩
 o:=fun x hx=>(h.p x hx).2
 i:=h.i
 l:=Nat.le_trans h.l (Nat.le_trans hc (by decide))
 m:=fun x hx=>Nat.le_trans (h.m x hx) (Nat.le_trans (Nat.mul_le_mul_left _ (Nat.mul_le_mul hc hc)) (by decide))
theorem str_len (x y:Str):(x++y).length=x.length+y.length:=by first | exact Str.length_append x y | simp
theorem accText_le (h:∀ x∈ps,P9 x):(accText ps).length≤18*ps.length:=by
 refine Nat.le_trans (join0_len _) ?_
 rw [List.map_map,Nat.mul_comm]
 exact sum_le _ 18 ps fun x hx=>Nat.le_trans (join0_len [x.1,x.2]) (Nat.add_le_add (h x hx).1.1 (h x hx).1.2)
theorem p9_sp:P9 (sp1,es0):=⟨by decide,by decide +kernel⟩
theorem sq_le (c:Nat):20*(c*c)+18*(c+1)≤20*((c+1)*(c+1)):=by
 rw [show (c+1)*(c+1)=c*c+2*c+1 by rw [Nat.succ_mul,Nat.mul_succ]; omega]
 omega
theorem popped_p (h:∀ x∈ps,P9 x):∀ x∈popped ps,P9 x:=fun x hx=>by
 have hd:∀ x∈ps.dropLast,P9 x:=fun x hx=>h x ((List.dropLast_sublist ps).subset hx)
 unfold popped at hx
 by_cases c:(lastP ps != (sp1,es0))=true
 ·rw [if_pos c] at hx
  exact (List.mem_append.mp hx).elim (hd x) fun e=>List.mem_singleton.mp e▸lastP_mem.elim (fun e=>e▸⟨by decide,by decide +kernel⟩) (h _)
 ·rw [if_neg c] at hx
  exact hd x hx
theorem popped_n (h:ps.length≤c):(popped ps).length≤c+1:=by
 have hd:ps.dropLast.length≤c:=Nat.le_trans (List.dropLast_sublist ps).length_le h
 unfold popped
 by_cases e:(lastP ps != (sp1,es0))=true
 ·rw [if_pos e,List.length_append]; exact Nat.add_le_add_right hd 1
 ·rw [if_neg e]; exact Nat.le_succ_of_le hd
structure LsOk (k M:Nat) (ls:List Str):Prop where
 l:ls.length≤k
 m:∀ x∈ls,x.length≤M
theorem LsOk.snoc {k M:Nat}(h:LsOk k M ls) (hx:x.length≤M):LsOk (k+1) M (ls++[x]) :=
 ⟨List.length_append▸Nat.add_le_add_right h.l 1,fun y hy=>(List.mem_append.mp hy).elim (h.m y) fun e=>List.mem_singleton.mp e▸hx⟩
theorem LsOk.up {k M k' M':Nat}(h:LsOk k M ls) (hk:k≤k') (hm:M≤M'):LsOk k' M' ls:=⟨Nat.le_trans h.l hk,fun x hx=>Nat.le_trans (h.m x hx) hm⟩
theorem addLine_ok {k M N:Nat}{e:Bool}{ls:List Str}{x:Str}(h:LsOk k M ls) (hx:x.length≤N):LsOk (k+1) (M+N) (addLine ls x e):=by
 have h':=h.up (Nat.le_refl k) (Nat.le_add_right M N)
 unfold addLine
 by_cases c:(e && !ls.isEmpty)=true
 ·rw [if_pos c]
  rcases List.eq_nil_or_concat ls with rfl | ⟨l,y,rfl⟩
  ·exact nomatch (Bool.and_eq_true_iff.mp c).2
  rw [List.concat_eq_append] at h h' ⊢
  rw [List.dropLast_concat,List.getLast?_concat]
  exact LsOk.up (k:=k) ⟨by have:=h.l; rw [List.length_append] at this ⊢; exact this,fun z hz=>(List.mem_append.mp hz).elim (fun q=>h'.m z (List.mem_append_left _ q)) fun q=>List.mem_singleton.mp q▸str_len .. ▸ Nat.add_le_add (h.m y (List.mem_append_right _ (.head _))) hx⟩ (Nat.le_succ _) (Nat.le_refl _)
 ·rw [if_neg c]
  exact h'.snoc (Nat.le_trans hx (Nat.le_add_left ..))
theorem nl_small {k M:Nat}(h:LsOk k M ls) (hp:∀ x∈ps,P9 x) (hn:ps.length≤c):LsOk (k+1) (M+18*(c+1)) (nlF ls ps i):=by
 have hx:(accText (popped ps)).length≤18*(c+1):=Nat.le_trans (accText_le (popped_p hp)) (Nat.mul_le_mul_left _ (popped_n hn))
 have h':=h.up (Nat.le_refl k) (Nat.le_add_right M (18*(c+1)))
 unfold nlF
 by_cases e:decide (accLen (popped ps) i>0)=true
 ·rw [if_pos e]
  exact addLine_ok h hx
 ·rw [if_neg e]
  exact h'.up (Nat.le_succ _) (Nat.le_refl _)
theorem acF_small (h:SmN c st) (hp:P9 pr):SmN (c+1) (acF mx st pr):=by
 have hL:LsOk c (20*(c*c)) st.1:=⟨h.l,h.m⟩
 have hs:∀ x∈st.2.1++[pr],P9 x:=fun x hx=>(List.mem_append.mp hx).elim (h.p x) fun e=>List.mem_singleton.mp e▸hp
 have hn:(st.2.1++[pr]).length≤c+1:=List.length_append▸Nat.add_le_add_right h.n 1
 have up:20*(c*c)≤20*((c+1)*(c+1)):=Nat.le_trans (Nat.le_add_right ..) (sq_le c)
 have plain:SmN (c+1) (st.1,st.2.1++[pr],st.2.2):=⟨hn,hs,h.i,(hL.up (Nat.le_succ _) up).l,(hL.up (Nat.le_succ _) up).m⟩
 have zero:(0:Int)≤0∧(0:Int)≤1000:=by decide
 unfold acF
 by_cases e:decide (accLen (st.2.1++[pr]) st.2.2>mx)=true
 ·rw [if_pos e]
  cases cutF (st.2.1++[pr]) st.2.1.length with
  | none =>
   show SmN (c+1) (acElse st pr)
   unfold acElse
   by_cases e:decide (st.2.2>0)=true
   ·rw [if_pos e]
    have q:=nl_small (i:=st.2.2) hL h.p h.n
    refine ⟨Nat.succ_le_succ (Nat.zero_le _),fun x hx=>List.mem_singleton.mp hx▸?_,zero,q.l,fun x hx=>Nat.le_trans (q.m x hx) (sq_le c)⟩
    unfold fwsOr
    by_cases e:((pr.1.length:Int) != 0)=true
    ·rw [if_pos e]; exact hp
    ·rw [if_neg e]; exact ⟨⟨p9_sp.1.1,hp.1.2⟩,p9_sp.2.1,hp.2.2⟩
   ·rw [if_neg e]; exact plain
  | some j =>
   have q:=(hL.up (Nat.le_refl _) up).snoc (x:=accText ((st.2.1++[pr]).take j)) (Nat.le_trans (accText_le fun x hx=>hs x (List.mem_of_mem_take hx)) (Nat.le_trans (Nat.mul_le_mul_left 18 (Nat.le_trans (List.take_sublist ..).length_le hn)) (Nat.le_trans (Nat.le_add_left ..) (sq_le c))))
   exact ⟨Nat.le_trans (List.drop_sublist ..).length_le hn,fun x hx=>hs x (List.mem_of_mem_drop hx),zero,q.l,q.m⟩
 ·rw [if_neg e]; exact plain
end
end
section
noncomputable def chunksB (head place:Int) (word:Str):Bool:=word != es0&&((head+place).fmod 2==0&&true)
noncomputable def chunksF (head place:Int) (word:Str):List (Str×Str):=if chunksB head place word=true then [(sp1,es0),(es0,word)] else [(sp1,word)]
noncomputable def feedC (mx:Int) (st:Pst) (chs:List (Str×Str)):Pst:=chs.foldl (acF mx) st
noncomputable abbrev feedW (mx head:Int) (k:Nat) (x:Str) (st:Pst):Pst:=feedC mx st (chunksF head k x)
noncomputable def pgSts (mx head:Int) (ws:List Str):Nat→Pst→List Pst:=ws.rec (fun _ _=>[]) fun x _ ih k st=>feedW mx head k x st::ih (k+1) (feedW mx head k x st)
noncomputable def pgEnd (mx head:Int) (ws:List Str):Nat→Pst→Pst:=ws.rec (fun _ st=>st) fun x _ ih k st=>ih (k+1) (feedW mx head k x st)
noncomputable abbrev seenD (st:Pst):D:=.tup [.int st.1.length,.int (accLen st.2.1 st.2.2)]
noncomputable abbrev okW (ws:List Str):Prop:=∀ x∈ws,x.length≤8∧PyData.strOk x=true
section
variable {c k:Nat}{st:Pst}{mx head place:Int}{x:Str}{chs:List (Str×Str)}{ws:List Str}
theorem SmN.up {c':Nat}(h:SmN c st) (hc:c≤c'):SmN c' st:=⟨Nat.le_trans h.n hc,h.p,h.i,Nat.le_trans h.l hc,fun x hx=>Nat.le_trans (h.m x hx) (Nat.mul_le_mul_left _ (Nat.mul_le_mul hc hc))⟩
theorem chunksF_ok (h:x.length≤8∧PyData.strOk x=true):∀ y∈chunksF head place x,P9 y:=by
 unfold chunksF
 by_cases e:chunksB head place x=true
 ·rw [if_pos e]
  exact fun y hy=>(List.mem_cons.mp hy).elim (fun z=>z▸p9_sp) fun hy=>List.mem_singleton.mp hy▸⟨⟨p9_sp.1.2,Nat.le_succ_of_le h.1⟩,p9_sp.2.2,h.2⟩
 ·rw [if_neg e]
  exact fun y hy=>List.mem_singleton.mp hy▸⟨⟨p9_sp.1.1,Nat.le_succ_of_le h.1⟩,p9_sp.2.1,h.2⟩
theorem chunksF_len:(chunksF head place x).length≤2:=by
 unfold chunksF
 by_cases e:chunksB head place x=true
 ·rw [if_pos e]; exact Nat.le_refl _
 ·rw [if_neg e]; exact Nat.le_succ _
theorem feed_small:∀ {c:Nat}{st:Pst},SmN c st→(∀ y∈chs,P9 y)→SmN (c+chs.length) (feedC mx st chs):=by
 induction chs with
 | nil=>exact fun h _=>h
 | cons y chs ih=>exact fun {c st} h hp=>(Nat.add_right_comm c 1 chs.length:c+1+chs.length=c+(chs.length+1))▸ih (acF_small h (hp y (.head _))) fun z hz=>hp z (.tail _ hz)
theorem feedW_small (h:SmN c st) (hx:x.length≤8∧PyData.strOk x=true):SmN (c+2) (feedW mx head k x st):=(feed_small h (chunksF_ok hx)).up (Nat.add_le_add_left chunksF_len c)
theorem pgEnd_small:∀ {c k:Nat}{st:Pst},SmN c st→okW ws→SmN (c+2*ws.length) (pgEnd mx head ws k st):=by
 induction ws with
 | nil=>exact fun h _=>h
 | cons x ws ih=>exact fun {c k st} h hx=>(ih (feedW_small (head:=head) (k:=k) h (hx x (.head _))) fun z hz=>hx z (.tail _ hz)).up (by rw [List.length_cons,Nat.mul_succ]; exact Nat.le_of_eq (by rw [Nat.add_right_comm,Nat.add_assoc]))
end
noncomputable abbrev lpB:List Stmt:=bodyOf (fn1 "_law_page")
noncomputable abbrev lpSc:Scope:=scopeOf (fn1 "_law_page")
noncomputable abbrev lpOut:Stmt:=nth lpB 1
noncomputable abbrev lpIn:Stmt:=nth (stP lpOut).body 1
noncomputable abbrev pgX (CV CA:Addr) (q:Pg) (p:PgP) (av:List Addr):Wo Pst:={ pgW CV CA q p with av:=av }
noncomputable abbrev σpg (m:Addr) (head mx:Int) (ws:List Str) (seen:List D):Sto:=[(Str.ofString "seen",.own seen),(Str.ofString "maker",.val (.adr m)),(Str.ofString "head",.val (.int head)),(Str.ofString "width",.val (.int mx)),(Str.ofString "words",.val (.lst (ws.map .str)))]
section
variable {prog:Program}{w:World}{g g':Heap}{T:Tabs}{K:Frag}{n c k:Nat}{q:Pg}{p:PgP}{σ:Sto}{a:AccF}{b:FmtF}{sc:Scope}{st st':Pst}{chs:List (Str×Str)}{av:List Addr}{f x:Str}{mx head:Int}{ws:List Str}{p0 p1 pos:Pos}{ds:List D}{fn:Addr}{d:D}{seen:List D}
theorem pgX_ok {CV CA:Addr}(hU:∀ b,q.U b→g.get? b=none) (hl:q.l∈av):(pgX CV CA q p av).Ok g:={ pgW_ok hU with seq:=fun i h w b o u e s=>List.mem_singleton.mp ((pgW_ok hU).seq i h w b o u e s)▸hl }
theorem RunU.page {CV CA:Addr}(h:ClU prog w g T n fn (pgW CV CA q p) st ds d st') (hd:Flat d) (hl:q.l∈av):RunU prog w g T n σ fn (pgX CV CA q p av) st ds d st':=⟨fun A s ow env vs rm Z hv =>
 wp_to (h.run A s vs rm Z.F.gk Z.w (PageAt.avl Z.w).ok (hv.sub fun b hb=>List.mem_append_right _ (List.mem_singleton.mp hb▸hl))) fun v s' q=>by cases q with | mk m r w=>exact ⟨m,hd _ _ _ (r.sub (av':=[]) nofun),w⟩⟩
theorem cl_len_at {vs:List Value}{l kk:Nat}(hg:Glb g f (.builtin "len")) (ho:g.get? l=some (lstO vs kk)) (hz:vs.length≤lim):ClV prog w g T n f [.adr l] (.int vs.length):=⟨_,hg,.bi _,fun A s av us rm q hav hv=>by
 cases hv.one1 with | mk r =>
 cases r.i1
 exact PyProof.Rows.len_list ⟨_,q.keep _ _ ho,rfl,_,rfl⟩ (by rw [List.size_toArray]; exact lim63 hz) (by rw [List.size_toArray]; exact out_int)⟩
end
end
section
section
variable {prog:Program}{w:World}{g g':Heap}{T:Tabs}{K:Frag}{n c k:Nat}{q:Pg}{p:PgP}{σ:Sto}{a:AccF}{b:FmtF}{sc:Scope}{st st':Pst}{chs:List (Str×Str)}{av:List Addr}{f x:Str}{mx head:Int}{ws:List Str}{p0 p1 pos:Pos}{fn:Addr}{d:D}{seen:List D}
variable (B:FmtFns prog w K g T a b) (hU:∀ x,q.U x→g.get? x=none) (hsp:p.sp=sp1)
include B hU hsp
noncomputable abbrev σin (σ:Sto) (place:Int) (x:Str) (chs:List (Str×Str)):Sto:=(Str.ofString "chunks",.val (.lst (chs.map chD)))::(Str.ofString "word",.val (.str x))::(Str.ofString "place",.val (.int place))::σ
theorem ev_append {pr:Str×Str}{p2 p3:Pos}(hl:q.l∈av) (hs:σ.lookup (Str.ofString "maker")=some (.val (.adr q.m))) (h1:σ.lookup (Str.ofString "blank")=some (.val (.str pr.1))) (h2:σ.lookup (Str.ofString "letters")=some (.val (.str pr.2))) (hm:IsMeth (.Name "maker" p0) "_append_chunk" p1 [.Name "blank" p2,.Name "letters" p3] pos) (hz:Small st) (hp:P9 pr) :
  EvU prog w g T (n+8) sc (pgX b.CV a.CA q p av) st σ (.Call (.Attribute (.Name "maker" p0) "_append_chunk" p1) [.Name "blank" p2,.Name "letters" p3] [] pos) .none (acF p.mx st pr) :=
 .own (pgX_ok hU hl) B.A.X B.apc.kee hm (fun _=>rfl) (fun _ _ _=>Ev.name hs) (finds_pg B B.apc (by decide)) (fun _ _ _=>.more (fun _=>rfl) (Ev.name h1) (.more (fun _=>rfl) (Ev.name h2) .nil)) (.page (cl_append B hU hsp hz ⟨Nat.le_trans hp.1.1 (by decide),Nat.le_trans hp.1.2 (by decide)⟩) flat_none hl)
theorem feed_loop {place:Int}{all:List (Str×Str)}(hl:q.l∈av) (hp:∀ y∈chs,P9 y):∀ {c:Nat}{st:Pst},SmN c st→c+chs.length≤400 →
  ForU prog w g T (n+8) lpSc (pgX b.CV a.CA q p av) (stP lpIn).test (stP lpIn).body (fun σ' j'=>σ'=σin (σpg q.m head mx ws seen) place x all∧j'=feedC p.mx st chs) (chs.map chD) (σin (σpg q.m head mx ws seen) place x all) st:=by
 induction chs with
 | nil=>exact fun h _=>⟨rfl,rfl⟩
 | cons y chs ih =>
  intro c st h hc
  have ok:∀ fp,((pgX b.CV a.CA q p av).on fp).Ok g:=(pgX_ok hU hl).on
  have hc':c+1+chs.length≤400:=(Nat.add_right_comm c 1 chs.length).symm▸hc
  exact .mk _ _ _ (.tup (.cons (.cons .nil))) (stAll_of rfl) (fun fp=>SxUL.post (SxUL.cons (ok fp) (SxU.expr (ok fp) (ev_append (pr:=y) (av:=fp++av) B hU hsp (List.mem_append_right _ hl) rfl rfl rfl (fun _=>⟨_,rfl⟩) (h.small (Nat.le_trans (Nat.le_trans (Nat.le_succ c) (Nat.le_add_right _ _)) hc')) (hp y (.head _))) (fun _ _ _=>rfl)) SxUL.nil) (.cons rfl (.cons rfl (.cons rfl (.cons rfl (.cons rfl (.cons rfl (.cons rfl (.cons rfl .nil))))))))) (ih (fun z hz=>hp z (.tail _ hz)) (acF_small h (hp y (.head _))) hc')
omit B hU hsp in
theorem lp_chunks {place:Int}(hh:σ.lookup (Str.ofString "head")=some (.val (.int head))) (hp:σ.lookup (Str.ofString "place")=some (.val (.int place))) (hw:σ.lookup (Str.ofString "word")=some (.val (.str x))) :
  Sx prog w g T (n+1) lpSc σ (nth (stP lpOut).body 0) (.next ((Str.ofString "chunks",.val (.lst ((chunksF head place x).map chD)))::σ)):=by
 have two:∀ {e1 e2:Expr}{a b:Str},NoSt e1→NoSt e2→Ev prog w g T (n+1) lpSc σ e1 (.str a)→Ev prog w g T (n+1) lpSc σ e2 (.str b)→∀ {kk:Nat}{p:Pos},Ev prog w g T (n+1) lpSc σ (.Tuple [e1,e2] kk p) (chD (a,b)):=fun h1 h2 k1 k2=>Ev.tup (EvL.more (h1 _) k1 (EvL.more (h2 _) k2 EvL.nil)) (show (2:Nat)≤lim by decide)
 have e:D.lst ((chunksF head place x).map chD)=if chunksB head place x then .lst [chD (sp1,es0),chD (es0,x)] else .lst [chD (sp1,x)]:=by
  unfold chunksF
  cases chunksB head place x <;> rfl
 rw [e]
 exact Sx.assign (Ev.ite2 (EvT.bool (EvA.and_cons (EvT.cmp (Ev.name hw) Ev.str rfl cmp_neS) fun _=>EvA.and_cons (EvT.cmp (Ev.bin (Ev.bin (Ev.name hh) (Ev.name hp) bin_add) Ev.int (bin_mod (by decide))) Ev.int rfl cmp_eq) fun _=>EvA.and_nil))
  (fun _=>Ev.list (EvL.more (fun _=>rfl) (two (fun _ _=>rfl) (fun _ _=>rfl) Ev.str Ev.str) (EvL.more (fun _=>rfl) (two (fun _ _=>rfl) (fun _ _=>rfl) Ev.str (Ev.name hw)) EvL.nil)) (show (2:Nat)≤lim by decide))
  (fun _=>Ev.list (EvL.more (fun _=>rfl) (two (fun _ _=>rfl) (fun _ _=>rfl) Ev.str (Ev.name hw)) EvL.nil) (show (1:Nat)≤lim by decide))) (fun _ _ _=>rfl) rfl
theorem ev_seen {up:∀ b o,g.get? b=some o→g'.get? b=some o}(P:PageAt b.CV a.CA g' q p st) (hz:Small st) (hs:σ.lookup (Str.ofString "maker")=some (.val (.adr q.m))) {p2 p3 p4 p5 p6 p7:Pos}{kk:Nat}:Ev prog w g' T (n+4) lpSc σ (.Tuple [.Call (.Name "len" p0) [.Attribute (.Name "maker" p1) "_lines" p2] [] p3,.Call (.Name "len" p4) [.Attribute (.Name "maker" p5) "_current_line" p6] [] p7] kk pos) (seenD st):=by
 have e:∀ {ts:List (Str×Tok)}{kl:Nat},g'.get? q.l=some (lstO (strValues ts) kl)→ts.map (·.1)=st.1→ClV prog w g' T (n+4) "len" [.adr q.l] (.int st.1.length):=fun {ts kl} o e=>by
  have h:(strValues ts).length=st.1.length:=by rw [← e,strValues,List.length_map,List.length_map]
  exact h▸cl_len_at (B.A.glen.up up) o (h▸Nat.le_trans hz.l (by decide))
 refine Ev.tup (EvL.more (fun _=>rfl) (Ev.call rfl (EvL.more (fun _=>rfl) (Ev.pg B up P (fun _=>rfl) (Ev.name hs) .ln) EvL.nil) ?_) (EvL.more (fun _=>rfl) (Ev.call rfl (EvL.more (fun _=>rfl) (Ev.pg B up P (fun _=>rfl) (Ev.name hs) .cu) EvL.nil) (cl_lenAcc (n:=n) (pg_in B hz.sp hz.i up P))) EvL.nil)) (show (2:Nat)≤lim by decide)
 cases P with | mk es kd ts kl H l el ac=>exact e l el
theorem lp_outer (genum:Glb g "enumerate" (.type "enumerate")) (hl:q.l∈av):∀ {xs:List Str}{c k:Nat}{st:Pst}{seen:List D},SmN c st→okW xs→c+2*xs.length≤400→seen.length+xs.length≤400 →
  ForU prog w g T (n+8) lpSc (pgX b.CV a.CA q p av) (stP lpOut).test (stP lpOut).body (fun σ' j'=>σ'=σpg q.m head mx ws (seen++(pgSts p.mx head xs k st).map seenD)∧j'=pgEnd p.mx head xs k st) (numbered k (xs.map .str)) (σpg q.m head mx ws seen) st:=by
 intro xs
 induction xs with
 | nil=>exact fun _ _ _ _=>⟨by rw [show pgSts p.mx head [] _ _=[] from rfl,List.map_nil,List.append_nil],rfl⟩
 | cons x xs ih =>
  intro c k st seen h hx hc hs
  have ok:∀ fp,((pgX b.CV a.CA q p av).on fp).Ok g:=(pgX_ok hU hl).on
  have h2:=feedW_small (mx:=p.mx) (head:=head) (k:=k) h (hx x (.head _))
  have hc2:c+2+2*xs.length≤400:=by rw [List.length_cons,Nat.mul_succ] at hc; omega
  have hc3:c+2≤400:=Nat.le_trans (Nat.le_add_right _ _) hc2
  have hs2:seen.length≤400:=Nat.le_trans (Nat.le_add_right _ _) hs
  have hs3:(seen++[seenD (feedW p.mx head k x st)]).length+xs.length≤400:=by rw [List.length_append,List.length_singleton,Nat.add_assoc,Nat.add_comm 1]; exact hs
  have go:=ih (k:=k+1) h2 (fun z hz=>hx z (.tail _ hz)) hc2 hs3
  rw [List.append_assoc] at go
  exact .mk _ _ _ (.tup (.cons (.cons .nil))) (stAll_of rfl) (fun fp=>SxUL.post (SxUL.cons (ok fp) (SxU.next (ok fp) fun g' up P=>lp_chunks (n:=n+7) rfl rfl rfl) (SxUL.cons (ok fp) (SxU.for (ok fp) (EvI.list (Ev.name rfl)) (fun _ _=>rfl) (feed_loop (av:=fp++av) B hU hsp (List.mem_append_right _ hl) (chunksF_ok (hx x (.head _))) h (Nat.le_trans (Nat.add_le_add_left chunksF_len c) hc3))) (SxUL.cons (ok fp) (SxU.next (ok fp) fun g' up P=>Sx.append rfl (fun _=>rfl) rfl (ev_seen (n:=n+4) (up:=up) B hU hsp P (h2.small hc3) rfl) (Nat.le_trans hs2 (by decide))) SxUL.nil)))
   (.cons rfl (.cons rfl (.cons rfl (.cons rfl (.cons rfl .nil)))))) go
end
end
section
section
variable {ι:Type}{prog:Program}{w:World}{g:Heap}{T:Tabs}{n:Nat}{sc:Scope}{W:Wo ι}{i:ι}{σ:Sto}{e:Expr}{d:D}{pos:Pos}{x:Str}{ow:Ow}{env:Env}{b P:Addr}
theorem MtU.retE {d:D}{j:ι}{fl:Flow}{s s':Shared}{Q:Flow→Prop}(h:MtU W g T ow env s (.ret d) j fl s') (k:∀ v,VD W.av s'.heap v d→Mv g T (fun b=>Wr env ow b∨W.U b) s s'→W.Ω j s'.heap→Q (.ret v)):Q fl:=by cases h with | ret r m w=>exact k _ r m w
theorem MtU.nextE {σ₁:Sto}{j:ι}{fl:Flow}{s s':Shared}{Q:Flow→Prop}(h:MtU W g T ow env s (.next σ₁) j fl s') (k:NxU W.U g T W.av ow env s σ₁ s'→W.Ω j s'.heap→Q .next):Q fl:=by cases h with | next n w=>exact k n w
theorem SxU.retF (ok:W.Ok g) (h:Over g W i fun g'=>Ev prog w g' T n sc (froz σ) e d):SxU prog w g T n sc W i σ (.Return (some e) pos) (.ret d) i:=fun A s ow env he hoc rm Z =>
 wpAny_Return_some (wp_to (FmW.over ok Z.F.gk Z.w h A s _ env he rm (Z.F.gk.core .refl) Z.F.froz) fun v s₁ h₁=>by
  have x:=h₁.1.base (g:=g) (Z.F.gk.core .refl)
  exact .ret h₁.2 x.mv (ok.ext x Z.F.gk Z.w))
theorem wr_add' (h:Wr env (ow.add x P) b):Wr env ow b∨b=P:=by
 rcases h with q | q | q
 ·exact .inl (.inl q)
 ·exact .inl (.inr (.inl q))
 ·exact (List.mem_cons.mp q).elim .inr fun q=>.inl (.inr (.inr (Ow.adr_drop q)))
end
section
variable {prog:Program}{w:World}{g:Heap}{T:Tabs}{K:Frag}{n:Nat}{s s₁:Shared}{A:Around}{σ:Sto}{ow:Ow}{env:Env}{av:List Addr}{a:AccF}{b:FmtF}{p:PgP}{hl mx head:Int}{ws:List Str}{f:Addr}{vs:List Value}{st:Pst}{seen:List D}
inductive PgL (g:Heap) (T:Tabs) (CV CA:Addr) (p:PgP) (hl:Int) (av:List Addr) (s:Shared):List Addr→List D→List Value→Shared→Prop
 | mk {q:Pg}{P k:Nat}{s₁:Shared}(x:Ext g T s s₁) (hq:∀ b,q.all b→s.heap.get? b=none) (pg:PageAt CV CA s₁.heap q p ([],[],hl)) (hP:s.heap.get? P=none) (hn:¬ q.all P) (ho:s₁.heap.get? P=some (lstO [] k)):PgL g T CV CA p hl av s ([P]++([q.l]++av)) [.adr q.m,.adr P] [.ref q.m,.ref P] s₁
inductive PgMade (W:Addr→Prop) (g:Heap) (T:Tabs) (CV CA:Addr) (p:PgP) (st:Pst) (seen:List D) (av:List Addr) (s:Shared):Value→Shared→Prop
 | mk {v:Value}{s':Shared}(q:Pg) (hq:∀ x,q.all x→s.heap.get? x=none) (x:Mv g T W s s') (r:VD av s'.heap v (.tup [.adr q.m,.lst seen])) (P:PageAt CV CA s'.heap q p st):PgMade W g T CV CA p st seen av s v s'
noncomputable def tabS:Str:=Str.ofString "\t"
noncomputable abbrev pgP (mx:Int):PgP:=⟨mx,tabS,sp1⟩
variable (B:FmtFns prog w K g T a b) (gfmt:Glb g "_ValueFormatter" (.ref b.CV)) (kfmt:keepIn K (.ref b.CV)=true)
include B gfmt kfmt
theorem ev_newPage (h1:σ.lookup (Str.ofString "head")=some (.val (.int head))) (h2:σ.lookup (Str.ofString "width")=some (.val (.int mx))) (he:env.scope=lpSc) (rm:Rm (n+7) A) (F:Fm g T av ow env σ s) {ee:Expr}(hE:(stP (nth lpB 0)).test=ee) :
  wpAny (model prog w) A (eval ee env) (TupV (PgL g T b.CV a.CA (pgP mx) head av s)) NoE s:=by
 subst hE
 refine wpAny_Tuple (wpAny_items_cons (wp_callK (n:=n+7) rfl gfmt kfmt B.A.X (EvL.more (fun _=>rfl) (Ev.name h1) (EvL.more (fun _=>rfl) (Ev.name h2) (EvL.more (fun _=>rfl) Ev.str (EvL.more (fun _=>rfl) Ev.str EvL.nil)))) he rm F.gk F.ec fun us s₁ x₁ r₁=>?_) rfl)
 have g₁:=x₁.gk F.gk
 refine wp_to (page_new (n:=n) (p:=pgP mx) (hl:=head) B rm g₁ (by decide:tabS.length≤1000) (r₁.sub (av':=[]) nofun)) fun v s₂ h₂=>?_
 cases h₂ with | mk q hq x₂ pg =>
 have x₁₂:=x₁.trans x₂
 have hq':∀ b,q.all b→s.heap.get? b=none:=fun b hb=>x₁.none F.gk (hq b hb)
 have ok:=pgW_ok (CV:=b.CV) (CA:=a.CA) (q:=q) (p:=pgP mx) fun b hb=>F.gk.new (hq' b (.inr (.inr hb)))
 refine wpAny_items_cons (wp_to (EvO.list EvL.nil (Nat.zero_le _) A s₂ _ env he rm (x₁₂.gk F.gk) (F.ext x₁₂).ec) fun v s₃ h₃=>?_) rfl
 cases h₃ with | @mk P vs k _ x₃ hn ho hd =>
 cases hd.i0
 have x:=x₁₂.trans x₃
 have g₃:=x.gk F.gk
 have y:Ext g T s₃ { s₃ with heap:=s₃.heap.push (tupO [.ref q.m,.ref P] 0) }:=.push _
 refine wpAny_items_nil ⟨(by decide:2≤sizeLine),.mk (m:=0) (Heap.get?_push_size _ rfl) (.mk (x.trans y) hq' (ok.ext (x₃.trans y) (x₁₂.gk F.gk) pg) (x₁₂.none F.gk hn) (fun h=>?_) (y.get' g₃ ho (nt_lst _ _)))⟩
 exact (ok.obj _ _ pg P h).elim fun o z=>nos hn z.1
omit gfmt kfmt in
theorem page_run {q:Pg}(genum:Glb g "enumerate" (.type "enumerate")) (hU:∀ b,q.U b→g.get? b=none) (hh:0≤head∧head≤1000) (hx:okW ws) (hz:2*ws.length≤400):SxUL prog w g T (n+8) lpSc (pgX b.CV a.CA q (pgP mx) ([q.l]++av)) ([],[],head) (σpg q.m head mx ws []) (lpB.drop 1) (.ret (.tup [.adr q.m,.lst ((pgSts mx head ws 0 ([],[],head)).map seenD)])) (pgEnd mx head ws 0 ([],[],head)) :=
 have ok:=pgX_ok (CV:=b.CV) (CA:=a.CA) (p:=pgP mx) (av:=[q.l]++av) hU (.head _)
 have sm:SmN 0 (([],[],head):Pst):=⟨Nat.le_refl _,fun _ h=>(List.not_mem_nil h).elim,hh,Nat.le_refl _,fun _ h=>(List.not_mem_nil h).elim⟩
 SxUL.cons ok (SxU.for ok (EvI.enum rfl genum (fun _ _=>rfl) (Ev.name rfl)) (fun _ _=>rfl) (lp_outer (n:=n) (seen:=[]) (mx:=mx) (head:=head) (ws:=ws) B hU rfl genum (.head _) sm hx (Nat.zero_add _▸hz) (by rw [List.length_nil,Nat.zero_add]; omega))) (SxUL.last (SxU.retF ok fun g' up P=>Ev.tup (EvL.more (fun _=>rfl) (Ev.name rfl) (EvL.more (fun _=>rfl) (Ev.name rfl) EvL.nil)) (show (2:Nat)≤lim by decide)))
noncomputable abbrev σlp (head mx:Int) (ws:List Str):Sto:=params ["head", "width", "words"] [.int head,.int mx,.lst (ws.map .str)]
theorem page_body (E:FnEnv AnyP lpSc [] env) (hoc:ow.c=cellNames lpSc.names) (rm:Rm (n+7) A) (F:Fm g T av ow env (σlp head mx ws) s)
  (run:∀ q:Pg,(∀ b,q.U b→g.get? b=none)→SxUL prog w g T (n+7) lpSc (pgX b.CV a.CA q (pgP mx) ([q.l]++av)) ([],[],head) (σpg q.m head mx ws []) (lpB.drop 1) (.ret (.tup [.adr q.m,.lst seen])) st) :
  wpAny (model prog w) A (execs lpB env) (fun fl s'=>PgMade (Wr env ow) g T b.CV a.CA (pgP mx) st seen av s (flowV fl) s') NoE s:=by
 show wpAny (model prog w) A (execs (nth lpB 0::lpB.drop 1) env) _ NoE s
 refine wpAny_execs_cons (wp_to (tup_names (g:=g) (T:=T) (σ:=σlp head mx ws) (xs:=["maker", "seen"]) (Z:=PgL g T b.CV a.CA (pgP mx) head av s) E.sc_ rm (ev_newPage (n:=n) B gfmt kfmt rfl rfl E.sc_ rm F rfl) (fun {_ _ _ s₁ h'} z hk=>?_) (.cons (.cons .nil)) rfl (by decide) (by rw [hoc]; rfl) fun av' ds us s₁ z=>?_) fun fl s₂ h₂=>?_)
 ·cases z with | mk x hq pg hP hn ho =>
  have y:=Ext.of (g:=g) (T:=T) _ s₁.toks hk
  exact .mk (x.trans y) hq ((pgW_ok fun b hb=>F.gk.new (hq b (.inr (.inr hb)))).ext y (x.gk F.gk) pg) hP hn (hk _ _ ho)
 ·cases z with | @mk q P k _ x hq pg hP hn ho =>
  refine ⟨F.grow (fp:=[P,q.l]) x (fun b hb=>?_) fun b hb=>?_,.cons (.adr _) (.cons (.adr _) .nil),rfl⟩
  ·exact (List.mem_cons.mp hb).elim (fun e=>e▸hP) fun hb=>List.mem_singleton.mp hb▸hq _ (.inr (.inr (.inl rfl)))
  ·exact (List.mem_cons.mp hb).elim (fun e=>e▸⟨_,ho,nt_lst _ _⟩) fun hb=>(PageAt.avl pg b hb).elim fun _ z=>z.elim fun _ e=>⟨_,e,nt_lst _ _⟩
 cases h₂ with | @mk _ _ _ s₁ _ z as =>
 cases z with | @mk q P k _ x hq pg hP hn ho =>
 cases as with | mk ow' c F₂ m hw l =>
 have hU:∀ b,q.U b→g.get? b=none:=fun b hb=>F.gk.new (hq b (.inr (.inr hb)))
 have ok:=pgX_ok (CV:=b.CV) (CA:=a.CA) (p:=pgP mx) (av:=[q.l]++av) hU (.head _)
 have nw:∀ b,q.all b→¬ Wr env ow b:=fun b hb h=>(F.wr_ex h).elim fun o e=>nos (hq b hb) e
 have nP:¬ Wr env ow P:=fun h=>(F.wr_ex h).elim fun o e=>nos hP e
 have F₁:=F.ext x
 have pg₂:=ok.mv (i:=([],[],head)) m F₁.gk pg (fun b hb hp=>nw b hp hb) (F₁.tupK m fun _ h=>h)
 have F₃:=(F₂.adopt (x := "seen") (ds:=[]) rfl (fun h=>(List.mem_cons.mp h).elim (fun e=>hn (e▸.inr (.inr (.inl rfl)))) fun h=>(F.ec.avok P (List.mem_append_right _ h)).elim fun o z=>nos hP z.1) (F.gk.new hP) (m.get' F₁.gk ho nP (nt_lst _ _)) .nil).weak (σ':=σpg q.m head mx ws []) ?_
 ·have Z:FmW (pgX b.CV a.CA q (pgP mx) ([q.l]++av)) g T (ow'.add "seen" P) env _ s₂ ([],[],head):=⟨F₃,pg₂,fun b hb h=>(wr_add' h).elim (fun h=>nw b hb (hw b h)) fun e=>hn (e▸hb),fun y d e=>nomatch (E.cells y fun h=>nomatch (rfl:cellNames lpSc.names=[])▸mem_cellNames.mpr h).symm.trans e⟩
  exact wp_to (run q hU A s₂ (ow'.add "seen" P) env E.sc_ (c.trans hoc) rm Z) fun fl s₃ h₃=>h₃.retE (Q:=fun fl=>PgMade _ _ _ _ _ _ _ _ _ _ (flowV fl) _) fun v r m₃ w₃=>⟨q,hq,(x.mv.trans m fun _ h=>.inl h).trans m₃ fun b hb=>hb.elim (fun h=>(wr_add' h).elim (fun h=>.inl (hw b h)) fun e=>.inr (e▸hP)) fun h=>.inr (hq b (.inr (.inr h))),r.sub fun _ h=>List.mem_append_right _ h,w₃⟩
 ·exact Sub.cons rfl (.cons rfl (.cons rfl (.cons rfl (.cons rfl .nil))))
end
end
section
structure Pgs (CV CA:Addr) (p:PgP) (h:Heap) (qs:List Pg) (sts:List Pst):Prop where
 len:qs.length=sts.length
 at_:∀ (j:Nat) (q:Pg) (st:Pst),qs[j]?=some q→sts[j]?=some st→PageAt CV CA h q p st
 apart:∀ (j k:Nat) (q q':Pg),qs[j]?=some q→qs[k]?=some q'→j≠k→∀ x,q.all x→¬ q'.all x
noncomputable abbrev pgsW (CV CA:Addr) (p:PgP) (qs:List Pg) (av:List Addr):Wo (List Pst):={ av:=av,P:=fun b=>∃ q∈qs,q.all b,U:=fun b=>∃ q∈qs,q.U b,Ω:=fun sts h=>Pgs CV CA p h qs sts }
section
variable {g:Heap}{T:Tabs}{CV CA:Addr}{p:PgP}{h h' h0:Heap}{qs:List Pg}{sts:List Pst}{q:Pg}{st:Pst}{av:List Addr}{s s':Shared}{b:Addr}
theorem Pgs.has (P:Pgs CV CA p h qs sts) (hq:q∈qs):∃ st,PageAt CV CA h q p st:=by
 obtain ⟨j,hj⟩:=List.getElem?_of_mem hq
 have hl:j<sts.length:=P.len▸(List.getElem?_eq_some_iff.mp hj).1
 exact ⟨_,P.at_ j q _ hj (List.getElem?_eq_getElem hl)⟩
theorem pgsW_ok (hU:∀ q∈qs,∀ b,q.U b→g.get? b=none) (hl:∀ q∈qs,q.l∈av):(pgsW CV CA p qs av).Ok g where
 up:=fun b hb=>hb.imp fun q z=>⟨z.1,.inr (.inr z.2)⟩
 off:=fun b hb=>hb.elim fun q z=>hU q z.1 b z.2
 obj:=fun st h hw b hb=>hb.elim fun q z=>(Pgs.has hw z.1).elim fun st P=>page_obj P z.2
 seq:=fun st h hw b o hb eo so=>hb.elim fun q z=>(Pgs.has hw z.1).elim fun st P=>page_seq P z.2 eo so▸hl q z.1
 st:=fun sts h h' hw hk tk=>⟨hw.len,fun j q st e e'=>page_st (hw.at_ j q st e e') (fun b o hb=>hk b o ⟨q,List.mem_of_getElem? e,hb⟩) tk,hw.apart⟩
theorem snoc_at {α:Type}{l:List α}{x y:α}{j:Nat}(h:(l++[x])[j]?=some y):l[j]?=some y∨j=l.length∧y=x:=by
 rw [List.getElem?_append] at h
 by_cases c:j<l.length
 ·rw [if_pos c] at h; exact .inl h
 ·rw [if_neg c] at h
  have:=(List.getElem?_eq_some_iff.mp h).1
  have e:j=l.length:=Nat.le_antisymm (by rw [List.length_singleton] at this; omega) (Nat.not_lt.mp c)
  subst e
  rw [Nat.sub_self] at h
  exact .inr ⟨rfl,(Option.some.inj h).symm⟩
theorem Pgs.snoc (P:Pgs CV CA p h' qs sts) (P₀:Pgs CV CA p h qs sts) (n:PageAt CV CA h' q p st) (hf:∀ x,q.all x→h.get? x=none):Pgs CV CA p h' (qs++[q]) (sts++[st]) where
 len:=by rw [List.length_append,List.length_append,P.len]; rfl
 at_:=fun j q' st' e e'=>by
  rcases snoc_at e with e | ⟨rfl,rfl⟩
  ·rcases snoc_at e' with e' | ⟨rfl,rfl⟩
   ·exact P.at_ j q' st' e e'
   ·exact absurd (List.getElem?_eq_some_iff.mp e).1 (Nat.not_lt.mpr (Nat.le_of_eq P.len))
  ·rcases snoc_at e' with e' | ⟨_,rfl⟩
   ·exact absurd (List.getElem?_eq_some_iff.mp e').1 (Nat.not_lt.mpr (Nat.le_of_eq P.len.symm))
   ·exact n
 apart:=fun j k q1 q2 e1 e2 ne x h1 h2=>by
  have old:∀ {j:Nat}{q':Pg},qs[j]?=some q'→q'.all x→¬ q.all x:=fun e h1 h2=>(P₀.has (List.mem_of_getElem? e)).elim fun _ z=>(page_obj z h1).elim fun _ z=>nos (hf x h2) z.1
  rcases snoc_at e1 with f1 | ⟨rfl,r1⟩
  ·rcases snoc_at e2 with f2 | ⟨_,r2⟩
   ·exact P.apart j k q1 q2 f1 f2 ne x h1 h2
   ·exact old f1 h1 (r2▸h2)
  ·rcases snoc_at e2 with f2 | ⟨rfl,_⟩
   ·exact old f2 h2 (r1▸h1)
   ·exact ne rfl
end
inductive NS:D→Prop
 | int (i:Int):NS (.int i)
 | adr (a:Addr):NS (.adr a)
 | tup {ds:List D}(h:∀ d∈ds,NS d):NS (.tup ds)
 | lst {ds e:List D}(h:∀ d∈.tup e::ds,NS d):NS (.lst (.tup e::ds))
theorem VDs.each {av av':List Addr}{h:Heap}{ds:List D}(k:∀ d∈ds,∀ {v},VD av h v d→VD av' h v d):∀ {vs:List Value},VDs av h vs ds→VDs av' h vs ds:=by
 induction ds with
 | nil=>exact fun r=>r.i0▸.nil
 | cons d ds ih =>
  intro vs r
  cases r.i1 with | mk a r₁=>exact .cons (k d (.head _) a) (ih (fun e he=>k e (.tail _ he)) r₁)
theorem lst_same {us vs:List Value}{k n:Nat}(e:lstO us k=lstO vs n):us=vs:=by
 have e:Data.seq us.toArray k=.seq vs.toArray n:=congrArg Obj.data e
 injection e with e _
 exact congrArg Array.toList e
theorem NS.away {av fp:List Addr}{h:Heap}(hl:∀ a∈fp,∃ ts k,h.get? a=some (lstO (strValues ts) k)) {d:D}(z:NS d):∀ {v:Value},VD av h v d→VD (fp++av) h v d:=by
 induction z with
 | int i=>exact fun r=>flat_int _ _ _ (r.sub (av':=[]) nofun)
 | adr a=>exact fun r=>flat_adr _ _ _ (r.sub (av':=[]) nofun)
 | tup _ ih =>
  intro v r
  cases r.i7 with | mk na e q =>
  exact .tup (fun hm=>(List.mem_append.mp hm).elim (fun hm=>(hl _ hm).elim fun ts p=>p.elim fun k e'=>disc tgP (e.symm.trans e') rfl) na) e (q.each fun d hd=>ih d hd)
 | lst _ ih =>
  intro v r
  cases r.i8 with | mk na e q =>
  refine .lst (fun hm=>(List.mem_append.mp hm).elim (fun hm=>(hl _ hm).elim fun ts p=>p.elim fun k e'=>?_) na) e (q.each fun d hd=>ih d hd)
  cases q.i1 with | mk a _ =>
  cases a.i7 with | mk _ _ _ =>
  cases ts with
  | nil=>exact nomatch lst_same (sinj e e')
  | cons t ts=>exact nomatch lst_same (sinj e e')
end
section
noncomputable abbrev pgD (q:Pg) (seen:List D):D:=.tup [.adr q.m,.lst seen]
structure PgJ (CV CA:Addr) (p:PgP) (h0:Heap) (st:Int→Pst) (sn:Int→List D) (hs:List Int) (qs:List Pg) (outs:List D) (h:Heap):Prop where
 pg:Pgs CV CA p h qs (hs.map st)
 out:outs=List.zipWith (fun q i=>pgD q (sn i)) qs hs
 fr:∀ q∈qs,∀ x,q.all x→h0.get? x=none
noncomputable def EvPg (prog:Program) (w:World) (g:Heap) (T:Tabs) (n:Nat) (sc:Scope) (CV CA:Addr) (p:PgP) (st:Int→Pst) (sn:Int→List D) (x:Str) (σ:Sto) (e:Expr):Prop :=
 ∀ (i:Int) (A:Around) (s:Shared) (av:List Addr) (env:Env),0≤i∧i≤1000→env.scope=sc→Rm n A→GK g T s→EC av env ((x,.val (.int i))::σ) s.heap→wpAny (model prog w) A (eval e env) (PgMade (fun _=>False) g T CV CA p (st i) (sn i) av s) NoE s
section
variable {prog:Program}{w:World}{g:Heap}{T:Tabs}{n:Nat}{sc:Scope}{on:List Str}{elt:Expr}{σ:Sto}{c:Comprehension}{CV CA:Addr}{p:PgP}{st:Int→Pst}{sn:Int→List D}{x:Str}{xp:Pos}{A:Around}{scope:Scope}{pos:Pos}{P:Addr}{env:Env}{ow:Ow}{av fp:List Addr}{it:Value}{h0 hh:Heap}{St:List D→Heap→Prop}{gens:List Comprehension}{depth:Nat}{R:Result→Shared→Prop}{qs:List Pg}{outs:List D}{hs:List Int}{s s':Shared}
theorem PgJ.keep {W:Addr→Prop}(J:PgJ CV CA p hh st sn hs qs outs s.heap) (q:GK g T s) (m:Mv g T W s s') (hw:∀ b,W b→hh.get? b≠none) (tk:TupK s.heap s'.heap):PgJ CV CA p hh st sn hs qs outs s'.heap :=
 ⟨(pgsW_ok (g:=hh) (av:=qs.map (·.l)) (fun q hq b hb=>J.fr q hq b (.inr (.inr hb))) fun q hq=>List.mem_map.mpr ⟨q,hq,rfl⟩).st _ _ _ J.pg (fun b o hp e=>hp.elim fun q' z=>(Pgs.has J.pg z.1).elim fun st P=>(page_obj P z.2).elim fun o' y=>m.get' q e (fun hb=>hw b hb (J.fr q' z.1 b z.2)) (sinj y.1 e▸y.2)) tk,J.out,J.fr⟩
theorem acc_tup {pre:List D}{ds:List D}{tg:Expr}(nl:ow.l=[]) (I:Itr prog w True (fp++av) fp h0 tg it St) (st:St ds s.heap) (F:Fm g T (fp++av) ow env σ s) (acc:AccOk (fp++av) P pre s.heap) (m:Mv g T (AccW env ow P fp) s s'):TupK s.heap s'.heap:=fun a us k e=>m.get' F.gk e (fun hb=>by
 rcases hb with (hb | rfl) | hb
 ·exact F.wseq0 nl _ _ e ⟨_,_,.inl rfl⟩ hb
 ·exact acc.isl.elim fun _ z=>z.elim fun _ e'=>disc tgP (e.symm.trans e') rfl
 ·cases I.obj _ _ st a hb with | mk o e' i nl f =>
  obtain ⟨vs,hd⟩:=f trivial
  exact disc tgB ((congrArg Obj.data (sinj e e')).trans hd) rfl) (nt_tup _ _)
theorem acc_ex {pre:List D}{ds:List D}{tg:Expr}{b:Addr}(I:Itr prog w True (fp++av) fp h0 tg it St) (st:St ds s.heap) (F:Fm g T (fp++av) ow env σ s) (acc:AccOk (fp++av) P pre s.heap) (h:s.heap.get? b=none):¬ AccW env ow P fp b:=fun hb=>by
 rcases hb with (hb | rfl) | hb
 ·exact (F.wr_ex hb).elim fun _ e=>nos h e
 ·exact acc.isl.elim fun _ z=>z.elim fun _ e=>nos h e
 ·cases I.obj _ _ st b hb with | mk o e i nl f=>exact nos h e
theorem PgJ.snoc {q:Pg}{i:Int}(J:PgJ CV CA p hh st sn hs qs outs s.heap) (J':PgJ CV CA p hh st sn hs qs outs s'.heap) (n:PageAt CV CA s'.heap q p (st i)) (hf:∀ x,q.all x→s.heap.get? x=none) (old:∀ b,s.heap.get? b=none→hh.get? b=none):PgJ CV CA p hh st sn (hs++[i]) (qs++[q]) (outs++[pgD q (sn i)]) s'.heap :=
 ⟨by rw [List.map_append]; exact J'.pg.snoc J.pg n hf,by rw [J.out,List.zipWith_append (by rw [J.pg.len,List.length_map])]; rfl,fun q' hq x hx=>(List.mem_append.mp hq).elim (fun h=>J.fr q' h x hx) fun h=>old x (hf x (List.mem_singleton.mp h▸hx))⟩
section
variable (hE:EvPg prog w g T n sc CV CA p st sn x σ elt) (htg:c.target=.Name x xp) (hifs:c.ifs=[]) (hst:stOk sc on x=true) (hσ:σ.lookup x=none) (ha:c.is_async=0) (rm:Rm n A) (C:CtxC g sc on P env ow av) (hd:gens.drop depth=[c]) (I:ItC prog w g True av fp h0 c.target it St) (hw:∀ b,AccW env ow P fp b→hh.get? b≠none)
include hE htg hifs hst hσ ha rm C hd I hw
theorem pgs_loop:∀ {hs dn:List Int}{qs:List Pg}{outs:List D}{s:Shared}{R:Result→Shared→Prop},Fm g T (fp++av) ow env σ s→St (hs.map .int) s.heap→AccOk (fp++av) P outs s.heap→outs.length+hs.length≤1000→(∀ i∈hs,0≤i∧i≤1000)→PgJ CV CA p hh st sn dn qs outs s.heap→(∀ b,s.heap.get? b=none→hh.get? b=none) →
  (∀ qs' outs' s',LpE g T av ow env σ P outs' (AccW env ow P fp) s s'→PgJ CV CA p hh st sn (dn++hs) qs' outs' s'.heap→R (.ok .next) s')→codeAny (model prog w) A (.compLoop (.ListComp elt gens scope pos) depth it (.ref P) env) R s:=by
 have has:∀ c'∈[c],c'.is_async=0:=fun c' h=>List.mem_singleton.mp h▸ha
 intro hs
 induction hs with
 | nil =>
  intro dn qs outs s R F st acc hz hi J old hR
  refine wp_turn hd has (wpAny_bind (wp_to (I.I.done A s rm.hand st) fun r s₁ h₁=>?_))
  rw [h₁.1]
  have f₁:=F.changed' (av':=av) h₁.2 I.gf I.I.sub (fun a ha=>List.mem_append_right _ ha) (fun b hb=>(I.I.obj _ _ st b hb).wo) fun b hb hb'=>absurd hb' (I.fr b hb)
  have m:Mv g T (AccW env ow P fp) s s₁:=f₁.m.sub fun b hb=>.inl (.inr hb)
  refine wpAny_pure (hR qs outs s₁ ⟨f₁.F,(acc.seq (h₁.2.seq I.I.sub) fun vs k e=>h₁.2.get e (not_mem_acc I.I st acc)).sub fun a ha=>List.mem_append_right _ ha,m⟩ ?_)
  rw [List.append_nil]
  exact J.keep F.gk m hw (acc_tup C.nl I.I st F acc m)
 | cons i hs ih =>
  intro dn qs outs s R F st acc hz hi J old hR
  have ht:Tg c.target (.int i) [(x,.int i)]:=htg▸.name
  refine wp_turn hd has (turn_start (K:=fun ok=>if ok=true then _ else _) rm C I F st acc ht (fun y d hm=>by cases List.mem_singleton.mp hm; exact hst) (hifs▸EvIfs.nil) fun s₁ e₁ st₁=>?_)
  rw [if_pos rfl,drop_none (drop_get hd).2]
  show wpAny _ _ ((eval elt env >>= fun x=>call (.builtin "list.append") [.ref P,x] >>= fun _=>pure ()) >>= fun _=>again _) _ _ _
  have g₁:=e₁.F.gk
  refine wpAny_bind (wpAny_bind (wp_to (hE i A s₁ (fp++av) env (hi i (.head _)) C.he rm g₁ (e₁.F.av0 C.nl)) fun v s₂ h₂=>?_))
  cases h₂ with | mk q hq x₂ r pg =>
  have x₂:Ext g T s₁ s₂:=x₂.ext fun _ f=>f.elim
  have F₂:=e₁.F.ext x₂
  have J₁:=J.keep F.gk e₁.m hw (acc_tup C.nl I.I st F acc e₁.m)
  have old₁:∀ b,s₁.heap.get? b=none→hh.get? b=none:=fun b h=>(e₁.m.new g₁ h).elim (fun z=>(acc_ex I.I st₁ e₁.F e₁.acc h z).elim) (old b)
  have J₂:=J₁.snoc (J₁.keep g₁ (W:=fun _=>False) x₂.mv (fun _ f=>f.elim) fun _ _ _ e=>x₂.get' g₁ e (nt_tup _ _)) pg hq old₁
  have acc₂:=e₁.acc.ext x₂ g₁
  have hPf:=not_mem_acc I.I st acc
  have st₂:=it_keep I.I st₁ g₁ x₂.mv (W:=fun _=>False) (fun _ _ _ _ _ f=>f) fun _ _ _ _ f=>f.elim
  refine wpAny_bind (acc_push ⟨C.he,C.nl,C.oc,C.hP,C.gP⟩ (List.mem_append_right _ C.hP) F₂ acc₂ r (Nat.lt_of_lt_of_le (Nat.lt_of_lt_of_le (Nat.lt_add_of_pos_right (Nat.succ_pos _)) hz) (by decide)) fun s₃ _ e₃=>wpAny_pure (wpAny_pure ⟨rfl,?_⟩))
  have m₃:Mv g T (AccW env ow P fp) s₂ s₃:=e₃.m.sub fun b hb=>.inl (.inl (.inr hb))
  have st₃:=it_keep I.I st₂ F₂.gk e₃.m (fun b hb o e i h=>hPf (h▸hb)) fun b o e ho hw=>hw▸List.mem_append_right _ C.hP
  have mt:=Mv.trans e₁.m (Mv.trans x₂.mv m₃ fun b hb=>.inl hb) fun b hb=>.inl hb
  have old₃:∀ b,s₃.heap.get? b=none→hh.get? b=none:=fun b h=>(mt.new e₃.F.gk h).elim (fun z=>(acc_ex I.I st₃ e₃.F e₃.acc h z).elim) (old b)
  refine ih (e₃.F.weak (bindAll_weak (b:=[(x,.int i)]) fun p hp=>List.mem_singleton.mp hp▸hσ)) st₃ e₃.acc (by rw [List.length_append,List.length_singleton,Nat.add_assoc,Nat.add_comm 1]; exact hz) (fun j hj=>hi j (.tail _ hj)) (J₂.keep F₂.gk m₃ hw (acc_tup C.nl I.I st₂ F₂ acc₂ m₃)) old₃ fun qs' outs' s' e J'=>?_
  rw [List.append_assoc] at J'
  exact hR qs' outs' s' ⟨e.F,e.acc,mt.trans e.m fun b hb=>.inl hb⟩ J'
end
end
end
section
section
variable {prog:Program}{w:World}{g:Heap}{T:Tabs}{n:Nat}{sc scope:Scope}{elt:Expr}{σ:Sto}{c:Comprehension}{CV CA:Addr}{p:PgP}{st:Int→Pst}{sn:Int→List D}{x y:Str}{xp:Pos}{A:Around}{pos cpos yp:Pos}{P C:Addr}{env:Env}{ow:Ow}{av:List Addr}{hh:Heap}{qs:List Pg}{outs:List D}{hs:List Int}{s s' s₁:Shared}{m:Str→Option Value}
structure PgC (g:Heap) (T:Tabs) (CV CA:Addr) (p:PgP) (st:Int→Pst) (sn:Int→List D) (hs:List Int) (av:List Addr) (s:Shared) (P C:Addr) (hh:Heap) (qs:List Pg) (outs:List D) (s':Shared):Prop where
 x:Ext g T s s'
 hP:s.heap.get? P=none
 hC:s.heap.get? C=none
 ne:C≠P
 acc:AccOk (P::av) P outs s'.heap
 J:PgJ CV CA p hh st sn hs qs outs s'.heap
 up:∀ b,hh.get? b=none→s.heap.get? b=none
 C':hh.get? C≠none
theorem zip_mem {α β γ:Type}{f:α→β→γ}{d:γ}{l:List α}:∀ {m:List β},d∈List.zipWith f l m→∃ q i,i∈m∧d=f q i:=by
 induction l with
 | nil=>exact fun h=>(List.not_mem_nil h).elim
 | cons a l ih =>
  intro m h
  cases m with
  | nil=>exact (List.not_mem_nil h).elim
  | cons b m=>exact (List.mem_cons.mp h).elim (fun e=>⟨a,b,.head _,e⟩) fun h=>(ih h).imp fun q=>Exists.imp fun i z=>⟨.tail _ z.1,z.2⟩
theorem PgJ.ns {h:Heap}(J:PgJ CV CA p hh st sn hs qs outs h) (hn:∀ i∈hs,NS (.lst (sn i))) (h0:hs≠[]):NS (.lst outs):=by
 have all:∀ d∈outs,NS d:=fun d hd=>by
  rw [J.out] at hd
  obtain ⟨q,i,h1,rfl⟩:=zip_mem hd
  exact .tup fun d hd=>(List.mem_cons.mp hd).elim (fun e=>e▸.adr _) fun hd=>List.mem_singleton.mp hd▸hn i h1
 have hl:=J.pg.len
 have ho:=J.out
 cases hs with
 | nil=>exact (h0 rfl).elim
 | cons i hs =>
  cases qs with
  | nil=>exact nomatch hl
  | cons q qs=>rw [ho] at all ⊢; exact .lst all
theorem PgJ.lists {h:Heap}(J:PgJ CV CA p hh st sn hs qs outs h):∀ a∈qs.map (·.l),∃ ts k,h.get? a=some (lstO (strValues ts) k):=fun a ha=>by
 obtain ⟨q,hq,rfl⟩:=List.mem_map.mp ha
 obtain ⟨st,P⟩:=Pgs.has J.pg hq
 cases P with | mk es kd ts kl H l e a=>exact ⟨ts,kl,l⟩
structure PgN (g:Heap) (T:Tabs) (CV CA:Addr) (p:PgP) (st:Int→Pst) (sn:Int→List D) (hs:List Int) (av:List Addr) (ow:Ow) (env:Env) (σ:Sto) (y:Str) (s:Shared) (qs:List Pg) (outs:List D) (ow':Ow) (s':Shared):Prop where
 J:PgJ CV CA p s.heap st sn hs qs outs s'.heap
 c:ow'.c=ow.c
 F:Fm g T (qs.map (·.l)++av) ow' env ((y,.val (.lst outs))::σ) s'
 m:Mv g T (Wr env ow) s s'
 w:∀ b,Wr env ow' b→Wr env ow b
theorem PgC.gone {h':Heap}{tk:Nat}(X:PgC g T CV CA p st sn hs av s P C hh qs outs s₁) (J:PgJ CV CA p hh st sn hs qs outs s'.heap) (q:GK g T s') (hg:GK g T s) (hm:s'.heap.Ns C m) (hs':Heap.SameBut C s'.heap h'):PgJ CV CA p hh st sn hs qs outs h':=by
 have ⟨o,_,_,ho,_⟩:=hm
 have mv:Mv g T (fun b=>b=C) s' { s' with heap:=h',toks:=tk }:=Mv.one hs' ho (ns_noc hm ho) (hg.new X.hC) rfl
 exact J.keep q mv (fun b hb=>hb▸X.C') fun a us k e=>(hs'.2 a fun q=>ns_nsq hm (q▸e) ⟨_,_,.inl rfl⟩).trans e
section
variable (htg:c.target=.Name x xp) (hifs:c.ifs=[]) (ha:c.is_async=0) (hsd:NoSet c.iter) (hok:compOk sc scope=true) (hcap:((cap scope σ).all fun p=>isVal p.2)=true) (hst:stOk (relabelS scope sc) (cellNames scope.names) x=true) (hσ:(cap scope σ).lookup x=none)
 (hi:EvF prog w g T n sc σ c.target c.iter (hs.map .int)) (hE:EvPg prog w g T n (relabelS scope sc) CV CA p st sn x (cap scope σ) elt) (hz:hs.length≤1000) (hb:∀ i∈hs,0≤i∧i≤1000)
include htg hifs ha hsd hok hcap hst hσ hi hE hz hb
theorem pages_core {use:Option (Value→Sem Unit)}{Q:Value→Shared→Prop}(he:env.scope=sc) (rm:Rm n A) (hg:GK g T s) (hc:EC av env σ s.heap) (hQ:∀ P C hh qs outs s',PgC g T CV CA p st sn hs av s P C hh qs outs s'→(∃ m,s'.heap.Ns C m)→compPost (model prog w) A NoE use Q (.ref P) C (.ok .next) s') :
  wpAny (model prog w) A (comprehension (.ListComp elt [c] scope pos) scope env yp (newList []) false (eval c.iter env) use) Q NoE s :=
 comp_frame hsd hok hcap hi ha he rm hg hc fun P cenv fp it h0 St s₄ a =>
  pgs_loop (qs:=[]) (outs:=[]) (dn:=[]) (hh:=s₄.heap) hE htg hifs hst hσ ha rm a.C rfl a.I (fun b hb h=>acc_ex a.I.I a.st a.F a.acc h hb) a.F a.st a.acc (by rw [List.length_nil,Nat.zero_add]; exact hz) hb ⟨⟨rfl,fun _ _ _ e=>(nomatch e),fun _ _ _ _ e=>(nomatch e)⟩,rfl,fun _ h=>(List.not_mem_nil h).elim⟩ (fun _ h=>h) fun qs outs s' e J =>
   hQ P _ s₄.heap qs outs s' ⟨a.x.trans_mv e.m a.w,a.hP,a.hC,a.ne,e.acc,J,fun b=>a.x.none hg,fun h=>acc_ex a.I.I a.st a.F a.acc h (.inl (.inl (.inl rfl)))⟩ e.F.ns
theorem pages_assign {Q:Flow→Shared→Prop}(he:env.scope=sc) (hoc:ow.c=cellNames sc.names) (hy:stOk sc (cellNames sc.names) y=true) (rm:Rm n A) (F:Fm g T av ow env σ s) (hns:∀ i∈hs,NS (.lst (sn i))) (h0:hs≠[])
  (hQ:∀ qs outs ow' s',PgN g T CV CA p st sn hs av ow env σ y s qs outs ow' s'→Q .next s'):wpAny (model prog w) A (exec (.Assign [.Name y yp] (.ListComp elt [c] scope cpos) pos) env) Q NoE s:=by
 have cs:=canst F.ec he (hoc.symm▸hy)
 have hw:∀ {P C hh qs outs s'},PgC g T CV CA p st sn hs (ow.adr++av) s P C hh qs outs s'→∀ b,Wr env ow b→hh.get? b≠none:=fun X b hb h=>(F.wr_ex hb).elim fun _ e=>nos (X.up b h) e
 have G:∀ {P C hh qs outs s' s₂},PgC g T CV CA p st sn hs (ow.adr++av) s P C hh qs outs s'→PgJ CV CA p hh st sn hs qs outs s₂.heap→Ext g T s s₂→Fm g T (qs.map (·.l)++av) ow env σ s₂:=fun X J x=>F.grow x (fun b hb=>by
  obtain ⟨q,hq,rfl⟩:=List.mem_map.mp hb
  exact X.up _ (J.fr q hq _ (.inr (.inr (.inl rfl))))) fun b hb=>(J.lists b hb).elim fun ts p=>p.elim fun k e=>⟨_,e,nt_lst _ _⟩
 have V:∀ {qs outs P}{hh h:Heap},PgJ CV CA p hh st sn hs qs outs h→VD (ow.adr++av) h (.ref P) (.lst outs)→VD (ow.adr++(qs.map (·.l)++av)) h (.ref P) (.lst outs):=fun J r=>((J.ns hns h0).away (fp:=_) J.lists r).sub fun a ha=>(List.mem_append.mp ha).elim (fun z=>List.mem_append_right _ (List.mem_append_left _ z)) fun z=>(List.mem_append.mp z).elim (List.mem_append_left _) fun z=>List.mem_append_right _ (List.mem_append_right _ z)
 have fin:∀ {P C hh qs outs s' s₂ ow'},PgC g T CV CA p st sn hs (ow.adr++av) s P C hh qs outs s'→PgJ CV CA p hh st sn hs qs outs s₂.heap→ow'.c=ow.c→Fm g T (qs.map (·.l)++av) ow' env ((y,.val (.lst outs))::σ) s₂→Mv g T (Wr env ow) s s₂→(∀ b,Wr env ow' b→Wr env ow b)→Q .next s₂:=fun X J c F m w=>hQ _ _ _ _ ⟨{ J with fr:=fun q hq x hx=>X.up x (J.fr q hq x hx) },c,F,m,w⟩
 refine assign_used ha ?_ ?_
 ·rw [eval_ListComp,first_async ha,first_iter]
  refine pages_core htg hifs ha hsd hok hcap hst hσ hi hE hz hb he rm F.gk F.ec fun P C hh qs outs s' X hn=>hn.elim fun m hm=>⟨m,hm,fun h' hs'=>?_⟩
  have J:=PgC.gone (tk:=s'.toks) X X.J (X.x.gk F.gk) F.gk hm hs'
  cases comp_end X.x F.gk X.hP X.hC X.ne X.acc hm hs' with | @mk _ vs k _ x' hn ho hd =>
  have F':=G X J x'
  exact wp_to (wp_store F' cs (V J (.lst (av_new F.ec.avok hn) ho (hd.sub fun a ha=>.tail _ ha)))) fun _ s₂ h₂=>fin (ow':=ow.drop y) X (J.keep F'.gk h₂.m (hw X) (F'.tupK h₂.m fun _ h=>h)) rfl h₂.F (Mv.trans x'.mv h₂.m fun b h=>.inl h) fun b h=>h.drop
 ·refine pages_core htg hifs ha hsd hok hcap hst hσ hi hE hz hb he rm F.gk F.ec fun P C hh qs outs s' X hn=>hn.elim fun m hm=>X.acc.rec fun ys pl r=>pl.elim fun k eP=>?_
  have F':=G X X.J X.x
  refine wpAny_assign_Name (wp_to (wp_store F' cs (V X.J (.lst (vs:=ys.toList) (av_new F.ec.avok X.hP) eP (r.sub fun a ha=>.tail _ ha)))) fun _ s₂ h₂=>?_)
  have hns₂:s₂.heap.Ns C m:=ns_get hm fun o e nt=>h₂.m.get' F'.gk e (F.wr_not X.hC) nt
  have hL:C≠env.locals:=fun q=>F.ns.elim fun _ n=>n.elim fun _ n=>n.elim fun _ n=>n.elim fun _ n=>nos X.hC (q▸n.1)
  refine ⟨m,hns₂,fun h' hs'=>?_⟩
  have f:=h₂.F.side (tk:=s₂.toks) hs' hns₂ hL (F.gk.new X.hC) fun q=>(List.mem_append.mp q).elim (fun q=>by
   obtain ⟨q',hq,rfl⟩:=List.mem_map.mp q
   exact X.C' (X.J.fr q' hq _ (.inr (.inr (.inl rfl))))) fun q=>av_new F.ec.avok X.hC (List.mem_append_right _ q)
  exact fin (ow':=ow.drop y) X (PgC.gone (tk:=s₂.toks) X (X.J.keep F'.gk h₂.m (hw X) (F'.tupK h₂.m fun _ h=>h)) h₂.F.gk F.gk hns₂ hs') rfl f.F (Mv.trans (Mv.trans X.x.mv h₂.m fun b h=>.inl h) f.m fun b hb=>.inr (List.mem_singleton.mp hb▸X.hC)) fun b h=>h.drop
end
end
end
section
section
variable {prog:Program}{w:World}{g:Heap}{T:Tabs}{K:Frag}{n:Nat}{s:Shared}{sc:Scope}{A:Around}{σ:Sto}{env:Env}{av:List Addr}{f:Str}{e:Expr}{es:List Expr}{ds:List D}{pos p0 p1 p2 p3:Pos}{a:AccF}{b:FmtF}{mx head:Int}{ws:List Str}{vs:List Value}{fp:Addr}
theorem wp_callF {c:Addr}{o:Obj}{fd:FuncData}{Q:Value→Shared→Prop}(hx:sc.names.lookup f=some .globalImplicit) (hgl:Glb g f (.ref c)) (ho:g.get? c=some o) (hd:o.data=.func fd) (ha:EvL prog w g T n sc σ (e::es) ds) (he:env.scope=sc) (rm:Rm n A) (hg:GK g T s) (hc:EC av env σ s.heap)
  (h:∀ vs s₁,Ext g T s s₁→VDs av s₁.heap vs ds→wpAny (model prog w) A (call (.ref c) vs) Q NoE s₁):wpAny (model prog w) A (eval (.Call (.Name f p0) (e::es) [] pos) env) Q NoE s :=
 wpAny_Call_NameR (wp_glob hc.kind hc.glob hc.blt (by rw [Env.kindOf,he]; exact hx) hg.keep hgl (callWith_def hd (wp_to (ha.run A s av env pos he rm hg hc) fun vs s₁ h₁=>⟨(h₁.1.gk hg).keep _ _ ho,h vs s₁ h₁.1 h₁.2⟩) (ha.plain.1 _)))
variable (B:FmtFns prog w K g T a b) (gfmt:Glb g "_ValueFormatter" (.ref b.CV)) (kfmt:keepIn K (.ref b.CV)=true) (genum:Glb g "enumerate" (.type "enumerate")) (hf:FnAt g fp lpSc ["head", "width", "words"] lpB) (hs:FnS lpSc ["head", "width", "words"])
include B gfmt kfmt genum hf hs
theorem page_call (rm:Rm (n+9) A) (hg:GK g T s) (hav:AvOk av s.heap) (hv:VDs av s.heap vs [.int head,.int mx,.lst (ws.map .str)]) (hh:0≤head∧head≤1000) (hx:okW ws) (hz:2*ws.length≤400) :
  wpAny (model prog w) A (call (.ref fp) vs) (PgMade (fun _=>False) g T b.CV a.CA (pgP mx) (pgEnd mx head ws 0 ([],[],head)) ((pgSts mx head ws 0 ([],[],head)).map seenD) av s) NoE s :=
 wp_callX hf hs.toFnS0 (.nil hs) rm hg hav hv rfl fun env ow s₁ E c _ rm F x hw=>wp_to (page_body (n:=n+1) B gfmt kfmt E c rm F fun q hU=>page_run (n:=n) B genum hU hh hx hz) fun fl s₂ h₂=>by
  have h₃:PgMade (fun _=>False) g T b.CV a.CA (pgP mx) _ _ av s (flowV fl) s₂:=h₂.rec fun q hq m r P=>⟨q,fun y hy=>x.none hg (hq y hy),Mv.trans x.mv m fun y hy=>.inr (hw y hy),r,P⟩
  cases fl <;> exact h₃
theorem evPg_page (gp:Glb g "_law_page" (.ref fp)) (hl:sc.names.lookup ("_law_page" : Str)=some .globalImplicit) (hw:∀ {i:Int},((Str.ofString "head",Sl.val (.int i))::σ:Sto).lookup (Str.ofString "width")=some (.val (.int mx))) (hws:∀ {i:Int},((Str.ofString "head",Sl.val (.int i))::σ:Sto).lookup (Str.ofString "words")=some (.val (.lst (ws.map .str)))) (hx:okW ws) (hz:2*ws.length≤400) :
  EvPg prog w g T (n+9) sc b.CV a.CA (pgP mx) (fun i=>pgEnd mx i ws 0 ([],[],i)) (fun i=>(pgSts mx i ws 0 ([],[],i)).map seenD) "head" σ (.Call (.Name "_law_page" p0) [.Name "head" p1,.Name "width" p2,.Name "words" p3] [] pos):=fun i A s av env hi he rm hg hc=>by
 have hf':=hf
 cases hf' with | mk o fd ho hd _ _ _ _ _ _ _ _ _ =>
 exact wp_callF hl gp ho hd (EvL.more (fun _=>rfl) (Ev.name rfl) (EvL.more (fun _=>rfl) (Ev.name hw) (EvL.more (fun _=>rfl) (Ev.name hws) EvL.nil))) he rm hg hc fun vs s₁ x₁ r₁=>wp_to (page_call (n:=n) B gfmt kfmt genum hf hs rm (x₁.gk hg) (hc.ext x₁ hg).avok r₁ hi hx hz) fun v s₂ h₂=>h₂.rec fun q hq m r P=>⟨q,fun y hy=>x₁.none hg (hq y hy),Mv.trans x₁.mv m fun _ h=>.inl h,r,P⟩
end
end
section
noncomputable abbrev colD (c:Int×Int):D:=.tup [.int c.1,.int c.2]
noncomputable def ds4 (x:Nat):List Nat:=digs 4 (ndig x 4) x
noncomputable def tFresh (held size:Nat):Nat:=(ds4 (held % 16 ^ size)).sum
noncomputable def tHeld (width held size:Nat):Nat:=held / 16 ^ size+tFresh held size*16 ^ (width - size)
noncomputable def roomsOf (m:Nat):List Nat:=(List.range m).map fun i=>m - 1 - i
noncomputable def fillsOf (width:Nat) (cs:List Nat):List Int:=(roomsOf cs.length).flatMap fun room=>if true then (List.range (cs.getD room 0)).map fun _=>(width:Int) - (room:Int) else []
noncomputable def turnL {α:Type}(m:Nat) (l:List α):List α:=pick l (some (m:Int)) none none++pick l none (some (m:Int)) none
noncomputable def tFills (width:Nat) (h:Nat×Nat):List Int:=turnL (h.2 % (width+1)) (fillsOf width (ds4 h.1))
noncomputable abbrev stOf (width b:Nat) (q:Int×Nat):Int×Int:=(((b / (width+1):Nat):Int)+(if decide ((q.2:Int)>(width:Int) - ((b % (width+1):Nat):Int))=true then 1 else 0),q.1)
noncomputable def stL (width:Nat) (h:Nat×Nat):List (Int×Int):=(tFills width h).zipIdx.map (stOf width h.2)
noncomputable def enD (width:Nat) (h:Nat×Nat):D:=.tup [.int (h.1:Int),.lst ((stL width h).map colD)]
structure TOk (width held z h' b':Nat):Prop where
 z1:1≤z
 zw:z≤width
 w:width≤20
 lh:held<2 ^ 140
 lh':h'<2 ^ 140
 lb:b'<2 ^ 60
 f:(fillsOf width (ds4 h')).length≤900
 f':(tFills width (h',b')).length≤900
 c:(ds4 h').length≤900
 d:∀ x∈ds4 h',x≤900
noncomputable def toldS (width:Nat) (zs:List Nat):Nat→Nat→List (Nat×Nat):=zs.rec (fun _ _=>[]) fun z _ ih h b=>(tHeld width h z,b+tFresh h z)::ih (tHeld width h z) (b+tFresh h z)
noncomputable def toldOk (width:Nat) (zs:List Nat):Nat→Nat→Prop:=zs.rec (fun _ _=>True) fun z _ ih h b=>TOk width h z (tHeld width h z) (b+tFresh h z)∧ih (tHeld width h z) (b+tFresh h z)
noncomputable def tStart (width:Nat):Nat:=(16 ^ (width+1) - 1) / 15
theorem pow16_lt {k:Nat}(h:k≤21):16 ^ k<2 ^ 140:=Nat.lt_of_le_of_lt (Nat.pow_le_pow_right (by decide) h) (by decide)
theorem rooms_rng (m:Nat):rngL ((m:Int) - 1) (-1) (-1)=(roomsOf m).map fun (r:Nat)=>D.int (r:Int):=by
 unfold rngL roomsOf
 have:(Builtin.Range.rangeSize ((m:Int) - 1) (-1) (-1)).toNat=m:=by
  simp only [Builtin.Range.rangeSize]
  rw [if_neg (by decide)]
  simp only [Int.neg_neg,Int.ediv_one]
  split <;> lia
 rw [this,List.map_map]
 refine List.map_congr_left fun i hi=>congrArg D.int ?_
 have:=List.mem_range.mp hi
 show _=((m - 1 - i:Nat):Int)
 lia
theorem rng_nat (k:Nat):rngL 0 (k:Int) 1=(List.range k).map fun (i:Nat)=>D.int (i:Int):=by
 have:(Builtin.Range.rangeSize 0 (k:Int) 1).toNat=k:=by simp [Builtin.Range.rangeSize]; try lia
 unfold rngL
 rw [this]
 exact List.map_congr_left fun i hi=>congrArg D.int (by rw [Int.mul_one,Int.zero_add])
section
variable {prog:Program}{w:World}{g:Heap}{T:Tabs}{n:Nat}{σ:Sto}{sc:Scope}{e e1 e2:Expr}{pos:Pos}{f:Str}
theorem cl_intB {c:Bool}(hg:Glb g f (.type "int")):ClV prog w g T n f [.bool c] (.int (if c then 1 else 0)):=⟨_,hg,.ty _,fun A s av vs rm hg hav hv=>by
 cases hv.one1 with | mk r=>cases r.i3; exact call_int_bool ⟨.tok _,.int _ _⟩⟩
theorem bin_pow16 {k:Nat}(h:k≤400):BinV prog w g T .Pow (.int 16) (.int (k:Int)) (.int ((16 ^ k:Nat):Int)):=by
 have:=bin_pow (prog:=prog) (w:=w) (g:=g) (T:=T) (a:=16) (b:=(k:Int)) (Int.natCast_nonneg k) (Int.ofNat_le.mpr (Nat.le_trans h (by decide:400≤500))) (by decide)
 rwa [Int.toNat_natCast,show (16:Int) ^ k=((16 ^ k:Nat):Int) by rw [Int.natCast_pow]; rfl] at this
theorem bin_modN {a b:Nat}(h:b≠0):BinV prog w g T .Mod (.int (a:Int)) (.int (b:Int)) (.int ((a % b:Nat):Int)):=fmod_nat a b▸bin_mod (Int.ofNat_ne_zero.mpr h)
theorem bin_addN {a b c:Nat}(h:a+b=c):BinV prog w g T .Add (.int (a:Int)) (.int (b:Int)) (.int (c:Int)):=h▸Int.natCast_add a b▸bin_add
theorem bin_subN {a b c:Nat}(h:b+c=a):BinV prog w g T .Sub (.int (a:Int)) (.int (b:Int)) (.int (c:Int)):=by
 have e:(a:Int) - (b:Int)=(c:Int):=by subst h; rw [Int.natCast_add,Int.add_comm,Int.add_sub_cancel]
 exact e▸bin_sub
theorem bin_mulN {a b:Nat}(ha:a≤2 ^ 64) (hb:sm (b:Int)=true):BinV prog w g T .Mult (.int (a:Int)) (.int (b:Int)) (.int ((a*b:Nat):Int)):=Int.natCast_mul a b▸bin_mul (sm_of ha) hb
end
end
section
theorem fills_map (width:Nat) (cs:List Nat):((roomsOf cs.length).flatMap fun room=>if true then (List.range (cs.getD room 0)).map fun _=>D.int ((width:Int) - (room:Int)) else [])=(fillsOf width cs).map .int:=by
 unfold fillsOf
 rw [List.map_flatMap]
 exact congrArg (fun f=>List.flatMap f (roomsOf cs.length)) (funext fun room=>(List.map_map ..).symm)
theorem rooms_lt {m r:Nat}(h:r∈roomsOf m):r<m:=by
 obtain ⟨i,hi,rfl⟩:=List.mem_map.mp h
 have:=List.mem_range.mp hi
 omega
theorem small_nat {k:Nat}(h:k≤900):smallI (k:Int)=true:=by
 rw [smallI,Bool.and_eq_true,decide_eq_true_eq,decide_eq_true_eq]
 omega
noncomputable abbrev tdB:List Stmt:=bodyOf (fn1 "_law_told")
noncomputable abbrev tdSc:Scope:=scopeOf (fn1 "_law_told")
noncomputable abbrev tdFor:Stmt:=nth tdB 1
structure TdK (prog:Program) (w:World) (g:Heap) (T:Tabs) (n:Nat):Prop where
 len:Glb g "len" (.builtin "len")
 sum:Glb g "sum" (.builtin "sum")
 dm:Glb g "divmod" (.builtin "divmod")
 int:Glb g "int" (.type "int")
 enum:Glb g "enumerate" (.type "enumerate")
 ran:Glb g "range" (.type "range")
 torn:∀ {h x:Int}{way:Nat},0<x→h.natAbs<2 ^ 148→x.natAbs<2 ^ 149→way<3→ClV prog w g T n "_law_torn" [.int h,.int x,.int way] (quo h x)
 id:∀ {a b:Int},b≠0→a.natAbs≤2 ^ 148→b.natAbs<2 ^ 149→ClV prog w g T n "int_divmod" [.int a,.int b] (quo a b)
 i2d:∀ {x:Nat},ndig x 4≤400→4*ndig x 4≤450→ClV prog w g T n "_int2digits" [.int (x:Int),.int ((4:Nat):Int)] (.lst (nsD (ds4 x)))
noncomputable abbrev σtd (width held begun:Nat) (ws:List Str) (told:List D):Sto:=[(Str.ofString "told",.own told),(Str.ofString "held",.val (.int held)),(Str.ofString "begun",.val (.int begun)),(Str.ofString "width",.val (.int width)),(Str.ofString "words",.val (.lst (ws.map .str)))]
noncomputable abbrev σtw (width held begun:Nat) (ws:List Str) (told:List D) (k:Nat) (x:Str):Sto:=(Str.ofString "word",.val (.str x))::(Str.ofString "place",.val (.int (k:Int)))::σtd width held begun ws told
section
variable {prog:Program}{w:World}{g:Heap}{T:Tabs}{n:Nat}{σ:Sto}{width held begun k z fr h' b':Nat}{x:Str}{ws:List Str}{told:List D}
variable (K:TdK prog w g T (n+1))
include K
theorem TdK.i2d' {t:Nat}(h:t<2 ^ 140):ClV prog w g T (n+1) "_int2digits" [.int (t:Int),.int 4] (.lst (nsD (ds4 t))):=by
 have h1:=nbits_le h
 have h2:ndig t 4≤36:=by unfold ndig; omega
 exact K.i2d (Nat.le_trans h2 (by decide)) (Nat.le_trans (Nat.mul_le_mul_left 4 h2) (by decide))
theorem td_torn (h:held<2 ^ 140) (hz:z≤20):ClV prog w g T (n+1) "_law_torn" [.int (held:Int),.int ((16 ^ z:Nat):Int),.int ((k % 3:Nat):Int)] (.tup [.int ((held / 16 ^ z:Nat):Int),.int ((held % 16 ^ z:Nat):Int)]) :=
 fdiv_nat held (16 ^ z)▸fmod_nat held (16 ^ z)▸K.torn (Int.ofNat_lt.mpr (Nat.pow_pos (by decide))) (Nat.lt_trans (Int.natAbs_natCast held▸h) (by decide)) (Nat.lt_trans (Int.natAbs_natCast (16 ^ z)▸pow16_lt (Nat.le_succ_of_le hz)) (by decide)) (Nat.mod_lt _ (by decide))
theorem td_sum {l:List Nat}:ClV prog w g T (n+1) "sum" [.lst (nsD l)] (.int ((l.sum:Nat):Int)):=by
 have c:=cl_sumM (prog:=prog) (w:=w) (T:=T) (n:=n+1) (xs:=l) (h:=fun d:Nat=>(d:Int)) K.sum
 rwa [sum_nonneg (fun d:Nat=>d) l,List.map_id'] at c
theorem td_body (hz:x.length+1=z) (hfr:tFresh held z=fr) (hh:held / 16 ^ z+fr*16 ^ (width - z)=h') (hb:begun+fr=b') (ok:TOk width held z h' b') (ht:told.length≤900) :
  SxL prog w g T (n+1) tdSc (σtw width held begun ws told k x) (stP tdFor).body (.next (σtd width h' b' ws (told++[enD width (h',b')]))):=by
 have hw:=ok.zw
 have hz20:z≤20:=Nat.le_trans hw ok.w
 have hx:x.length≤lim:=Nat.le_trans (Nat.le_trans (hz▸Nat.le_succ _:x.length≤z) hz20) (by decide)
 have hr:held % 16 ^ z<2 ^ 140:=Nat.lt_of_le_of_lt (Nat.mod_le _ _) ok.lh
 have hp:16 ^ (width - z)<2 ^ 140:=pow16_lt (Nat.le_trans (Nat.sub_le ..) (Nat.le_trans ok.w (by decide)))
 have hfr':fr≤2 ^ 64:=Nat.le_trans (Nat.le_trans (hb▸Nat.le_add_left ..) (Nat.le_of_lt ok.lb)) (by decide)
 have hsp:sm ((16 ^ (width - z):Nat):Int)=true:=decide_eq_true (Int.natAbs_natCast (16 ^ (width - z))▸Nat.lt_trans hp (by decide))
 have h900:(900:Nat)≤lim:=by decide
 refine SxL.cons (Sx.assign (Ev.bin (Ev.call rfl (EvL.more (fun _=>rfl) (Ev.name rfl) EvL.nil) (cl_len_str K.len hx)) Ev.int (bin_addN (b:=1) hz)) (fun _ _ _=>rfl) rfl) ?_
 refine SxL.cons (Sx.assignTup (b:=[(Str.ofString "goes",.int ((held / 16 ^ z:Nat):Int)),(Str.ofString "torn",.int ((held % 16 ^ z:Nat):Int))]) (Ev.call rfl (EvL.more (fun _=>rfl) (Ev.name rfl) (EvL.more (fun _=>rfl) (Ev.bin Ev.int (Ev.name rfl) (bin_pow16 (Nat.le_trans hz20 (by decide)))) (EvL.more (fun _=>rfl) (Ev.bin (Ev.name rfl) Ev.int (bin_modN (a:=k) (b:=3) (by decide))) EvL.nil))) (td_torn K ok.lh hz20)) (fun _ _ _=>rfl) (fun _=>rfl) (.cons (.cons .nil)) (stAll_of rfl)) ?_
 refine SxL.cons (Sx.assign (d:=.int (fr:Int)) (hfr▸Ev.call rfl (EvL.more (fun _=>rfl) (Ev.call rfl (EvL.more (fun _=>rfl) (Ev.name rfl) (EvL.more (fun _=>rfl) Ev.int EvL.nil)) (K.i2d' hr)) EvL.nil) (td_sum K)) (fun _ _ _=>rfl) rfl) ?_
 refine SxL.cons (Sx.assignTupX (xs:=["held", "begun"]) (ds:=[.int (h':Int),.int (b':Int)]) (EvL.more (fun _=>rfl) (Ev.bin (Ev.name rfl) (Ev.bin (Ev.name rfl) (Ev.bin Ev.int (Ev.bin (Ev.name rfl) (Ev.name rfl) (bin_subN (Nat.add_sub_of_le hw))) (bin_pow16 (Nat.le_trans (Nat.sub_le ..) (Nat.le_trans ok.w (by decide))))) (bin_mulN hfr' hsp)) (bin_addN hh)) (EvL.more (fun _=>rfl) (Ev.bin (Ev.name rfl) (Ev.name rfl) (bin_addN hb)) EvL.nil)) (show (2:Nat)≤lim by decide) (.cons (.cons .nil)) rfl (by decide) (by decide) rfl) ?_
 refine SxL.cons (Sx.assign (Ev.call rfl (EvL.more (fun _=>rfl) (Ev.name rfl) (EvL.more (fun _=>rfl) Ev.int EvL.nil)) (K.i2d' ok.lh')) (fun _ _ _=>rfl) rfl) ?_
 refine SxL.cons (Sx.assignComp (ds:=(roomsOf (ds4 h').length).map fun (r:Nat)=>D.int (r:Int)) (outs:=(fillsOf width (ds4 h')).map .int) (fun c hc=>(List.mem_cons.mp hc).elim (fun e=>e▸rfl) fun hc=>List.mem_singleton.mp hc▸rfl) (fun _ _=>rfl) rfl rfl
  (rooms_rng _▸EvI.range3 rfl K.ran (fun _ _=>rfl) (fun _ _=>rfl) (fun _ _=>rfl) (Ev.bin (Ev.call rfl (EvL.more (fun _=>rfl) (Ev.name rfl) EvL.nil) (cl_len_lst K.len (by rw [List.length_map]; exact Nat.le_trans ok.c h900))) Ev.int ((congrArg (fun k:Nat=>(k:Int) - 1) (List.length_map (as:=ds4 h') fun d:Nat=>D.int d))▸bin_sub)) (Ev.neg Ev.int) (Ev.neg Ev.int) (midI_iff.mpr (by have:=ok.c; omega)) rfl rfl (by decide))
  (fills_map _ _▸loop_flat (enc:=fun r:Nat=>D.int (r:Int)) (q:=fun _=>true) fun room hm=>⟨[(Str.ofString "room",.int (room:Int))],.name,stAll_of rfl,rfl,.nil,fun _=>?_⟩) (by rw [List.length_map]; exact Nat.le_trans ok.f h900) rfl) ?_
 ·have hlt:=rooms_lt hm
  have hget:(ds4 h')[room]?=some ((ds4 h').getD room 0):=by rw [List.getD_eq_getElem?_getD,List.getElem?_eq_getElem hlt]; rfl
  have hc9:(ds4 h').getD room 0≤900:=ok.d _ (List.mem_of_getElem? hget)
  have hr9:room≤900:=Nat.le_trans (Nat.le_of_lt hlt) ok.c
  exact body_gen (rng_nat _▸EvI.range1 rfl K.ran (fun _ _=>rfl) (Ev.item (Ev.name rfl) (Ev.name rfl) (fun _ _=>rfl) (item_at (k:=room) rfl (small_nat hr9) (by rw [List.getElem?_map,hget]; rfl))) (midI_iff.mpr (by omega))) (fun _ _=>rfl) (loop_each (enc:=fun i:Nat=>D.int (i:Int)) fun i _=>⟨[(Str.ofString "_",.int (i:Int))],.name,stAll_of rfl,rfl,Ev.bin (Ev.name rfl) (Ev.name rfl) bin_sub⟩)
 refine SxL.cons (Sx.assignTup (b:=[(Str.ofString "rows",.int ((b' / (width+1):Nat):Int)),(Str.ofString "more",.int ((b' % (width+1):Nat):Int))]) (fdiv_nat b' (width+1)▸fmod_nat b' (width+1)▸Ev.call rfl (EvL.more (fun _=>rfl) (Ev.name rfl) (EvL.more (fun _=>rfl) (Ev.bin (Ev.name rfl) Ev.int (bin_addN (b:=1) rfl)) EvL.nil)) (cl_divmod K.dm (Int.ofNat_ne_zero.mpr (Nat.succ_ne_zero _)) (sm_nat (Nat.le_trans (Nat.succ_le_succ ok.w) (by decide))))) (fun _ _ _=>rfl) (fun _=>rfl) (.cons (.cons .nil)) (stAll_of rfl)) ?_
 have hF:(fillsOf width (ds4 h')).length≤lim:=Nat.le_trans ok.f h900
 have hP:∀ lo hi:Option Int,((pick (fillsOf width (ds4 h')) lo hi none).map D.int).length≤lim:=fun lo hi=>by rw [List.length_map]; exact Nat.le_trans (pick_length _ (by decide)) hF
 refine SxL.cons (Sx.assign (d:=.lst ((tFills width (h',b')).map D.int)) (List.map_append (f:=D.int)▸Ev.bin (Ev.slice (Ev.name rfl) (.some' (Ev.name rfl)) .none' .none' (slice_map rfl hF)) (Ev.slice (Ev.name rfl) .none' (.some' (Ev.name rfl)) .none' (slice_map rfl hF)) (bin_lst (hP _ _) (hP _ _))) (fun _ _ _=>rfl) rfl) ?_
 refine SxL.post (SxL.cons (Sx.append (d:=enD width (h',b')) rfl (fun _=>rfl) rfl (Ev.tup (EvL.more (fun _=>rfl) (Ev.name rfl) (EvL.more (fun _=>rfl) (List.map_map (f:=stOf width b') (g:=colD)▸EvO.ev (EvO.each (enc:=fun p:Int×Nat=>D.tup [.int (p.2:Int),.int p.1]) (xs:=(tFills width (h',b')).zipIdx) rfl rfl (fun _ _=>rfl) (EvI.enumM (enc:=D.int) rfl K.enum (fun _ _=>rfl) (Ev.name rfl)) (by rw [List.length_zipIdx]; exact Nat.le_trans ok.f' h900) fun p hp=>⟨[(Str.ofString "head",.int (p.2:Int)),(Str.ofString "fill",.int p.1)],.tup (.cons (.cons .nil)),stAll_of rfl,rfl,?_⟩)) EvL.nil)) (show (2:Nat)≤lim by decide)) (Nat.le_trans ht h900)) SxL.nil) ?_
 ·exact Ev.tup (EvL.more (fun _=>rfl) (Ev.bin (Ev.name rfl) (Ev.call rfl (EvL.more (fun _=>rfl) (Ev.cmp (Ev.name rfl) (Ev.bin (Ev.name rfl) (Ev.name rfl) bin_sub) rfl cmp_gt) EvL.nil) (cl_intB K.int)) bin_add) (EvL.more (fun _=>rfl) (Ev.name rfl) EvL.nil)) (show (2:Nat)≤lim by decide)
 ·exact .next (.cons rfl (.cons rfl (.cons rfl (.cons rfl (.cons rfl .nil)))))
end
end
section
noncomputable abbrev szW (ws:List Str):List Nat:=ws.map fun x=>x.length+1
section
variable {prog:Program}{w:World}{g:Heap}{T:Tabs}{n:Nat}{width:Nat}{ws:List Str}
theorem td_loop (K:TdK prog w g T (n+1)):∀ {xs:List Str}{k held begun:Nat}{told:List D},toldOk width (szW xs) held begun→told.length+xs.length≤900 →
  ForR prog w g T (n+1) tdSc (stP tdFor).test (stP tdFor).body (numbered k (xs.map .str)) (σtd width held begun ws told) (.next [(Str.ofString "told",.own (told++(toldS width (szW xs) held begun).map (enD width)))]):=by
 intro xs
 induction xs with
 | nil =>
  intro k held begun told _ _
  rw [show toldS width (szW []) held begun=[] from rfl,show ([]:List (Nat×Nat)).map (enD width)=[] from rfl,List.append_nil]
  exact .weak (σ₁:=[(Str.ofString "told",.own told)]) (.cons rfl .nil) .nil
 | cons x xs ih =>
  intro k held begun told ok hn
  have go:=ih (k:=k+1) (told:=told++[enD width (tHeld width held (x.length+1),begun+tFresh held (x.length+1))]) ok.2 (by rw [List.length_append,List.length_singleton,Nat.add_assoc,Nat.add_comm 1]; exact hn)
  rw [List.append_assoc] at go
  exact .step (.tup (.cons (.cons .nil))) (stAll_of rfl) (td_body K rfl rfl rfl rfl ok.1 (Nat.le_trans (Nat.le_add_right _ _) hn)) go
theorem fns_told:FnS tdSc [Str.ofString "width",Str.ofString "words"]:=⟨⟨rfl,rfl,rfl,by decide +kernel⟩,by decide +kernel⟩
theorem cl_told {a:Addr}(K:TdK prog w g T (n+1)) (hf:FnAt g a tdSc [Str.ofString "width",Str.ofString "words"] tdB) (hg:Glb g "_law_told" (.ref a)) (hw:width≤20) (ok:toldOk width (szW ws) (tStart width) 0) (hn:ws.length≤900) :
  ClV prog w g T (n+2) "_law_told" [.int (width:Int),.lst (ws.map .str)] (.lst ((toldS width (szW ws) (tStart width) 0).map (enD width))):=by
 have hp:=pow16_lt (k:=width+1) (Nat.succ_le_succ hw)
 have hpos:0<16 ^ (width+1):=Nat.pow_pos (by decide)
 have q:quo ((16 ^ (width+1) - 1:Nat):Int) 15=.tup [.int (tStart width:Int),.int (((16 ^ (width+1) - 1) % 15:Nat):Int)]:=by
  show D.tup [.int (Int.fdiv _ ((15:Nat):Int)),.int (Int.fmod _ ((15:Nat):Int))]=_
  rw [fdiv_nat,fmod_nat]; rfl
 have c:=K.id (a:=((16 ^ (width+1) - 1:Nat):Int)) (b:=15) (by decide) (by rw [Int.natAbs_natCast]; exact Nat.le_trans (Nat.sub_le ..) (Nat.le_trans (Nat.le_of_lt hp) (by decide))) (by decide)
 rw [q] at c
 have loop:=td_loop (ws:=ws) (xs:=ws) (k:=0) (told:=[]) K ok (by rw [List.length_nil,Nat.zero_add]; exact hn)
 refine .fn hg hf fns_told rfl (SxL.cons (Sx.assignTupO (x := "told") (xs:=["held", "begun", "told"]) (f:=fun b=>[.int (tStart width:Int),.int ((0:Nat):Int),.adr b]) (EvLX.val (fun _=>rfl) (Ev.item (Ev.call rfl (EvL.more (fun _=>rfl) (Ev.bin (Ev.bin Ev.int (Ev.bin (Ev.name rfl) Ev.int (bin_addN (b:=1) rfl)) (bin_pow16 (Nat.le_trans (Nat.succ_le_succ hw) (by decide)))) Ev.int (bin_subN (b:=1) (Nat.add_sub_of_le hpos))) (EvL.more (fun _=>rfl) Ev.int EvL.nil)) c) Ev.int (fun _ _=>rfl) (it_tup (k:=0) rfl rfl rfl)) (EvLX.val (fun _=>rfl) Ev.int (EvLX.own (fun _=>rfl) (EvO.list EvL.nil (Nat.zero_le _)) EvL.nil)))
  (fun _=>(by decide:(3:Nat)≤lim)) (.cons (.cons (.cons .nil))) (fun _=>rfl) rfl (by decide) rfl (fun b=>.tail _ (.tail _ (.head _))) (σ':=σtd width (tStart width) 0 ws []) ?_) (SxL.cons (Sx.for (EvI.enum rfl K.enum (fun _ _=>rfl) (Ev.name rfl)) (fun _ _=>rfl) loop) (SxL.last (Sx.retF (Ev.name rfl)))))
 exact fun b=>Sub.cons rfl (.cons rfl (.cons rfl (.cons rfl (.cons rfl .nil))))
end
end
section
noncomputable def rowOf (ws:List Str) (col:List (Int×Int)) (r:Int):Str:=Str.join es0 (((ws.zip col).filter fun p=>p.2.1==r).map fun p=>sp1++p.1)
noncomputable def rowsOf (ws:List Str) (col:List (Int×Int)) (m:Nat):List Str:=(List.range m).map fun (i:Nat)=>rowOf ws col (i:Int)
noncomputable def nlS:Str:=Str.ofString "\n"
noncomputable def txRows (rs:List Str) (u:Str):List Str:=addLine rs u (stripS true true u sp1==es0)
section
variable {ws l:List Str}{col:List (Int×Int)}{r:Int}{sep x y:Str}{b c:Bool}{B N:Nat}
theorem zipD_map (ws:List Str):∀ col:List (Int×Int),zipD (ws.map .str) (col.map colD)=(ws.zip col).map fun p=>D.tup [.str p.1,colD p.2]:=by
 induction ws with
 | nil=>exact fun _=>rfl
 | cons w ws ih =>
  intro col
  cases col with
  | nil=>rfl
  | cons c col=>exact congrArg (_ :: ·) (ih col)
theorem stripS_len (l r:Bool) (x y:Str):(stripS l r x y).length≤x.length:=by
 unfold stripS
 split
 ·exact Nat.le_refl _
 ·unfold PySem.stripped Builtin.Str.strSub
  simp only [Str.length]
  first | (simp; omega) | simp
theorem sumLen_le (h:∀ x∈l,x.length+sep.length≤B):sumLen sep l≤l.length*B:=by
 have e:∀ k,l.foldl (fun n p=>n+p.length+sep.length) k=k+(l.map fun p=>p.length+sep.length).sum:=by
  induction l with
  | nil=>exact fun _=>rfl
  | cons x l ih=>intro k; rw [List.foldl_cons,ih fun y hy=>h y (.tail _ hy),List.map_cons,List.sum_cons,Nat.add_assoc,Nat.add_assoc,Nat.add_assoc]
 unfold sumLen
 rw [e,Nat.zero_add]
 exact sum_le _ B l h
theorem join_le (h:∀ x∈l,x.length+sep.length≤B):(Str.join sep l).length≤l.length*B+l.length*B:=by
 refine Nat.le_trans (PySem.StrLaws.join_length_le sep l) (Nat.add_le_add (sum_le _ B l fun x hx=>Nat.le_trans (Nat.le_add_right _ _) (h x hx)) ?_)
 cases l with
 | nil=>rw [List.length_nil,Nat.zero_mul]; exact Nat.zero_le _
 | cons x l=>exact Nat.mul_le_mul_left _ (Nat.le_trans (Nat.le_add_left _ _) (h x (.head _)))
theorem mt_joinB {prog:Program}{w:World}{g:Heap}{T:Tabs}{n:Nat}(hn:l.length≤100) (h:∀ x∈l,x.length+sep.length≤1000):MtV prog w g T n "join" (.str sep) [.lst (l.map .str)] (.str (Str.join sep l)) :=
 have h2:l.length*1000+l.length*1000≤lim:=Nat.le_trans (Nat.add_le_add (Nat.mul_le_mul_right 1000 hn) (Nat.mul_le_mul_right 1000 hn)) (by decide)
 mt_join (Nat.le_trans (sumLen_le h) (Nat.le_trans (Nat.le_add_right _ _) h2)) (Nat.le_trans (join_le h) h2)
theorem row_mem (h:∀ x∈ws,x.length≤8):∀ x∈((ws.zip col).filter fun p=>p.2.1==r).map fun p=>sp1++p.1,x.length≤9:=fun x hx=>by
 obtain ⟨p,hp,rfl⟩:=List.mem_map.mp hx
 rw [str_len,Nat.add_comm]
 exact Nat.add_le_add (h _ (List.of_mem_zip (List.mem_filter.mp hp).1).1) (by decide:sp1.length≤1)
theorem row_n:(((ws.zip col).filter fun p=>p.2.1==r).map fun p=>sp1++p.1).length≤ws.length:=by
 rw [List.length_map]
 exact Nat.le_trans (List.length_filter_le _ _) (List.length_zip▸Nat.min_le_left _ _)
theorem rowOf_len (hn:ws.length≤30) (h:∀ x∈ws,x.length≤8):(rowOf ws col r).length≤270 :=
 Nat.le_trans (join0_len _) (Nat.le_trans (sum_le _ 9 _ (row_mem h)) (Nat.mul_le_mul_right 9 (Nat.le_trans row_n hn)))
theorem idx_init (n k:Nat) (h:k≤n) (hk:0<k):pickIdx n none (some (-(k:Int))) none=List.range (n - k):=by
 have e:clipAt n (-(k:Int))=n - k:=by
  unfold clipAt
  have e : -(k:Int)+(n:Int)=((n - k:Nat):Int):=by rw [Int.natCast_sub h,Int.sub_eq_add_neg,Int.add_comm]
  rw [if_pos (Int.neg_neg_of_pos (Int.natCast_pos.mpr hk)),e,Int.min_eq_left (Int.ofNat_le.mpr (Nat.sub_le n k)),Int.max_eq_right (Int.natCast_nonneg _),Int.toNat_natCast]
 unfold pickIdx
 rw [sliceBounds_plain]
 show sliceRange ((0:Nat):Int) ((clipAt n (-(k:Int)):Nat):Int) 1=_
 rw [e,sliceRange_one]; simp
theorem range_pick {α:Type}(l r:List α):(List.range l.length).filterMap ((l++r)[·]?)=l:=by
 induction l with
 | nil=>rfl
 | cons a l ih =>
  rw [List.length_cons,List.range_succ_eq_map,List.filterMap_cons]
  simp only [List.cons_append,List.getElem?_cons_zero,List.filterMap_map]
  congr 1
theorem pick_init {α:Type}(l r:List α) (hr:0<r.length):pick (l++r) none (some (-(r.length:Int))) none=l:=by
 unfold pick
 rw [idx_init _ _ (List.length_append▸Nat.le_add_left _ _) hr,List.length_append,Nat.add_sub_cancel]
 exact range_pick l r
end
end
section
noncomputable abbrev txB:List Stmt:=bodyOf (fn1 "_law_text")
noncomputable abbrev txSc:Scope:=scopeOf (fn1 "_law_text")
theorem fns_text:FnS txSc [Str.ofString "words",Str.ofString "column"]:=⟨⟨rfl,rfl,rfl,by decide +kernel⟩,by decide +kernel⟩
noncomputable abbrev σtx (ws:List Str) (col:List (Int×Int)):Sto:=params ["words", "column"] [.lst (ws.map .str),.lst (col.map colD)]
section
variable {prog:Program}{w:World}{g:Heap}{T:Tabs}{n m:Nat}{f:Int}{σ:Sto}{ws w0 rs:List Str}{wl u u':Str}{cs:List (Int×Int)}
theorem Sub.same {x:Str}{sl:Sl}(h:σ.lookup x=some sl):Sub ((x,sl)::σ) σ:=fun y sl' e=>by
 rw [lookup_cons'] at e
 by_cases c:y=x
 ·rw [if_pos c] at e; rw [c,h]; exact e
 ·rw [if_neg c] at e; exact e
theorem last_it {α:Type}{enc:α→D}{l:List α}{x:α}(hz:l.length≤900):ItemV prog w g T (.lst ((l++[x]).map enc)) (-1) (enc x):=by
 rw [List.map_append]
 exact item_last (by rw [List.length_append,List.length_map]; exact Nat.le_trans (Nat.succ_le_succ hz) (by decide))
theorem tx_rows (gra:Glb g "range" (.type "range")) (gzip:Glb g "zip" (.type "zip")) (hm:m≤30) (hn:ws.length≤30) (h8:∀ x∈ws,x.length≤8) (hc:cs.length≤900) :
  Sx prog w g T (n+1) txSc (σtx ws (cs++[((m:Int),f)])) (nth txB 0) (.next ((Str.ofString "rows",.val (.lst ((rowsOf ws (cs++[((m:Int),f)]) m++[rowOf ws (cs++[((m:Int),f)]) m]).map .str)))::σtx ws (cs++[((m:Int),f)]))):=by
 have e:((rowsOf ws (cs++[((m:Int),f)]) m++[rowOf ws (cs++[((m:Int),f)]) m]).map D.str)=(List.range (m+1)).map fun i:Nat=>D.str (rowOf ws (cs++[((m:Int),f)]) i):=by
  rw [List.range_succ,List.map_append,List.map_append]
  exact congrArg (· ++ _) (List.map_map ..)
 rw [e]
 refine Sx.assignComp (fun c hc=>List.mem_singleton.mp hc▸rfl) (fun _ _=>rfl) rfl rfl (rng_nat (m+1)▸EvI.range1 rfl gra (fun _ _=>rfl) (Ev.bin (Ev.item (Ev.item (Ev.name rfl) (Ev.neg Ev.int) (fun _ _=>rfl) (last_it hc)) Ev.int (fun _ _=>rfl) (it_tup (k:=0) rfl rfl rfl)) Ev.int (bin_addN (b:=1) rfl)) (midI_iff.mpr (by omega)))
  (loop_each (enc:=fun i:Nat=>D.int (i:Int)) fun i _=>⟨[(Str.ofString "row",.int (i:Int))],.name,stAll_of rfl,rfl,?_⟩) (by rw [List.length_map,List.length_range]; exact Nat.le_trans (Nat.succ_le_succ hm) (by decide)) rfl
 refine Ev.methG (fun _=>rfl) rfl (by decide) Ev.str (EvL.more (fun _=>rfl) (EvO.ev (EvO.some (enc:=fun p:Str×(Int×Int)=>D.tup [.str p.1,colD p.2]) (xs:=ws.zip (cs++[((m:Int),f)])) (q:=fun p=>p.2.1==(i:Int)) (f:=fun p=>D.str (sp1++p.1)) rfl rfl (fun _ _=>rfl) (zipD_map _ _▸EvI.zip rfl gzip (fun _ _=>rfl) (fun _ _=>rfl) (Ev.name rfl) (Ev.name rfl)) (List.length_zip▸Nat.le_trans (Nat.min_le_left _ _) (Nat.le_trans hn (by decide))) fun p hp =>
  ⟨[(Str.ofString "word",.str p.1),(Str.ofString "state",colD p.2)],.tup (.cons (.cons .nil)),stAll_of rfl,rfl,EvT.cmp (Ev.item (Ev.name rfl) Ev.int (fun _ _=>rfl) (it_tup (k:=0) rfl rfl rfl)) (Ev.name rfl) rfl cmp_eq,fun _=>Ev.bin Ev.str (Ev.name rfl) (bin_str (by decide) ?_)⟩)) EvL.nil) ?_
 ·exact Nat.le_trans (h8 _ (List.of_mem_zip hp).1) (by decide)
 ·exact List.map_map (f:=fun p:Str×(Int×Int)=>sp1++p.1) (g:=D.str)▸mt_joinB (sep:=es0) (Nat.le_trans row_n (Nat.le_trans hn (by decide))) fun x hx=>Nat.le_trans (Nat.add_le_add (row_mem h8 x hx) (Nat.le_of_eq es0_len)) (by decide)
theorem pick1 {α:Type}(l:List α) (x:α):pick (l++[x]) none (some (-1)) none=l:=pick_init l [x] (Nat.succ_pos _)
theorem pick2 {α:Type}(l:List α) (y x:α):pick (l++[y,x]) none (some (-2)) none=l:=pick_init l [y,x] (Nat.succ_pos _)
theorem sl1 {α:Type}{enc:α→D}{l:List α}{x:α}(hz:(l++[x]).length≤lim):SliV prog w g T (.lst ((l++[x]).map enc)) none (some (-1)) none (.lst (l.map enc)):=by
 have:=slice_map (prog:=prog) (w:=w) (g:=g) (T:=T) (enc:=enc) (lo:=none) (hi:=some (-1)) (st:=none) rfl hz
 rwa [pick1] at this
theorem sl2 {α:Type}{enc:α→D}{l:List α}{y x:α}(hz:(l++[y]++[x]).length≤lim):SliV prog w g T (.lst ((l++[y]++[x]).map enc)) none (some (-2)) none (.lst (l.map enc)):=by
 rw [List.append_assoc] at hz ⊢
 have:=slice_map (prog:=prog) (w:=w) (g:=g) (T:=T) (enc:=enc) (lo:=none) (hi:=some (-2)) (st:=none) rfl hz
 rwa [show l++([y]++[x])=l++[y,x] from rfl,pick2] at this
section
variable (hr:σ.lookup (Str.ofString "rows")=some (.val (.lst ((rs++[u]).map .str))))
include hr
theorem tx_cut (hw:(froz σ).lookup (Str.ofString "words")=some (.val (.lst ((w0++[wl]).map .str)))) (hu:(if (wl==es0)=true then pickS u none (some (-1)) none else u)=u') (h1:w0.length≤900) (h2:rs.length≤900) (h3:u'.length≤900) :
  Sx prog w g T (n+1) txSc σ (nth txB 1) (.next ((Str.ofString "rows",.val (.lst ((rs++[u']).map .str)))::σ)):=by
 have hz:(rs++[u]).length≤lim:=by rw [List.length_append]; exact Nat.le_trans (Nat.succ_le_succ h2) (by decide)
 refine Sx.ite (b:=wl==es0) (EvT.cmp (Ev.item (Ev.name hw) (Ev.neg Ev.int) (fun _ _=>rfl) (last_it h1)) Ev.str rfl cmp_eqS) ?_
 cases c:(wl==es0) with
 | true =>
  rw [c] at hu
  have hp:pickS u none (some (-1)) none=u':=hu
  refine SxL.cons (Sx.assign (List.map_append (f:=D.str)▸Ev.bin (Ev.slice (Ev.name hr) .none' (.some' (Ev.neg Ev.int)) .none' (sl1 hz)) (Ev.list (EvL.more (fun _=>rfl) (hp▸Ev.slice (Ev.item (Ev.name hr) (Ev.neg Ev.int) (fun _ _=>rfl) (last_it h2)) .none' (.some' (Ev.neg Ev.int)) .none' (slice_str rfl (hp▸Nat.le_trans h3 (by decide)))) EvL.nil) (show (1:Nat)≤lim by decide)) (bin_lst ?_ (show (1:Nat)≤lim by decide))) (fun _ _ _=>rfl) rfl) SxL.nil
  rw [List.length_map]
  exact Nat.le_trans h2 (by decide)
 | false =>
  rw [c] at hu
  have hp:u=u':=hu
  exact SxL.post SxL.nil (.next (hp▸Sub.same hr))
theorem tx_glu (gl:Glb g "len" (.builtin "len")) (h2:rs.length≤900) (h3:u.length≤900) (h4:∀ x∈rs,x.length≤900) :
  Sx prog w g T (n+1) txSc σ (nth txB 2) (.next ((Str.ofString "rows",.val (.lst ((txRows rs u).map .str)))::σ)):=by
 have hf:(froz σ).lookup (Str.ofString "rows")=some (.val (.lst ((rs++[u]).map .str))):=(froz_lookup σ _).trans (by rw [hr]; rfl)
 have hl:((rs++[u]).map D.str).length=rs.length+1:=by rw [List.length_map,List.length_append]; rfl
 have hz:(rs++[u]).length≤lim:=by rw [List.length_append]; exact Nat.le_trans (Nat.succ_le_succ h2) (by decide)
 refine Sx.ite (b:=decide (((((rs++[u]).map D.str).length:Nat):Int)>1)&&((stripS true true u sp1==es0)&&true)) (EvT.bool (EvA.and_cons (EvT.cmp (Ev.call rfl (EvL.more (fun _=>rfl) (Ev.name hf) EvL.nil) (cl_len_lst gl (by rw [List.length_map]; exact hz))) Ev.int rfl cmp_gt) fun _=>EvA.and_cons (EvT.cmp (Ev.methG (fun _=>rfl) rfl (by decide) (Ev.item (Ev.name hf) (Ev.neg Ev.int) (fun _ _=>rfl) (last_it h2)) (EvL.more (fun _=>rfl) Ev.str EvL.nil) (mt_strip (Nat.le_trans (stripS_len ..) (Nat.le_trans h3 (by decide))))) Ev.str rfl cmp_eqS) fun _=>EvA.and_nil)) ?_
 have hb:(decide (((((rs++[u]).map D.str).length:Nat):Int)>1)&&((stripS true true u sp1==es0)&&true))=((stripS true true u sp1==es0) && !rs.isEmpty):=by
  rw [hl,Bool.and_true,Bool.and_comm]
  congr 1
  cases rs with
  | nil=>rfl
  | cons x rs=>exact decide_eq_true (Int.ofNat_lt.mpr (Nat.succ_lt_succ (Nat.succ_pos _)):((1:Nat):Int)<_)
 rw [hb]
 unfold txRows addLine
 by_cases c:((stripS true true u sp1==es0) && !rs.isEmpty)=true
 ·rw [if_pos c,c]
  rcases List.eq_nil_or_concat rs with rfl | ⟨r0,v,rfl⟩
  ·exact nomatch (Bool.and_eq_true_iff.mp c).2
  rw [List.concat_eq_append] at *
  have e2:r0++[v]++[u]=r0++[v,u]:=List.append_assoc ..
  have h0:r0.length≤900:=Nat.le_trans (List.length_append▸Nat.le_add_right _ _) h2
  rw [List.dropLast_concat,List.getLast?_concat]
  have it1:ItemV prog w g T (.lst ((r0++[v]++[u]).map .str)) (-1) (.str u):=last_it h2
  have it2:ItemV prog w g T (.lst ((r0++[v]++[u]).map .str)) (-2) (.str v):=it_neg (k:=2) (by decide) (by rw [hl,List.length_append]; exact Nat.le_add_left 2 _) (by decide) (by rw [hl,e2,List.length_append,List.map_append]; exact List.getElem?_append_right (Nat.le_of_eq (List.length_map _)) |>.trans (by rw [List.length_map,Nat.sub_self]; rfl))
  refine SxL.cons (Sx.assign (d:=.lst ((r0++[v++u]).map .str)) (List.map_append (f:=D.str)▸Ev.bin (Ev.slice (Ev.name hr) .none' (.some' (Ev.neg Ev.int)) .none' (sl2 hz)) (Ev.list (EvL.more (fun _=>rfl) (Ev.bin (Ev.item (Ev.name hr) (Ev.neg Ev.int) (fun _ _=>rfl) it2) (Ev.item (Ev.name hr) (Ev.neg Ev.int) (fun _ _=>rfl) it1) (bin_str (Nat.le_trans (h4 v (List.mem_append_right _ (.head _))) (by decide)) (Nat.le_trans h3 (by decide)))) EvL.nil) (show (1:Nat)≤lim by decide)) (bin_lst ?_ (show (1:Nat)≤lim by decide))) (fun _ _ _=>rfl) rfl) SxL.nil
  rw [List.length_map]
  exact Nat.le_trans h0 (by decide)
 ·rw [if_neg c]
  rw [Bool.not_eq_true] at c
  rw [c]
  exact SxL.post SxL.nil (.next (Sub.same hr))
end
theorem cl_text {a:Addr}(gl:Glb g "len" (.builtin "len")) (gra:Glb g "range" (.type "range")) (gzip:Glb g "zip" (.type "zip")) (hf:FnAt g a txSc [Str.ofString "words",Str.ofString "column"] txB) (hg:Glb g "_law_text" (.ref a)) (hm:m≤30) (hn:(w0++[wl]).length≤30) (h8:∀ x∈w0++[wl],x.length≤8) (hc:cs.length≤900)
  (hu:(if (wl==es0)=true then pickS (rowOf (w0++[wl]) (cs++[((m:Int),f)]) m) none (some (-1)) none else rowOf (w0++[wl]) (cs++[((m:Int),f)]) m)=u) (h3:u.length≤270) :
  ClV prog w g T (n+2) "_law_text" [.lst ((w0++[wl]).map .str),.lst ((cs++[((m:Int),f)]).map colD)] (.str (Str.join nlS (txRows (rowsOf (w0++[wl]) (cs++[((m:Int),f)]) m) u))):=by
 have hw:w0.length≤900:=Nat.le_trans (Nat.le_trans (List.length_append▸Nat.le_add_right _ _) hn) (by decide)
 have hrl:(rowsOf (w0++[wl]) (cs++[((m:Int),f)]) m).length≤30:=by rw [rowsOf,List.length_map,List.length_range]; exact hm
 have hrm:∀ x∈rowsOf (w0++[wl]) (cs++[((m:Int),f)]) m,x.length≤270:=fun x hx=>by
  obtain ⟨i,_,rfl⟩:=List.mem_map.mp hx
  exact rowOf_len hn h8
 have h900:(30:Nat)≤900:=by decide
 have hj:LsOk 31 540 (txRows (rowsOf (w0++[wl]) (cs++[((m:Int),f)]) m) u):=by
  have h0:LsOk 30 270 (rowsOf (w0++[wl]) (cs++[((m:Int),f)]) m):=⟨hrl,hrm⟩
  exact addLine_ok h0 h3
 refine .fn hg hf fns_text rfl (SxL.cons (tx_rows gra gzip hm hn h8 hc) (SxL.cons (tx_cut rfl rfl hu hw (Nat.le_trans hrl h900) (Nat.le_trans h3 (by decide))) (SxL.cons (tx_glu rfl gl (Nat.le_trans hrl h900) (Nat.le_trans h3 (by decide)) fun x hx=>Nat.le_trans (hrm x hx) (by decide)) (SxL.last (Sx.ret (Ev.methG (fun _=>rfl) rfl (by decide) Ev.str (EvL.more (fun _=>rfl) (Ev.name rfl) EvL.nil) (mt_joinB (sep:=nlS) (Nat.le_trans hj.l (by decide)) fun x hx=>Nat.le_trans (Nat.add_le_add (hj.m x hx) (by decide:nlS.length≤1)) (by decide))))))))
end
end
section
noncomputable abbrev natsD (l:List Nat):D:=.lst (nsD l)
noncomputable def moveOf (w size fill:Nat):Nat:=if fill+size≤w then fill+size else size
noncomputable abbrev movesD (w size:Nat):D:=.tup [.int (size:Int),natsD ((List.range (w+1)).map (moveOf w size))]
noncomputable def backOf (w size:Nat) (held:List Nat):List Nat:=(List.range (w+1)).filter fun f=>held.contains (moveOf w size f)
noncomputable abbrev Lv:=List (List Nat×List Nat)
noncomputable abbrev lvD (p:List Nat×List Nat):D:=.tup [natsD p.1,natsD p.2]
inductive ShR where
 | go (known:List (List Nat)) (ahead:Lv)
 | ret (t:List Nat)
noncomputable def newB (known:List (List Nat)) (b:List Nat):Bool:=b != []&&(!known.contains b&&true)
noncomputable def shM (w:Nat) (held text sizes:List Nat):List (List Nat)→Lv→ShR:=sizes.rec (fun k a=>.go k a) fun s _ ih k a =>
 if ((backOf w s held).length==w+1)=true then .ret (s::text) else if newB k (backOf w s held)=true then ih (k++[backOf w s held]) (a++[(backOf w s held,s::text)]) else ih k a
noncomputable def shL (w:Nat) (menu:List Nat) (lv:Lv):List (List Nat)→Lv→ShR:=lv.rec (fun k a=>.go k a) fun p _ ih k a=>(shM w p.1 p.2 menu k a).rec (fun k a=>ih k a) fun t=>.ret t
noncomputable def shN (w:Nat) (menu:List Nat) (n:Nat):Lv→List (List Nat)→Option (Option (List Nat)):=n.rec (fun _ _=>some none) fun _ ih lv k =>
 if (decide (lv.length≤100∧k.length≤400∧menu.length≤5)&&lv.all fun p=>decide (p.2.length≤100))=true then (shL w menu lv k []).rec (fun k a=>ih a k) fun t=>some (some t) else none
noncomputable def shStart (w:Nat):List (List Nat):=(List.range (w+1)).map fun f=>[f]
noncomputable def shortP (w:Nat) (menu:List Nat):Option (Option (List Nat)):=shN w menu (w*w) ((shStart w).map fun h=>(h,[])) (shStart w)
section
variable {prog:Program}{w:World}{g:Heap}{T:Tabs}{x y:List Nat}{k:List (List Nat)}{z:Nat}
noncomputable abbrev natP (l:List Nat):List PyData:=l.map fun x:Nat=>PyData.int x
theorem dps_nats (l:List Nat):Dps 8 (nsD l) (natP l):=by
 induction l with
 | nil=>exact .nil
 | cons a l ih=>exact .cons .int ih
theorem dps_lists (k:List (List Nat)):Dps 9 (k.map natsD) (k.map fun l=>.list (natP l)):=by
 induction k with
 | nil=>exact .nil
 | cons a l ih=>exact .cons (.lst (dps_nats a)) ih
theorem dps_nats9 (l:List Nat):Dps 9 (nsD l) (natP l):=by
 induction l with
 | nil=>exact .nil
 | cons a l ih=>exact .cons .int ih
theorem eqv_nats (x:List Nat):∀ y,PyData.eqvAll (natP x) (natP y)=(x==y):=by
 induction x with
 | nil=>intro y; cases y <;> rfl
 | cons a x ih =>
  intro y
  cases y with
  | nil=>rfl
  | cons b y =>
   show (((a:Int)==(b:Int))&&PyData.eqvAll (natP x) (natP y))=(a==b&&x==y)
   rw [ih,show ((a:Int)==(b:Int))=(a==b) from Bool.eq_iff_iff.mpr (by rw [beq_iff_eq,beq_iff_eq]; exact Int.natCast_inj)]
theorem in_nats:CmpV prog w g T .In (.int (z:Int)) (natsD x) (x.contains z):=by
 have e:((natP x).any fun y=>y.eqv (.int (z:Int)))=x.contains z:=by
  induction x with
  | nil=>rfl
  | cons a x ih =>
   show (((a:Int)==(z:Int))||(natP x).any fun y=>y.eqv (.int (z:Int)))=_
   rw [ih,List.contains_cons,show ((a:Int)==(z:Int))=(z==a) from Bool.eq_iff_iff.mpr (by rw [beq_iff_eq,beq_iff_eq]; exact ⟨fun h=>(Int.natCast_inj.mp h).symm,fun h=>h▸rfl⟩)]
 exact e▸cmp_in .int (dps_nats9 x)
theorem notin_lists:CmpV prog w g T .NotIn (natsD x) (.lst (k.map natsD)) (!k.contains x):=by
 have e:((k.map fun l=>PyData.list (natP l)).any fun y=>y.eqv (.list (natP x)))=k.contains x:=by
  induction k with
  | nil=>rfl
  | cons a k ih =>
   show (PyData.eqvAll (natP a) (natP x)||(k.map fun l=>PyData.list (natP l)).any fun y=>y.eqv (.list (natP x)))=_
   rw [ih,List.contains_cons,eqv_nats,show (a==x)=(x==a) from Bool.eq_iff_iff.mpr (by rw [beq_iff_eq,beq_iff_eq]; exact eq_comm)]
 exact e▸cmp_nin (.lst (dps_nats x)) (dps_lists k)
theorem ne_nil_nats:CmpV prog w g T .NotEq (natsD x) (.lst []) (x != []):=by
 have e:(!(PyData.list (natP x)).eqv (.list []))=(x != []):=by cases x <;> rfl
 exact e▸cmp_neD (.lst (dps_nats x)) (.lst .nil)
end
end
section
noncomputable abbrev shB:List Stmt:=bodyOf (fn1 "_law_shortest")
noncomputable abbrev shSc:Scope:=scopeOf (fn1 "_law_shortest")
noncomputable abbrev shOut:Stmt:=nth shB 3
noncomputable abbrev shMid:Stmt:=nth (stP shOut).body 1
noncomputable abbrev shIn:Stmt:=nth (stP shMid).body 0
noncomputable abbrev σsh (w:Nat) (menu:List Nat) (known:List (List Nat)):Sto:=[(Str.ofString "known",.own (known.map natsD)),(Str.ofString "moves",.val (.lst (menu.map (movesD w)))),(Str.ofString "width",.val (.int (w:Int)))]
noncomputable abbrev σshA (w:Nat) (menu:List Nat) (known:List (List Nat)) (ahead:Lv):Sto:=(Str.ofString "ahead",.own (ahead.map lvD))::σsh w menu known
noncomputable abbrev σhi (w:Nat) (menu:List Nat) (known:List (List Nat)) (ahead:Lv) (held text:List Nat):Sto:=(Str.ofString "text",.val (natsD text))::(Str.ofString "held",.val (natsD held))::σshA w menu known ahead
noncomputable abbrev σsz (w:Nat) (menu:List Nat) (known:List (List Nat)) (ahead:Lv) (held text:List Nat) (s:Nat):Sto:=(Str.ofString "move",.val (natsD ((List.range (w+1)).map (moveOf w s))))::(Str.ofString "size",.val (.int (s:Int)))::σhi w menu known ahead held text
noncomputable abbrev stepR (w:Nat) (menu:List Nat) (known:List (List Nat)) (ahead:Lv) (held text:List Nat) (s:Nat) (b:List Nat):Rz :=
 if (b.length==w+1)=true then .ret (natsD (s::text)) else if newB known b=true then .next (σhi w menu (known++[b]) (ahead++[(b,s::text)]) held text) else .next (σhi w menu known ahead held text)
section
variable {prog:Program}{w:World}{g:Heap}{T:Tabs}{n wd s:Nat}{menu held text b:List Nat}{known:List (List Nat)}{ahead:Lv}{σ:Sto}
variable (gl:Glb g "len" (.builtin "len")) (gra:Glb g "range" (.type "range"))
include gl
theorem cl_len_nats (h:b.length≤lim):ClV prog w g T (n+1) "len" [natsD b] (.int (b.length:Int)):=by
 have:=cl_len_lst (prog:=prog) (w:=w) (T:=T) (n:=n+1) (ds:=nsD b) gl (by rwa [List.length_map])
 rwa [List.length_map] at this
theorem sh_rest (hb:b.length≤100) (hk:known.length≤2000) (ha:ahead.length≤2000) (ht:text.length≤1000) :
  SxL prog w g T (n+1) shSc ((Str.ofString "back",.val (natsD b))::σsz wd menu known ahead held text s) ((stP shIn).body.drop 1) (stepR wd menu known ahead held text s b):=by
 have h1:(1:Nat)≤lim:=by decide
 have hret:∀ {σ':Sto}{p1 p2 p3 p4:Pos},σ'.lookup (Str.ofString "size")=some (.val (.int (s:Int)))→σ'.lookup (Str.ofString "text")=some (.val (natsD text))→Ev prog w g T (n+1) shSc σ' (.BinOp (.List [.Name "size" p1] p2) .Add (.Name "text" p3) p4) (natsD (s::text)):=fun a b =>
  Ev.bin (Ev.list (EvL.more (fun _=>rfl) (Ev.name a) EvL.nil) h1) (Ev.name b) (bin_lst h1 (by rw [List.length_map]; exact Nat.le_trans ht (by decide)))
 have hlen:EvT prog w g T (n+1) shSc (froz ((Str.ofString "back",.val (natsD b))::σsz wd menu known ahead held text s)) (stP (nth (stP shIn).body 1)).test (b.length==wd+1):=by
  have e:((b.length:Int)==((wd+1:Nat):Int))=(b.length==wd+1):=Bool.eq_iff_iff.mpr (by rw [beq_iff_eq,beq_iff_eq]; exact Int.natCast_inj)
  exact e▸EvT.cmp (Ev.call rfl (EvL.more (fun _=>rfl) (Ev.name rfl) EvL.nil) (cl_len_nats gl (Nat.le_trans hb (by decide)))) (Ev.bin (Ev.name rfl) Ev.int (bin_addN (b:=1) rfl)) rfl cmp_eq
 cases c:(b.length==wd+1) with
 | true =>
  rw [c] at hlen
  rw [stepR,c]
  exact SxL.one (Sx.ite hlen (SxL.last (Sx.ret (hret rfl rfl)))) nofun
 | false =>
  rw [c] at hlen
  rw [stepR,c]
  have hnew:EvT prog w g T (n+1) shSc (froz ((Str.ofString "back",.val (natsD b))::σsz wd menu known ahead held text s)) (stP (nth (stP shIn).body 2)).test (newB known b):=EvT.bool (EvA.and_cons (EvT.cmp (Ev.name rfl) (Ev.list EvL.nil (Nat.zero_le _)) rfl ne_nil_nats) fun _=>EvA.and_cons (EvT.cmp (Ev.name rfl) (Ev.name (d:=.lst (known.map natsD)) rfl) rfl notin_lists) fun _=>EvA.and_nil)
  refine SxL.cons (Sx.ite hlen SxL.nil) ?_
  cases c:newB known b with
  | true =>
   rw [c] at hnew
   have e1:known.map natsD++[natsD b]=(known++[b]).map natsD:=(List.map_append (f:=natsD) (l₁:=known) (l₂:=[b])).symm
   have e2:ahead.map lvD++[lvD (b,s::text)]=(ahead++[(b,s::text)]).map lvD:=(List.map_append (f:=lvD) (l₁:=ahead) (l₂:=[(b,s::text)])).symm
   have go:SxL prog w g T (n+1) shSc ((Str.ofString "back",.val (natsD b))::σsz wd menu known ahead held text s) ((stP shIn).body.drop 2) (.next ((Str.ofString "ahead",.own (ahead.map lvD++[lvD (b,s::text)]))::(Str.ofString "known",.own (known.map natsD++[natsD b]))::(Str.ofString "back",.val (natsD b))::σsz wd menu known ahead held text s)):=SxL.cons (Sx.ite hnew (SxL.cons (Sx.append (x := "known") (ds:=known.map natsD) rfl (fun _=>rfl) rfl (Ev.name rfl) (by rw [List.length_map]; exact Nat.le_trans hk (by decide))) (SxL.cons (Sx.append (x := "ahead") (ds:=ahead.map lvD) rfl (fun _=>rfl) rfl (Ev.tup (EvL.more (fun _=>rfl) (Ev.name rfl) (EvL.more (fun _=>rfl) (hret rfl rfl) EvL.nil)) (show (2:Nat)≤lim by decide)) (by rw [List.length_map]; exact Nat.le_trans ha (by decide))) SxL.nil))) SxL.nil
   rw [e1,e2] at go
   exact SxL.post go (.next (.cons rfl (.cons rfl (.cons rfl (.cons rfl (.cons rfl (.cons rfl .nil)))))))
  | false =>
   rw [c] at hnew
   exact SxL.post (SxL.cons (Sx.ite hnew SxL.nil) SxL.nil) (.next (.cons rfl (.cons rfl (.cons rfl (.cons rfl (.cons rfl (.cons rfl .nil)))))))
include gra
theorem sh_body (hw:wd≤20) (hk:known.length≤2000) (ha:ahead.length≤2000) (ht:text.length≤1000):SxL prog w g T (n+1) shSc (σsz wd menu known ahead held text s) (stP shIn).body (stepR wd menu known ahead held text s (backOf wd s held)):=by
 have hb:(backOf wd s held).length≤wd+1:=Nat.le_trans (List.length_filter_le _ _) (Nat.le_of_eq List.length_range)
 have hb':(backOf wd s held).length≤100:=Nat.le_trans hb (Nat.le_trans (Nat.succ_le_succ hw) (by decide))
 refine SxL.cons (Sx.assignComp (fun c hc=>List.mem_singleton.mp hc▸rfl) (fun _ _=>rfl) rfl rfl (rng_nat (wd+1)▸EvI.range1 rfl gra (fun _ _=>rfl) (Ev.bin (Ev.name rfl) Ev.int (bin_addN (b:=1) rfl)) (midI_iff.mpr (by omega)))
  (loop_some (enc:=fun i:Nat=>D.int (i:Int)) (f:=fun i:Nat=>D.int (i:Int)) (q:=fun f=>held.contains (moveOf wd s f)) fun f hf=>⟨[(Str.ofString "fill",.int (f:Int))],.name,stAll_of rfl,rfl,EvT.cmp (Ev.item (Ev.name rfl) (Ev.name rfl) (fun _ _=>rfl) (item_at (d:=.int ((moveOf wd s f:Nat):Int)) (k:=f) rfl (small_nat ?_) ?_)) (Ev.name rfl) rfl in_nats,fun _=>Ev.name rfl⟩) (by rw [List.length_map]; exact Nat.le_trans hb' (by decide)) rfl) (sh_rest gl hb' hk ha ht)
 ·exact Nat.le_trans (Nat.le_of_lt (List.mem_range.mp hf)) (Nat.le_trans (Nat.succ_le_succ hw) (by decide))
 ·rw [List.getElem?_map,List.getElem?_map,List.getElem?_range (List.mem_range.mp hf)]; rfl
end
end
section
noncomputable abbrev rzI (w:Nat) (menu held text:List Nat) (r:ShR):Rz:=r.rec (fun k a=>.next (σhi w menu k a held text)) fun t=>.ret (natsD t)
noncomputable abbrev rzA (w:Nat) (menu:List Nat) (r:ShR):Rz:=r.rec (fun k a=>.next (σshA w menu k a)) fun t=>.ret (natsD t)
noncomputable abbrev rzN (r:Option (List Nat)):Rz:=r.elim (.next []) fun t=>.ret (natsD t)
noncomputable abbrev ShR.Le (r:ShR) (m n:Nat):Prop:=r.rec (fun k a=>k.length≤m∧a.length≤n) fun _=>True
theorem shM_le {w:Nat}{held text sizes:List Nat}:∀ {k:List (List Nat)}{a:Lv}{m n:Nat},k.length+sizes.length≤m→a.length+sizes.length≤n→ShR.Le (shM w held text sizes k a) m n:=by
 induction sizes with
 | nil=>exact fun h h'=>⟨h,h'⟩
 | cons s sizes ih =>
  intro k a m n h h'
  show ShR.Le (if _ then _ else if _ then shM w held text sizes _ _ else shM w held text sizes k a) m n
  by_cases c:((backOf w s held).length==w+1)=true
  ·rw [if_pos c]; trivial
  ·rw [if_neg c]
   by_cases c:newB k (backOf w s held)=true
   ·rw [if_pos c]
    exact ih (by rw [List.length_append,List.length_singleton,Nat.add_assoc,Nat.add_comm 1]; exact h) (by rw [List.length_append,List.length_singleton,Nat.add_assoc,Nat.add_comm 1]; exact h')
   ·rw [if_neg c]
    exact ih (Nat.le_trans (Nat.add_le_add_left (Nat.le_succ _) _) h) (Nat.le_trans (Nat.add_le_add_left (Nat.le_succ _) _) h')
section
variable {prog:Program}{w:World}{g:Heap}{T:Tabs}{n wd:Nat}{menu held text:List Nat}
variable (gl:Glb g "len" (.builtin "len")) (gra:Glb g "range" (.type "range")) (hw:wd≤20)
include gl gra hw
theorem sh_inner (ht:text.length≤1000) {sizes:List Nat}:∀ {k:List (List Nat)}{a:Lv},k.length+sizes.length≤2000→a.length+sizes.length≤2000 →
  ForR prog w g T (n+1) shSc (stP shIn).test (stP shIn).body (sizes.map (movesD wd)) (σhi wd menu k a held text) (rzI wd menu held text (shM wd held text sizes k a)):=by
 induction sizes with
 | nil=>exact fun _ _=>.nil
 | cons s sizes ih =>
  intro k a hk ha
  have body:=sh_body (prog:=prog) (w:=w) (T:=T) (n:=n) (s:=s) (menu:=menu) (held:=held) gl gra hw (Nat.le_trans (Nat.le_add_right _ _) hk) (Nat.le_trans (Nat.le_add_right _ _) ha) ht
  have tg:Tg (stP shIn).test (movesD wd s) [(Str.ofString "size",.int (s:Int)),(Str.ofString "move",natsD ((List.range (wd+1)).map (moveOf wd s)))]:=.tup (.cons (.cons .nil))
  have up:∀ {α:Type}{l:List α}{x:α},l.length+(sizes.length+1)≤2000→(l++[x]).length+sizes.length≤2000:=fun h=>by rw [List.length_append,List.length_singleton,Nat.add_assoc,Nat.add_comm 1]; exact h
  show ForR prog w g T (n+1) shSc _ _ (movesD wd s::sizes.map (movesD wd)) _ (rzI wd menu held text (if _ then _ else if _ then shM wd held text sizes _ _ else shM wd held text sizes k a))
  unfold stepR at body
  by_cases c:((backOf wd s held).length==wd+1)=true
  ·rw [if_pos c] at body ⊢
   exact .ret tg (stAll_of rfl) body
  ·rw [if_neg c] at body ⊢
   by_cases c:newB k (backOf wd s held)=true
   ·rw [if_pos c] at body ⊢
    exact .step tg (stAll_of rfl) body (ih (up hk) (up ha))
   ·rw [if_neg c] at body ⊢
    exact .step tg (stAll_of rfl) body (ih (Nat.le_trans (Nat.add_le_add_left (Nat.le_succ _) _) hk) (Nat.le_trans (Nat.add_le_add_left (Nat.le_succ _) _) ha))
theorem sh_mid (hm:menu.length≤5) {lv:Lv}:∀ {k:List (List Nat)}{a:Lv},k.length+lv.length*5≤1900→a.length+lv.length*5≤1900→(∀ p∈lv,p.2.length≤1000) →
  ForR prog w g T (n+1) shSc (stP shMid).test (stP shMid).body (lv.map lvD) (σshA wd menu k a) (rzA wd menu (shL wd menu lv k a)):=by
 induction lv with
 | nil=>exact fun _ _ _=>.nil
 | cons p lv ih =>
  intro k a hk ha hp
  rw [List.length_cons,Nat.succ_mul, ← Nat.add_assoc] at hk ha
  have m5:∀ {x:Nat},x+lv.length*5+5≤1900→x+menu.length≤2000:=fun h=>by omega
  have run:Sx prog w g T (n+1) shSc (σhi wd menu k a p.1 p.2) shIn (rzI wd menu p.1 p.2 (shM wd p.1 p.2 menu k a)):=Sx.for (EvI.list (Ev.name rfl)) (fun _ _=>rfl) (sh_inner (n:=n) gl gra hw (hp p (.head _)) (m5 hk) (m5 ha))
  have le:=shM_le (w:=wd) (held:=p.1) (text:=p.2) (sizes:=menu) (k:=k) (a:=a) (m:=k.length+5) (n:=a.length+5) (Nat.add_le_add_left hm _) (Nat.add_le_add_left hm _)
  have tg:Tg (stP shMid).test (lvD p) [(Str.ofString "held",natsD p.1),(Str.ofString "text",natsD p.2)]:=.tup (.cons (.cons .nil))
  show ForR prog w g T (n+1) shSc _ _ (lvD p::lv.map lvD) _ (rzA wd menu ((shM wd p.1 p.2 menu k a).rec (fun k a=>shL wd menu lv k a) fun t=>.ret t))
  cases e:shM wd p.1 p.2 menu k a with
  | ret t =>
   rw [e] at run
   exact .ret tg (stAll_of rfl) (SxL.last run)
  | go k' a' =>
   rw [e] at run le
   exact .step tg (stAll_of rfl) (SxL.post (SxL.cons run SxL.nil) (.next (.cons rfl (.cons rfl (.cons rfl (.cons rfl .nil)))))) (ih (by have:=le.1; omega) (by have:=le.2; omega) fun q hq=>hp q (.tail _ hq))
theorem sh_outer {ds:List D}:∀ {lv:Lv}{k:List (List Nat)}{r:Option (List Nat)},shN wd menu ds.length lv k=some r →
  ForR prog w g T (n+1) shSc (stP shOut).test (stP shOut).body ds ((Str.ofString "level",.val (.lst (lv.map lvD)))::σsh wd menu k) (rzN r):=by
 induction ds with
 | nil=>exact fun h=>Option.some.inj h▸.weak .nil .nil
 | cons d ds ih =>
  intro lv k r h
  by_cases c:(decide (lv.length≤100∧k.length≤400∧menu.length≤5)&&lv.all fun p=>decide (p.2.length≤100))=true
  ·have h:(shL wd menu lv k []).rec (fun k a=>shN wd menu ds.length a k) (fun t=>some (some t))=some r:=(if_pos c).symm.trans h
   have c:=Bool.and_eq_true_iff.mp c
   have c1:=of_decide_eq_true c.1
   have run:Sx prog w g T (n+1) shSc ((Str.ofString "level",.val (.lst (lv.map lvD)))::σshA wd menu k []) shMid (rzA wd menu (shL wd menu lv k [])):=Sx.for (EvI.list (Ev.name rfl)) (fun _ _=>rfl) (.weak (.cons rfl (.cons rfl (.cons rfl (.cons rfl .nil)))) (sh_mid (n:=n) gl gra hw c1.2.2 (by omega) (by rw [List.length_nil]; omega) fun p hp=>Nat.le_trans (of_decide_eq_true (List.all_eq_true.mp c.2 p hp)) (by decide)))
   have pre:Sub ((Str.ofString "level",.val (.lst (lv.map lvD)))::σshA wd menu k []) ((Str.ofString "ahead",.own [])::bindAll [(Str.ofString "_",d)] ((Str.ofString "level",.val (.lst (lv.map lvD)))::σsh wd menu k)):=.cons rfl (.cons rfl (.cons rfl (.cons rfl (.cons rfl .nil))))
   cases e:shL wd menu lv k [] with
   | ret t =>
    rw [e] at run h
    cases Option.some.inj h
    exact .ret .name (stAll_of rfl) (SxL.cons (Sx.assignOwn (EvO.list EvL.nil (Nat.zero_le _)) (fun _ _ _=>rfl) rfl) (SxL.pre pre (SxL.one run nofun)))
   | go k' a' =>
    rw [e] at run h
    exact .step .name (stAll_of rfl) (SxL.cons (Sx.assignOwn (EvO.list EvL.nil (Nat.zero_le _)) (fun _ _ _=>rfl) rfl) (SxL.pre pre (SxL.cons run (SxL.frz (x := "ahead") (ds:=a'.map lvD) rfl (SxL.post (SxL.cons (Sx.assign (Ev.name rfl) (fun _ _ _=>rfl) rfl) SxL.nil) (.next (.cons rfl (.cons rfl (.cons rfl (.cons rfl .nil)))))))))) (ih h)
  ·exact nomatch (if_neg c).symm.trans h
end
end
section
section
variable {av av':List Addr}{h:Heap}{l:Addr}{us vs:List Value}{k:Nat}{v:Value}{known:List (List Nat)}{x0 x:List Nat}
theorem ints_any:∀ {us:List Value},VDs av h us (nsD x)→VDs av' h us (nsD x):=by
 induction x with
 | nil=>exact fun r=>r.i0▸.nil
 | cons y x ih=>exact fun r=>by cases r.i1 with | mk a r₁=>exact .cons (flat_int _ _ _ (a.sub (av':=[]) nofun)) (ih r₁)
theorem no_nats (r:VDs av h us (nsD x)) (r':VDs av' h us (natsD x0::known.map natsD)):False:=by
 cases r'.i1 with | mk a q =>
 cases a.i8 with | mk na e q =>
 cases x with
 | nil=>exact nomatch r.i0
 | cons y x=>cases r.i1 with | mk b _=>obtain ⟨t,z⟩:=b.i4; exact nomatch z
variable (ho:h.get? l=some (lstO us k)) (hv:VDs av' h us (natsD x0::known.map natsD))
include ho hv
theorem nats_away (r:VD av h v (natsD x)):VD (l::av) h v (natsD x):=by
 cases r.i8 with | mk na e q =>
 exact .lst (fun hm=>(List.mem_cons.mp hm).elim (fun z=>no_nats (lst_same (sinj (z▸e) ho)▸q) hv) na) e (ints_any q)
theorem lvs_away {lv:Lv}:∀ {vs:List Value},VDs av h vs (lv.map lvD)→VDs (l::av) h vs (lv.map lvD):=by
 induction lv with
 | nil=>exact fun r=>r.i0▸.nil
 | cons p lv ih =>
  intro vs r
  cases r.i1 with | mk c r₁ =>
  cases c.i7 with | mk na e q =>
  cases q.i1 with | mk a q₁ =>
  cases q₁.one1 with | mk b =>
  exact .cons (.tup (fun hm=>(List.mem_cons.mp hm).elim (fun z=>disc tgP ((z▸e).symm.trans ho) rfl) na) e (.cons (nats_away ho hv a) (.cons (nats_away ho hv b) .nil))) (ih r₁)
end
section
variable {prog:Program}{w:World}{g:Heap}{T:Tabs}{n:Nat}{σ:Sto}{known:List (List Nat)}{x0:List Nat}
theorem wp_assignComp {A:Around}{s:Shared}{av av₀:List Addr}{ow:Ow}{env:Env}{sc scope:Scope}{σ₀:Sto}{elt:Expr}{c:Comprehension}{cs:List Comprehension}{ds outs:List D}{x:Str}{p pos cpos:Pos}(F:Fm g T av ow env σ s) (ec:EC av₀ env σ₀ s.heap) (he:env.scope=sc) (hoc:ow.c=cellNames sc.names) (rm:Rm n A)
  (has:∀ c'∈c::cs,c'.is_async=0) (hsd:NoSet c.iter) (hok:compOk sc scope=true) (hcap:((cap scope σ₀).all fun p=>isVal p.2)=true) (hi:EvI prog w g T n sc σ₀ c.target c.iter ds) (hl:GLoop prog w g T (relabelS scope sc) (cellNames scope.names) elt n (cap scope σ₀) c cs ds outs) (hsz:outs.length≤lim) (hx:stOk sc (cellNames sc.names) x=true)
  (aw:∀ P vs s',Ext g T s s'→VDs (P::av₀) s'.heap vs outs→VDs (P::(ow.adr++av)) s'.heap vs outs):wpAny (model prog w) A (exec (.Assign [.Name x p] (.ListComp elt (c::cs) scope cpos) pos) env) (Mtch g T av ow env s (.next ((x,.val (.lst outs))::σ))) NoE s :=
 have cs:=canst F.ec he (hoc.symm▸hx)
 assign_used (has _ (.head _)) (wp_to ((EvO.comp has hsd hok hcap hi hl hsz) A s _ env he rm F.gk ec) fun v s₁ h₁=>by
   cases h₁ with | mk x₁ hn ho hd=>exact wp_to (wp_storeV F cs x₁ (.lst (av_new F.ec.avok hn) ho ((aw _ _ _ x₁ hd).sub fun a ha=>.tail _ ha))) fun _ s₂ h₂=>.next h₂.nx)
  (comp_core has hsd hok hcap hi hl hsz he rm F.gk ec fun P C s' xe hP hC hne acc hn=>hn.elim fun m hm=>acc.rec fun ys p r=>p.elim fun k eP =>
   comp_store F xe hC hm (wp_storeV F cs xe (.lst (vs:=ys.toList) (av_new F.ec.avok hP) eP ((aw _ _ _ xe r).sub fun a ha=>.tail _ ha))))
theorem sh_level (hk:σ.lookup (Str.ofString "known")=some (.own (natsD x0::known.map natsD))) (hz:known.length≤900):Sx prog w g T n shSc σ (nth shB 2) (.next ((Str.ofString "level",.val (.lst (((x0::known).map fun h=>(h,([]:List Nat))).map lvD)))::σ)):=fun A s av ow env he hoc rm F=>by
 cases F.ownAt hk with | @mk l us k hm ld eo r =>
 have sub:∀ a∈(ow.adr.filter (· != l))++av,a∈ow.adr++av:=fun a ha=>(List.mem_append.mp ha).elim (fun q=>List.mem_append_left _ (List.mem_filter.mp q).1) (List.mem_append_right _)
 have nl:l∉(ow.adr.filter (· != l))++av:=fun h=>(List.mem_append.mp h).elim (fun q=>absurd (List.mem_filter.mp q).2 (by rw [bne_self_eq_false]; exact Bool.false_ne_true)) (F.apt l (List.mem_map.mpr ⟨_,hm,rfl⟩))
 have back:∀ a∈ow.adr++av,a∈l::((ow.adr.filter (· != l))++av):=fun a ha=>by
  by_cases q:a=l
  ·exact q▸.head _
  ·exact .tail _ ((List.mem_append.mp ha).elim (fun z=>List.mem_append_left _ (List.mem_filter.mpr ⟨z,bne_iff_ne.mpr q⟩)) (List.mem_append_right _))
 have ec:EC ((ow.adr.filter (· != l))++av) env [(Str.ofString "known",.val (.lst (natsD x0::known.map natsD)))] s.heap:=⟨F.ec.kind,F.ec.glob,F.ec.blt,fun a ha=>F.ec.avok a (sub a ha),fun x sl e=>by
  rcases lookup_hit e with ⟨rfl,rfl⟩ | ⟨_,e⟩
  ·exact ⟨_,ld,.lst nl eo (r.sub sub)⟩
  ·exact (nomatch e),F.ec.cells⟩
 have outs:((x0::known).map fun h=>(h,([]:List Nat))).map lvD=(x0::known).map fun h=>lvD (h,[]):=List.map_map ..
 have cs:=canst (x:=Str.ofString "level") F.ec he (on:=ow.c) (by rw [hoc]; rfl)
 rw [outs]
 refine wp_assignComp (σ₀:=[(Str.ofString "known",.val (.lst (natsD x0::known.map natsD)))]) F ec he hoc rm (fun c hc=>List.mem_singleton.mp hc▸rfl) (fun _ _=>rfl) rfl rfl (EvI.list (ds:=(x0::known).map natsD) (Ev.name rfl)) (loop_each fun x _=>⟨[(Str.ofString "held",natsD x)],.name,stAll_of rfl,rfl,Ev.tup (EvL.more (fun _=>rfl) (Ev.name rfl) (EvL.more (fun _=>rfl) (Ev.list EvL.nil (Nat.zero_le _)) EvL.nil)) (show (2:Nat)≤lim by decide)⟩) (by rw [List.length_map]; exact Nat.le_trans (Nat.succ_le_succ hz) (by decide)) rfl fun P vs s' x q=>?_
 rw [← outs] at q ⊢
 have q':=lvs_away (x.get' F.gk eo (nt_lst _ _)) (x.vds F.gk r) q
 exact q'.sub fun a ha=>(List.mem_cons.mp ha).elim (fun z=>z▸.tail _ (.head _)) fun z=>(List.mem_cons.mp (back a z)).elim (fun z=>z▸.head _) fun z=>.tail _ (.tail _ z)
end
end
section
theorem fns_short:FnS shSc [Str.ofString "width",Str.ofString "menu"]:=⟨⟨rfl,rfl,rfl,by decide +kernel⟩,by decide +kernel⟩
section
variable {prog:Program}{w:World}{g:Heap}{T:Tabs}{n wd:Nat}{menu:List Nat}{r:Option (List Nat)}
theorem shStart_cons (w:Nat):shStart w=[0]::(List.range w).map fun i=>[i+1]:=by
 unfold shStart
 rw [List.range_succ_eq_map,List.map_cons,List.map_map]
 rfl
noncomputable abbrev σmn (wd:Nat) (menu:List Nat):Sto:=params ["width", "menu"] [.int (wd:Int),natsD menu]
theorem sh_moves (gra:Glb g "range" (.type "range")) (hw:wd≤20) (hm:menu.length≤100):Sx prog w g T (n+1) shSc (σmn wd menu) (nth shB 0) (.next ((Str.ofString "moves",.val (.lst (menu.map (movesD wd))))::σmn wd menu)):=by
 refine Sx.assignComp (fun c hc=>List.mem_singleton.mp hc▸rfl) (fun _ _=>rfl) rfl rfl (EvI.list (Ev.name rfl)) (loop_each (enc:=fun s:Nat=>D.int (s:Int)) fun s _=>⟨[(Str.ofString "size",.int (s:Int))],.name,stAll_of rfl,rfl,?_⟩) (by rw [List.length_map]; exact Nat.le_trans hm (by decide)) rfl
 have e0:natsD ((List.range (wd+1)).map (moveOf wd s))=.lst ((List.range (wd+1)).map fun i=>D.int ((moveOf wd s i:Nat):Int)):=congrArg D.lst (List.map_map ..)
 unfold movesD
 rw [e0]
 refine Ev.tup (EvL.more (fun _=>rfl) (Ev.name rfl) (EvL.more (fun _=>rfl) (EvO.ev (EvO.each (enc:=fun i:Nat=>D.int (i:Int)) (xs:=List.range (wd+1)) rfl rfl (fun _ _=>rfl) (rng_nat (wd+1)▸EvI.range1 rfl gra (fun _ _=>rfl) (Ev.bin (Ev.name rfl) Ev.int (bin_addN (b:=1) rfl)) (midI_iff.mpr (by omega))) (by rw [List.length_range]; exact Nat.le_trans (Nat.succ_le_succ hw) (by decide)) fun i _=>⟨[(Str.ofString "fill",.int (i:Int))],.name,stAll_of rfl,rfl,?_⟩)) EvL.nil)) (show (2:Nat)≤lim by decide)
 have e:D.int ((moveOf wd s i:Nat):Int)=if decide (((i+s:Nat):Int)≤(wd:Int)) then .int ((i+s:Nat):Int) else .int (s:Int):=by
  unfold moveOf
  by_cases c:i+s≤wd
  ·rw [if_pos c,decide_eq_true (Int.ofNat_le.mpr c)]; rfl
  ·rw [if_neg c,decide_eq_false fun h=>c (Int.ofNat_le.mp h)]; rfl
 exact e▸Ev.ite2 (EvT.cmp (Ev.bin (Ev.name rfl) (Ev.name rfl) (bin_addN rfl)) (Ev.name rfl) rfl cmp_le) (fun _=>Ev.bin (Ev.name rfl) (Ev.name rfl) (bin_addN rfl)) fun _=>Ev.name rfl
theorem cl_short {a:Addr}(gl:Glb g "len" (.builtin "len")) (gra:Glb g "range" (.type "range")) (hf:FnAt g a shSc [Str.ofString "width",Str.ofString "menu"] shB) (hg:Glb g "_law_shortest" (.ref a)) (hw:wd≤20) (hm:menu.length≤100) (h:shortP wd menu=some r) :
  ClV prog w g T (n+2) "_law_shortest" [.int (wd:Int),natsD menu] (r.elim .none natsD):=by
 have hs:(shStart wd).map natsD=natsD [0]::((List.range wd).map fun i=>[i+1]).map natsD:=by rw [shStart_cons]; rfl
 have hk:((List.range wd).map fun i=>[i+1]).length≤900:=by rw [List.length_map,List.length_range]; exact Nat.le_trans hw (by decide)
 have e1:(shStart wd).map natsD=(List.range (wd+1)).map fun i:Nat=>natsD [i]:=List.map_map ..
 have known:Sx prog w g T (n+1) shSc ((Str.ofString "moves",.val (.lst (menu.map (movesD wd))))::σmn wd menu) (nth shB 1) (.next ((Str.ofString "known",.own ((shStart wd).map natsD))::(Str.ofString "moves",.val (.lst (menu.map (movesD wd))))::σmn wd menu)) :=
  Sx.assignCompOwn (fun c hc=>List.mem_singleton.mp hc▸rfl) (fun _ _=>rfl) rfl rfl (rng_nat (wd+1)▸EvI.range1 rfl gra (fun _ _=>rfl) (Ev.bin (Ev.name rfl) Ev.int (bin_addN (b:=1) rfl)) (midI_iff.mpr (by omega)))
   (e1▸loop_each (enc:=fun i:Nat=>D.int (i:Int)) fun i _=>⟨[(Str.ofString "fill",.int (i:Int))],.name,stAll_of rfl,rfl,Ev.list (EvL.more (fun _=>rfl) (Ev.name rfl) EvL.nil) (show (1:Nat)≤lim by decide)⟩) (by rw [List.length_map,shStart,List.length_map,List.length_range]; exact Nat.le_trans (Nat.succ_le_succ hw) (by decide)) rfl
 have hn:((List.range (wd*wd)).map fun i:Nat=>D.int (i:Int)).length=wd*wd:=by rw [List.length_map,List.length_range]
 have h':shN wd menu ((List.range (wd*wd)).map fun i:Nat=>D.int (i:Int)).length ((shStart wd).map fun h=>(h,[])) (shStart wd)=some r:=by rw [hn]; exact h
 have loop:=sh_outer (prog:=prog) (w:=w) (T:=T) (n:=n) gl gra hw h'
 have hww:wd*wd≤400:=Nat.mul_le_mul hw hw
 have run:Sx prog w g T (n+1) shSc ((Str.ofString "level",.val (.lst (((shStart wd).map fun h=>(h,([]:List Nat))).map lvD)))::(Str.ofString "known",.own ((shStart wd).map natsD))::(Str.ofString "moves",.val (.lst (menu.map (movesD wd))))::σmn wd menu) shOut (rzN r) :=
  Sx.for (rng_nat (wd*wd)▸EvI.range1 rfl gra (fun _ _=>rfl) (Ev.bin (Ev.name rfl) (Ev.name rfl) (bin_mulN (Nat.le_trans hw (by decide)) (sm_nat (Nat.le_trans hw (by decide))))) (midI_iff.mpr (by omega))) (fun _ _=>rfl) (.weak (.cons rfl (.cons rfl (.cons rfl (.cons rfl .nil)))) loop)
 have level:=sh_level (prog:=prog) (w:=w) (g:=g) (T:=T) (n:=n+1) (σ:=(Str.ofString "known",.own ((shStart wd).map natsD))::(Str.ofString "moves",.val (.lst (menu.map (movesD wd))))::σmn wd menu) (congrArg (fun l=>some (Sl.own l)) hs) hk
 rw [← shStart_cons] at level
 refine .fn hg hf fns_short rfl (SxL.cons (sh_moves gra hw hm) (SxL.cons known (SxL.cons level ?_)))
 cases r with
 | some t=>exact SxL.one run nofun
 | none=>exact SxL.cons run (SxL.last (Sx.ret Ev.none))
end
end
section
noncomputable def sIns (k:Int) (ks:List Int):List Int:=ks.rec [k] fun a r ih=>if k<a then k::a::r else if k=a then a::r else a::ih
noncomputable def upT (τ:Int→Tok) (k:Int) (t:Tok):Int→Tok:=fun j=>if j=k then t else τ j
noncomputable abbrev sL (τ:Int→Tok) (ks:List Int):List (Int×Value):=ks.map fun k=>(k,Value.int k (τ k))
noncomputable def sE (τ:Int→Tok) (ks:List Int):Array (Int×Value):=(sL τ ks).toArray
noncomputable def sT (led:Bool) (ks:List Int):SetTable:=⟨7,(ks.map Int.toNat).toArray, #[],0,led,0,true⟩
noncomputable def kL (m:Nat):List Int:=(List.range 5).filterMap fun i=>if m.testBit i then some ((i+1:Nat):Int) else none
noncomputable def Good (ks:List Int):Prop:=∃ m:Fin 32,ks=kL m
noncomputable def slotOf (ks:List Int) (i:Nat):Nat:=if i=0 then 0 else (ks.getD (i - 1) 0).toNat+1
noncomputable def posOf (k:Int) (ks:List Int):Nat:=(ks.filter fun j=>decide (j<k)).length
noncomputable abbrev nI (k:Fin 5):Int:=((k.val+1:Nat):Int)
theorem five {k:Int}(h:1≤k∧k≤5):∃ i:Fin 5,k=nI i:=by
 obtain ⟨j,rfl⟩:=Int.eq_ofNat_of_zero_le (Int.le_trans (by decide) h.1)
 have h1:1≤j:=Int.ofNat_le.mp h.1
 exact ⟨⟨j - 1,Nat.lt_of_lt_of_le (Nat.sub_lt h1 (by decide)) (Int.ofNat_le.mp h.2)⟩,congrArg Int.ofNat (Nat.sub_add_cancel h1).symm⟩
structure LayOk (led:Bool) (ks:List Int) (k:Int):Prop where
 free:(sT led ks).freeSlot k=some (k.toNat,false)
 put:(sT led ks).put k.toNat=(sT led (sIns k ks),posOf k ks)
 ins:sIns k ks=ks.take (posOf k ks)++k::ks.drop (posOf k ks)
 fits:(sT led (sIns k ks)).fits (sIns k ks).length=true
structure GoodOk (ks:List Int):Prop where
 bd:∀ j∈ks,1≤j∧j≤5
 low:∀ i,i<ks.length+1→SetTable.below (ks.map Int.toNat).toArray (slotOf ks i)=i
 ord:ks.Pairwise (· < ·)
 len:ks.length≤5
theorem good_tab:(∀ m:Fin 32,(∀ j∈kL m,1≤j∧j≤5)∧(∀ i,i<(kL m).length+1→SetTable.below ((kL m).map Int.toNat).toArray (slotOf (kL m) i)=i)∧(kL m).Pairwise (· < ·)∧(kL m).length≤5) ∧
  ∀ (m:Fin 32) (k:Fin 5),(∃ m':Fin 32,sIns (nI k) (kL m)=kL m')∧(nI k∈kL m→sIns (nI k) (kL m)=kL m) ∧
   (nI k∉kL m→∀ led:Bool,(sT led (kL m)).freeSlot (nI k)=some ((nI k).toNat,false)∧(sT led (kL m)).put (nI k).toNat=(sT led (sIns (nI k) (kL m)),posOf (nI k) (kL m))∧sIns (nI k) (kL m)=(kL m).take (posOf (nI k) (kL m))++nI k::(kL m).drop (posOf (nI k) (kL m))∧(sT led (sIns (nI k) (kL m))).fits (sIns (nI k) (kL m)).length=true):=by decide +kernel
section
variable {ks:List Int}{k:Int}{τ:Int→Tok}{t:Tok}
theorem Good.ok (h:Good ks):GoodOk ks:=h.elim fun m e=>e▸⟨(good_tab.1 m).1,(good_tab.1 m).2.1,(good_tab.1 m).2.2.1,(good_tab.1 m).2.2.2⟩
theorem Good.ins (h:Good ks) (hk:1≤k∧k≤5):Good (sIns k ks):=h.elim fun m e=>(five hk).elim fun i e'=>e▸e'▸(good_tab.2 m i).1
theorem Good.has (h:Good ks) (hk:1≤k∧k≤5):k∈ks→sIns k ks=ks:=h.elim fun m e=>(five hk).elim fun i e'=>e▸e'▸(good_tab.2 m i).2.1
theorem Good.layOk (h:Good ks) (hk:1≤k∧k≤5) (hn:k∉ks) (led:Bool):LayOk led ks k:=h.elim fun m e=>(five hk).elim fun i e'=>by
 subst e e'
 have z:=(good_tab.2 m i).2.2 hn led
 exact ⟨z.1,z.2.1,z.2.2.1,z.2.2.2⟩
theorem good_nil:Good []:=⟨⟨0,by decide⟩,by decide⟩
theorem hash_small (hk:1≤k∧k≤5):hashInt k=k:=by
 obtain ⟨i,rfl⟩:=five hk
 exact (by decide:∀ i:Fin 5,hashInt (nI i)=nI i) i
theorem insert_list {α:Type}(l:List α) (p:Nat) (x:α):SetTable.insertAt l.toArray p x=(l.take p++x::l.drop p).toArray:=by
 unfold SetTable.insertAt
 simp
 exact List.take_of_length_le (by rw [List.length_drop]; exact Nat.le_refl _)
theorem sL_up {l:List Int}(hn:k∉l):sL (upT τ k t) l=sL τ l:=List.map_congr_left fun j hj=>by rw [upT,if_neg fun e:j=k=>hn (e▸hj)]
theorem Good.lay (h:Good ks) (hk:1≤k∧k≤5) (hn:k∉ks) (led:Bool) (τ:Int→Tok) (t:Tok):layNew (sT led ks) (sE τ ks) k (.int k t)=(sE (upT τ k t) (sIns k ks),sT led (sIns k ks),false,false):=by
 have z:=h.layOk hk hn led
 have e:SetTable.insertAt (sE τ ks) (posOf k ks) (k,.int k t)=sE (upT τ k t) (sIns k ks):=by
  have e2:sL (upT τ k t) (ks.take (posOf k ks)++k::ks.drop (posOf k ks))=(sL τ ks).take (posOf k ks)++(k,Value.int k t)::(sL τ ks).drop (posOf k ks):=by
   rw [← List.map_take, ← List.map_drop,show sL (upT τ k t) (ks.take (posOf k ks)++k::ks.drop (posOf k ks))=sL (upT τ k t) (ks.take (posOf k ks))++(k,Value.int k (upT τ k t k))::sL (upT τ k t) (ks.drop (posOf k ks)) from List.map_append,sL_up fun q=>hn (List.mem_of_mem_take q),sL_up fun q=>hn (List.mem_of_mem_drop q),show upT τ k t k=t from if_pos rfl]
  unfold sE
  rw [insert_list,z.ins,e2]
 have n:(sE (upT τ k t) (sIns k ks)).size=(sIns k ks).length:=by rw [sE,List.size_toArray,List.length_map]
 unfold layNew
 rw [z.free]
 show (let r:=(sT led ks).put k.toNat; (SetTable.insertAt (sE τ ks) r.2 (k,Value.int k t),r.1.orStandIn (SetTable.insertAt (sE τ ks) r.2 (k,Value.int k t)).size,false, !r.1.fits (SetTable.insertAt (sE τ ks) r.2 (k,Value.int k t)).size))=_
 rw [z.put]
 show (SetTable.insertAt (sE τ ks) (posOf k ks) (k,Value.int k t),SetTable.orStandIn (sT led (sIns k ks)) (SetTable.insertAt (sE τ ks) (posOf k ks) (k,Value.int k t)).size,false, !(sT led (sIns k ks)).fits (SetTable.insertAt (sE τ ks) (posOf k ks) (k,Value.int k t)).size)=_
 rw [e,n,z.fits,SetTable.orStandIn,if_pos z.fits]
 rfl
end
end
section
theorem sIns_len (k:Int) (ks:List Int):(sIns k ks).length≤ks.length+1:=by
 induction ks with
 | nil=>exact Nat.le_refl _
 | cons a r ih =>
  show (if k<a then k::a::r else if k=a then a::r else a::sIns k r).length≤_
  by_cases c:k<a
  ·rw [if_pos c]; exact Nat.le_refl _
  ·rw [if_neg c]
   by_cases c:k=a
   ·rw [if_pos c]; exact Nat.le_succ _
   ·rw [if_neg c]; exact Nat.succ_le_succ ih
theorem sT_fits (led:Bool) (ks:List Int) (τ:Int→Tok) (h:ks.length≤5):(sT led ks).fits (sE τ ks).size=true:=by
 simp [SetTable.fits,sT,sE,SetTable.fill]; lia
theorem sT_room (led:Bool) (ks:List Int) (h:ks.length≤4):(sT led ks).tooFull=false:=by
 simp [SetTable.tooFull,sT,SetTable.fill]; lia
noncomputable abbrev setO (led:Bool) (ks:List Int) (ep:Nat) (τ:Int→Tok):Obj:={ cls:=.type "set",dict:=none,data:=.set (sE τ ks) ep (sT led ks),slots := #[] }
noncomputable def SetAt (h:Heap) (a:Addr) (led:Bool) (ks:List Int) (ep:Nat) (τ:Int→Tok):Prop:=h.get? a=some (setO led ks ep τ)
section
variable {prog:Program}{w:World}{A:Around}{E:Value→Shared→Prop}{s:Shared}{a:Addr}{led:Bool}{ks:List Int}{ep:Nat}{τ:Int→Tok}{k:Int}{t:Tok}
theorem sE_elems (hg:Good ks):ElemsOf (intKind prog w) (sE τ ks).toList:=fun e he=>by
 simp only [sE,List.mem_map] at he
 obtain ⟨j,hj,rfl⟩:=he
 exact ⟨⟨j,intKind_is _ _ _ _,(hash_small (hg.ok.bd j hj)).symm⟩,rfl⟩
theorem set_add {Q:Bool→Shared→Prop}(hS:SetAt s.heap a led ks ep τ) (hg:Good ks) (hl:ks.length≤3) (hk:1≤k∧k≤5)
  (h:∀ b h' ep' τ',Heap.SameBut a s.heap h'→SetAt h' a led (sIns k ks) ep' τ'→Q b { s with heap:=h',toks:=s.toks+1 }):wpAny (model prog w) A (setAdd a (.int k t)) Q E s:=by
 have hel:=sE_elems (prog:=prog) (w:=w) (τ:=τ) hg
 have hsz:(sE τ ks).size=ks.length:=by simp [sE]
 have hsb:(400:Nat)<scanBound:=by decide
 have hkey:(intKind prog w).is k (.int k t)=true:=intKind_is _ _ _ _
 have hh:(intKind prog w).hash k=k:=hash_small hk
 unfold setAdd
 refine wpAny_holding (wpAny_bind ((intKind prog w).pyHash (k:=k) hkey ?_))
 unfold setAddHashed setAddHashedIn
 have hS':({ s with toks:=s.toks+1 }:Shared).heap.get? a=some (setO led ks ep τ):=hS
 refine wpAny_holding (wpAny_bind (wpAny_setState_of hS' rfl (sT_fits led ks τ (by lia)) ?_))
 dsimp only
 rw [byScan_of (knd:=intKind prog w) (x:=Value.int k t) rfl (by rw [hsz]; lia) hel]
 simp only [↓reduceIte]
 unfold setAddByScan
 refine wpAny_bind ?_
 refine wpAny_bind (wpAny_rule ?_)
 refine wpAny_bind (wpAny_setScan_of hkey hS' rfl (sT_fits led ks τ (by lia)) hel ?_)
 cases hr:List.findIdx? (fun e=>(intKind prog w).is k e.2) (sE τ ks).toList with
 | some j =>
  dsimp only
  obtain ⟨hj,hpj,_⟩:=List.findIdx?_eq_some_iff_getElem.mp hr
  have hm:k∈ks:=by
   have he:=List.getElem_mem hj
   obtain ⟨i,hi,e⟩:=List.mem_map.mp (by simpa [sE] using he:(sE τ ks).toList[j]∈ks.map fun k=>(k,Value.int k (τ k)))
   rw [← e] at hpj
   have:k=i:=(intKind prog w).inj _ _ _ hpj (intKind_is _ _ _ _)
   rw [this]; exact hi
  refine wpAny_pure (wpAny_pure ?_)
  exact h _ s.heap ep τ (Heap.SameBut.refl a s.heap) (by rw [hg.has hk hm]; exact hS)
 | none =>
  dsimp only
  have hm:k∉ks:=fun hm=>by
   have:=List.findIdx?_eq_none_iff.mp hr (k,Value.int k (τ k)) (by simp only [sE,List.mem_map]; exact ⟨k,hm,rfl⟩)
   rw [intKind_is _ _ _ _] at this
   exact Bool.noConfusion this
  rw [hh,hg.lay hk hm led τ t]
  have hlen:=sIns_len k ks
  have hsz':(sE (upT τ k t) (sIns k ks)).size=(sIns k ks).length:=by simp [sE]
  have hu:=Heap.SameBut.update s.heap a (Obj.putSet (sE (upT τ k t) (sIns k ks)) (sT led (sIns k ks)))
  refine wpAny_bind (wpAny_pure ?_)
  refine wpAny_bind (wpAny_of_eq (hashByValue_scannable 8 (x:=Value.int k t) rfl) ?_)
  show wpAny _ _ (storeSet a (sE (upT τ k t) (sIns k ks)) (sT led (sIns k ks)) >>= _) _ _ _
  refine wpAny_bind (wpAny_storeSet_of hS' rfl ?_ (fits_of_scanBound (by rw [hsz']; lia)))
  have hfull:=sT_room led (sIns k ks) (by lia)
  refine wpAny_ite_split (fun hc=>absurd hc (by show ¬ (!false&&(sT led (sIns k ks)).tooFull)=true; rw [hfull]; exact Bool.false_ne_true)) fun _=>?_
  refine wpAny_pure (wpAny_pure (h _ _ (ep+1) (upT τ k t) hu ?_))
  have:=Heap.get?_update_self (Obj.putSet (sE (upT τ k t) (sIns k ks)) (sT led (sIns k ks))) hS (by rfl)
  exact this
end
noncomputable abbrev byT (w:World):Bool:=w.params.followText "set-order"
noncomputable def sFold (val:Nat→Int) (i:Nat):List Int:=(List.range i).foldl (fun ks j=>sIns (val j) ks) []
theorem sFold_succ (val:Nat→Int) (i:Nat):sFold val (i+1)=sIns (val i) (sFold val i):=by unfold sFold; rw [List.range_succ,List.foldl_append]; rfl
theorem sFold_good (val:Nat→Int) (n:Nat) (h:∀ i,i<n→1≤val i∧val i≤5) (i:Nat):i≤n→Good (sFold val i)∧(sFold val i).length≤i:=by
 induction i with
 | zero=>exact fun _=>⟨good_nil,Nat.le_refl _⟩
 | succ i ih =>
  intro hi
  have q:=ih (Nat.le_of_succ_le hi)
  rw [sFold_succ]
  exact ⟨q.1.ins (h i hi),Nat.le_trans (sIns_len _ _) (Nat.succ_le_succ q.2)⟩
section
variable {prog:Program}{w:World}{A:Around}{E:Value→Shared→Prop}{s:Shared}
theorem set_new (a:Value) {Q₁:Value→Shared→Prop}(h:Q₁ (.ref s.heap.objs.size) { s with heap:=s.heap.push { cls:=.type "set",dict:=none,data:=.set #[] 0 (.fresh 0 0 (!byT w)) } }) :
  codeAny (model prog w) A (.call (.builtin "set.__new__") ⟨[.type "set",a],[]⟩) (wants Q₁ E) s:=by
 refine codeAny_of_tree ?_
 show wpAny _ A.in1 (do checkBuiltinCall "set.__new__" ⟨[.type "set",a],[]⟩; again (.builtin "set.__new__" ⟨[.type "set",a],[]⟩)) _ _ s
 refine wpAny_bind (wpAny_of_eq (PySem.F.newCall_set_1 a) (wpAny_pure ⟨plainId_quiet PySem.F.plain_set_new _,codeAny_builtin PySem.F.entry_set_new ?_⟩))
 rw [Around.under_plainId PySem.F.plain_set_new _]
 unfold Builtin.«set.__new__» Builtin.Frozenset.newClass
 have hsub:=PySem.sub_set_self
 obtain ⟨hp,g,d,tk,os⟩:=s
 dsimp only
 wp_walk
 refine wpAny_askSetting (wpAny_pure ?_)
 dsimp only
 simp only [newObj]
 refine wpAny_bind (wpAny_alloc (wpAny_pure ?_))
 exact wpAny_pure h
theorem set_loop {R:Result→Shared→Prop}{I S:Addr}{fp wr:List Addr}{G:Array GenState→Array GenState→Prop}{n:Nat}{P:Nat→Value→Prop}{St:Nat→Shared→Prop}{led:Bool}(W:WalksS prog w A.in1 I fp wr G n P St) (hSf:S∉fp)
  (val:Nat→Int) (hval:∀ i v,P i v→∃ t,v=.int (val i) t) (hb:∀ i,i<n→1≤val i∧val i≤5) (hn:n≤4) :
  ∀ (k i:Nat) (s:Shared) (ep:Nat) (τ:Int→Tok),n - i=k→i≤n→St i s→SetAt s.heap S led (sFold val i) ep τ →
   (∀ s' ep τ,Moved (S::wr) G s s'→SetAt s'.heap S led (sFold val n) ep τ→R (.ok (.ret .none)) s')→codeAny (model prog w) A (.builtin "set.update.loop" ⟨[.ref S,.ref I],[]⟩) R s:=by
 have hSw:S∉wr:=fun h=>hSf (W.sub _ h)
 have hsub:∀ b∈wr,b∈S::wr:=fun b hb=>List.mem_cons_of_mem _ hb
 intro k
 induction k with
 | zero =>
  intro i s ep τ hk hi hst hS hR
  have hin:i=n:=by lia
  subst hin
  refine codeAny_builtin PyProof.Rows.F.entry_set_update_loop ?_
  rw [Around.under_plainId PyProof.Rows.F.plain_set_update_loop _]
  show wpAny _ A.in1 (pyNext (.ref I) >>= _) _ _ s
  refine wpAny_bind (W.done s _ _ hst fun s' hm=>?_)
  show wpAny _ A.in1 (ret Value.none) _ _ s'
  exact wpAny_pure (hR s' ep τ (hm.mono hsub) (hm.heap S _ hSw hS))
 | succ k ih =>
  intro i s ep τ hk hi hst hS hR
  have hlt:i<n:=by lia
  refine codeAny_builtin PyProof.Rows.F.entry_set_update_loop ?_
  rw [Around.under_plainId PyProof.Rows.F.plain_set_update_loop _]
  show wpAny _ A.in1 (pyNext (.ref I) >>= _) _ _ s
  refine wpAny_bind (W.item i s _ _ hlt hst fun v s' hP hst' hm=>?_)
  obtain ⟨t,rfl⟩:=hval i v hP
  obtain ⟨hg,hl⟩:=sFold_good val n hb i hi
  show wpAny _ A.in1 (holding [Value.int (val i) t] (setAdd S (.int (val i) t)) >>= _) _ _ s'
  refine wpAny_bind (wpAny_holding (set_add (hm.heap S _ hSw hS) hg (by lia) (hb i hlt) fun b h' ep' τ' hsb hS'=>?_))
  rw [← sFold_succ] at hS'
  refine wpAny_pure ⟨plainId_quiet PyProof.Rows.F.plain_set_update_loop _,ih (i+1) _ ep' τ' (by lia) hlt (W.frame _ s' _ _ hst' (Nat.le_succ _) fun b hb o e=>?_) hS' fun s'' ep2 τ2 hm'' hS''=>?_⟩
  ·rw [hsb.2 b (fun h:b=S=>hSf (by rw [← h]; exact hb))]; exact e
  ·refine hR s'' ep2 τ2 (Moved.trans W.gtrans ((hm.mono hsub).then_heap (Nat.le_succ _) fun b o hb e=>?_) hm'') hS''
   rw [hsb.2 b (fun h:b=S=>hb (by rw [h]; exact List.mem_cons_self))]; exact e
theorem call_set1 {arg:Value}{Q Q₁:Value→Shared→Prop}(hnew:codeAny (model prog w) A.in1 (.call (.builtin "set.__new__") ⟨[.type "set",arg],[]⟩) (wants Q₁ E) s)
  (hnext:∀ obj s₁,Q₁ obj s₁→s₁.TypeIs obj "set" ∧ codeAny (model prog w) A.in1 (.call (.builtin "set.__init__") ⟨[obj,arg],[]⟩) (wants (fun r s₂=>r=.none∧Q obj s₂) E) s₁):wpAny (model prog w) A (call (.type "set") [arg]) Q E s:=by
 obtain ⟨c,tl,hmro⟩:=PySem.F.called_set.mro
 have hmade:=PySem.F.called_set.made
 have hsub:=PySem.F.called_set.sub
 refine wpAny_call (codeAny_of_tree ?_)
 show wpAny _ _ (callAny (.type "set") _) _ _ _
 refine wpAny_pure ⟨Code.quiet_builtin _ (by decide +kernel),codeAny_builtin PySem.F.entry_type_call ?_⟩
 rw [Around.under_plain (weight_type_call_type "set" [arg] []) rfl]
 have h1:=PySem.F.called_set.notType
 have h2:=PySem.F.called_set.canCreate
 have hct:=PySem.F.typeCall_set_1 arg
 repeat (any_goals (first | assumption | wp_step))
 refine codeAny_mono hnew fun r s₁ hr=>?_
 cases r with
 | error e=>exact hr
 | ok fl =>
  cases fl with
  | ret obj =>
   obtain ⟨hT,hI⟩:=hnext _ _ hr
   have hli:=PySem.F.called_set.init.lookup
   have hbi:=PySem.F.called_set.init.bind obj
   repeat (any_goals (first | assumption | wp_step))
   refine codeAny_mono hI fun r₂ s₂ hr₂=>?_
   cases r₂ with
   | error e=>exact hr₂
   | ok fl₂ =>
    cases fl₂ with
    | ret r =>
     obtain ⟨rfl,hq⟩:=hr₂
     repeat (any_goals (first | assumption | wp_step))
    | _=>exact hr₂.elim
  | _=>exact hr.elim
noncomputable abbrev freshO (led:Bool):Obj:={ cls:=.type "set",dict:=none,data:=.set #[] 0 (.fresh 0 0 led) }
structure Filled (a:Addr) (led:Bool) (ks:List Int) (s s':Shared):Prop where
 e:s'={ s with heap:=s'.heap,toks:=s'.toks }
 S:∃ ep τ,SetAt s'.heap a led ks ep τ
 k:∀ b o,b≠a→s.heap.get? b=some o→s'.heap.get? b=some o
theorem same_of {s s':Shared}(h1:s'.gens=s.gens) (h2:s'.drawn=s.drawn) (h3:s'.os=s.os):s'={ s with heap:=s'.heap,toks:=s'.toks }:=by rw [← h1, ← h2, ← h3]
theorem set_init {a l:Addr}{items:Array Value}{ns:List Int}{led:Bool}{Q:Value→Shared→Prop}(hh:A.handled=none) (hS:s.heap.get? a=some (freshO led)) (hl:s.heap.IsList l items) (hi:IntsAre items.toList ns) (hb:∀ i,i<items.size→1≤ns.getD i 0∧ns.getD i 0≤5) (hn:items.size≤4)
  (h:∀ s',Filled a led (sFold (fun i=>ns.getD i 0) items.size) s s'→Q (.ref a) s'):codeAny (model prog w) A (.call (.builtin "set.__init__") ⟨[.ref a,.ref l],[]⟩) (wants (fun r s₂=>r=.none∧Q (.ref a) s₂) E) s:=by
 have hT:s.TypeIs (.ref a) "set" := ⟨_,hS,rfl⟩
 refine codeAny_call_builtin PySem.F.called_set.init.plain PySem.F.entry_set_init (PySem.check_set_init_1 hT ?_)
 have hsls:=PySem.F.sub_list_set
 have hslf:=PySem.F.sub_list_frozenset
 have hne:(Value.type "list" == Value.type "dict")=false:=by decide
 have hl':=hl
 obtain ⟨⟨ocls,odict,odata,oslots⟩,hol,hcl,nl,hdl⟩:=hl
 simp only at hcl hdl
 subst hcl; subst hdl
 unfold Builtin.«set.__init__» noKeywords Builtin.Frozenset.updateFrom
 generalize hPI:pyIter=PI
 wp_walk
 subst hPI
 refine wpAny_pyIter_list hl' ?_
 refine wpAny_bind (wpAny_runValue ?_)
 have hal:a≠l:=apart hS hol rfl
 have hneI:l≠s.heap.objs.size:=Nat.ne_of_lt (Heap.lt_size hol)
 have hSf:a∉[s.heap.objs.size,l]:=fun hm=>(List.mem_cons.mp hm).elim (Nat.ne_of_lt (Heap.lt_size hS)) fun hm=>hal (List.mem_singleton.mp hm)
 have hval:∀ (i:Nat) (v:Value),items[i]?=some v→∃ t,v=.int ((fun i=>ns.getD i 0) i) t:=fun i v hv =>
  PyProof.Rows.IntsAre.int_at hi i v (by rw [Array.getElem?_toList]; exact hv)
 refine set_loop (led:=led) ((Walks.list (by simp [hh]) _ l hneI items).toS) hSf (fun i=>ns.getD i 0) hval hb hn (items.size - 0) 0 _ 0 (fun _=>0) (by lia) (Nat.zero_le _) ⟨⟨_,Heap.get?_push_size _ rfl,rfl,rfl⟩,hl'.push _⟩ (Heap.get?_push_of_some _ hS) ?_
 intro s' ep τ hm hS'
 refine wpAny_pure ?_
 show wpAny _ _ (ret Value.none) _ _ _
 exact wpAny_pure ⟨rfl,h _ ⟨same_of hm.gens hm.drawn hm.os,⟨ep,τ,hS'⟩,fun b o hb e=>hm.heap b o (fun hm=>(List.mem_cons.mp hm).elim hb fun hm=>Nat.ne_of_lt (Heap.lt_size e) (List.mem_singleton.mp hm)) (Heap.get?_push_of_some _ e)⟩⟩
theorem call_setK {l:Addr}{items:Array Value}{ns:List Int}{Q:Value→Shared→Prop}(hh:A.handled=none) (hl:s.heap.IsList l items) (hi:IntsAre items.toList ns) (hb:∀ i,i<items.size→1≤ns.getD i 0∧ns.getD i 0≤5) (hn:items.size≤4)
  (h:∀ (h':Heap) (tk ep:Nat) (τ:Int→Tok),SetAt h' s.heap.objs.size (!byT w) (sFold (fun i=>ns.getD i 0) items.size) ep τ→(∀ b o,s.heap.get? b=some o→h'.get? b=some o)→Q (.ref s.heap.objs.size) { s with heap:=h',toks:=tk }) :
  wpAny (model prog w) A (call (.type "set") [.ref l]) Q E s:=by
 have hS:=Heap.get?_push_size s.heap (o:=freshO (!byT w)) rfl
 exact call_set1 (Q₁:=fun obj s₁=>obj=.ref s.heap.objs.size∧s₁={ s with heap:=s.heap.push (freshO (!byT w)) }) (set_new (.ref l) ⟨rfl,rfl⟩) fun obj s₁ q=>by
  rw [q.1,q.2]
  exact ⟨⟨_,hS,rfl⟩,set_init (by simp [hh]) hS (hl.push _) hi hb hn fun s' f=>by
   obtain ⟨ep,τ,hS'⟩:=f.S
   rw [f.e]
   exact h _ _ ep τ hS' fun b o e=>f.k b o (Nat.ne_of_lt (Heap.lt_size e)) (Heap.get?_push_of_some _ e)⟩
end
end
section
theorem erase_perm {α:Type}(l:List α):∀ (i:Nat) (h:i<l.length),(l[i]::l.eraseIdx i).Perm l:=by
 induction l with
 | nil=>exact fun i h=>absurd h (Nat.not_lt_zero i)
 | cons x r ih =>
  intro i h
  cases i with
  | zero=>exact .refl _
  | succ i=>exact (List.Perm.swap _ _ _).trans ((ih i (Nat.lt_of_succ_lt_succ h)).cons x)
theorem pick_go {α:Type}(next:Nat→Nat) (fuel:Nat):∀ (k:Nat) (l:List α) (out:Array α),l.length≤fuel→(pickOrder.go next fuel k l out).toList.Perm (out.toList++l):=by
 induction fuel with
 | zero =>
  intro k l out h
  rw [List.length_eq_zero_iff.mp (Nat.le_zero.mp h),List.append_nil]
  exact .refl _
 | succ fuel ih =>
  intro k l out h
  cases l with
  | nil=>rw [List.append_nil]; exact .refl _
  | cons y l =>
   have hi:next k % (y::l).length<(y::l).length:=Nat.mod_lt _ (Nat.succ_pos _)
   have e:=List.getElem?_eq_getElem hi
   have e2:pickOrder.go next (fuel+1) k (y::l) out=pickOrder.go next fuel (k+1) ((y::l).eraseIdx (next k % (y::l).length)) (out.push (y::l)[next k % (y::l).length]):=by
    show (match (y::l)[next k % (y::l).length]? with | some x=>_ | none=>_)=_
    rw [e]
   rw [e2]
   refine (ih (k+1) _ _ (by rw [List.length_eraseIdx_of_lt hi]; exact Nat.sub_le_of_le_add h)).trans ?_
   rw [Array.toList_push,List.append_assoc]
   exact List.Perm.append_left _ (erase_perm _ _ hi)
theorem pick_perm {α:Type}(next:Nat→Nat) (xs:Array α):(pickOrder next xs).toList.Perm xs.toList:=by
 have:=pick_go next xs.size 0 xs.toList #[] (by simp)
 simpa [pickOrder] using this
noncomputable def wkL (w:World) (a:Addr) (ks:List Int) (ep:Nat) (τ:Int→Tok):List Value:=(if byT w then (pickOrder (w.params.setOrder a ep) (sE τ ks)).toList else (sE τ ks).toList).map (·.2)
theorem wkL_perm (w:World) (a:Addr) (ks:List Int) (ep:Nat) (τ:Int→Tok):(wkL w a ks ep τ).Perm (ks.map fun k=>Value.int k (τ k)):=by
 have e:(sE τ ks).toList.map (·.2)=ks.map fun k=>Value.int k (τ k):=by simp [sE,Function.comp_def]
 unfold wkL
 split
 ·rw [← e]; exact (pick_perm _ _).map _
 ·rw [e]
theorem slot_set_it:Slot "set" "__iter__" "set.__iter__" :=
 .of (owner := "set") (n := "__iter__") (by rw [typeLookup_type,builtinLookup_eq_fast]; kernel_rfl) (by decide +kernel) (by decide +kernel) (by decide +kernel)
  (by first | exact .inl (by decide +kernel) | exact .inr (by decide +kernel)) (by rw [isSubtype_type]; kernel_rfl)
theorem slot_setit_next:Slot "set_iterator" "__next__" "set_iterator.__next__" :=
 .of (owner := "set_iterator") (n := "__next__") (by rw [typeLookup_type,builtinLookup_eq_fast]; kernel_rfl) (by decide +kernel) (by decide +kernel) (by decide +kernel)
  (by first | exact .inl (by decide +kernel) | exact .inr (by decide +kernel)) (by rw [isSubtype_type]; kernel_rfl)
theorem slot_setit_it:Slot "set_iterator" "__iter__" "set_iterator.__iter__" :=
 .of (owner := "set_iterator") (n := "__iter__") (by rw [typeLookup_type,builtinLookup_eq_fast]; kernel_rfl) (by decide +kernel) (by decide +kernel) (by decide +kernel)
  (by first | exact .inl (by decide +kernel) | exact .inr (by decide +kernel)) (by rw [isSubtype_type]; kernel_rfl)
theorem tab_t (id:String):fastTable id=treeTable id:=congrFun (table_eq_fast.symm.trans table_eq_tree) id
theorem entry_set_it:entryFor table "set.__iter__" = some Builtin.«frozenset.__iter__» := entryFor_alias (id' := "frozenset.__iter__") ((tab_t _).trans (by kernel_rfl)) rfl (by decide +kernel) ((tab_t _).trans (by kernel_rfl))
theorem entry_setit_next:entryFor table "set_iterator.__next__" = some Builtin.«set_iterator.__next__» := entryFor_of_tree (by kernel_rfl)
theorem entry_setit_it:entryFor table "set_iterator.__iter__" = some Builtin.«dict_keyiterator.__iter__» := entryFor_alias (id' := "dict_keyiterator.__iter__") ((tab_t _).trans (by kernel_rfl)) rfl (by decide +kernel) ((tab_t _).trans (by kernel_rfl))
theorem args_set_it (a:Value):argsOk "set.__iter__" ⟨[a],[]⟩:=PySem.F.args_set_iter_1 a
theorem args_setit_next (a:Value):argsOk "set_iterator.__next__" ⟨[a],[]⟩:=by unfold argsOk; kernel_rfl
theorem args_setit_it (a:Value):argsOk "set_iterator.__iter__" ⟨[a],[]⟩:=by unfold argsOk; kernel_rfl
noncomputable abbrev setItO (a:Addr) (slot i n ep:Nat):Obj:={ cls:=.type "set_iterator",data:=.fields #[.int slot 0,.int i 0,.ref a,.int n 0,.int ep 0] }
noncomputable def SetSt (w:World) (I a:Addr) (ks:List Int) (ep:Nat) (τ:Int→Tok) (i:Nat) (h:Heap):Prop:=SetAt h a (!byT w) ks ep τ∧∃ slot,h.get? I=some (setItO a slot i ks.length ep)∧(byT w=false→slot=slotOf ks i)
section
variable {prog:Program}{w:World}{A:Around}{E:Value→Shared→Prop}{s:Shared}{a I:Addr}{ks:List Int}{ep:Nat}{τ:Int→Tok}
theorem set_iter {Q:Value→Shared→Prop}(hS:SetAt s.heap a (!byT w) ks ep τ) (hg:Good ks) (hQ:Q (.ref s.heap.objs.size) { s with heap:=s.heap.push (setItO a 0 0 ks.length ep) }):wpAny (model prog w) A (pyIter (.ref a)) Q E s:=by
 have hT:s.TypeIs (.ref a) "set" := ⟨_,hS,rfl⟩
 have hsz:(sE τ ks).size=ks.length:=by simp [sE]
 have hf:=sT_fits (!byT w) ks τ hg.ok.len
 refine wpAny_pyIter_slot hT slot_set_it (wpAny_call_entry slot_set_it hT entry_set_it ?_ (args_set_it _))
 unfold Builtin.«frozenset.__iter__» Builtin.Frozenset.slot0 slotArgs
 simp only [List.isEmpty_nil,Bool.not_true,Bool.false_eq_true, ↓reduceIte,bind_assoc,List.length_nil,bne_self_eq_false]
 unfold Builtin.Frozenset.addrOf Builtin.Frozenset.sizeOf setDrawn setsByText
 refine wpAny_bind (wpAny_pure ?_)
 try dsimp only
 refine wpAny_bind (wpAny_pure ?_)
 refine wpAny_bind (wpAny_bind (wpAny_setEntries_of hS rfl hf (wpAny_pure ?_)))
 simp only [bind_assoc]
 refine wpAny_bind (wpAny_setState_of hS rfl hf ?_)
 refine wpAny_bind (wpAny_askSetting ?_)
 refine wpAny_bind (wpAny_pure ?_)
 refine wpAny_bind (wpAny_pure ?_)
 refine wpAny_ite_split (fun hc=>absurd hc ?_) (fun _=>?_)
 ·show ¬ (!byT w&&_)=true
  cases byT w <;> exact Bool.false_ne_true
 refine wpAny_bind (wpAny_pure ?_)
 refine wpAny_bind (wpAny_setEpoch_of hS rfl hf ?_)
 rw [hsz]
 unfold newFields
 refine wpAny_bind (wpAny_newObj_type ?_)
 exact wpAny_pure ⟨_,rfl, "set_iterator",_,⟨_,Heap.get?_push_size _ rfl,rfl⟩,slot_setit_next.lookup,hQ⟩
theorem set_hint {Q:Bool→Shared→Prop}(hT:s.TypeIs (.ref a) "set") (h:Q false s):wpAny (model prog w) A (Builtin.List.listLengthHint (.ref a)) Q E s:=by
 unfold Builtin.List.listLengthHint
 refine wpAny_bind (wpAny_specialOf hT PySem.F.slot_set_len.lookup ?_)
 generalize hid:("set.__len__" : String)=id0
 wp_delta
 rw [show splitId id0=some ("set", "__len__") from by subst hid; decide +kernel]
 subst hid
 refine wpAny_bind (wpAny_isInstance (T := "set") (b:=true) hT (by rw [isSubtype_type]; kernel_rfl) ?_)
 refine wpAny_ite_split (fun hab=>absurd hab (by decide)) (fun _=>?_)
 refine wpAny_ite_split (fun _=>?_) (fun hab=>absurd (by decide +kernel) hab)
 refine wpAny_bind (wpAny_typeOf hT ?_)
 exact wpAny_pure h
theorem byText_is {Q:Bool→Shared→Prop}(h:Q (byT w) s):wpAny (model prog w) A setsByText Q E s:=by
 unfold setsByText
 exact wpAny_bind (wpAny_askSetting (wpAny_pure h))
theorem set_pick {i slot:Nat}{Q:Option (Value×Nat)→Shared→Prop}(hS:SetAt s.heap a (!byT w) ks ep τ) (hg:Good ks) (hsl:byT w=false→slot=slotOf ks i) (hi:i≤ks.length)
  (h1:∀ v next,(wkL w a ks ep τ)[i]?=some v→(byT w=false→next=slotOf ks (i+1))→Q (some (v,next)) s) (h0:i=ks.length→Q none s):wpAny (model prog w) A (setNext a slot i ep) Q E s:=by
 have hsz:(sE τ ks).size=ks.length:=by simp [sE]
 have hf:=sT_fits (!byT w) ks τ hg.ok.len
 have hwl:(wkL w a ks ep τ).length=ks.length:=by rw [(wkL_perm w a ks ep τ).length_eq,List.length_map]
 unfold setNext
 refine wpAny_bind (wpAny_setState_of hS rfl hf ?_)
 dsimp only
 refine wpAny_bind (byText_is ?_)
 cases hb:byT w with
 | true =>
  refine wpAny_ite_split (fun _=>?_) (fun hc=>absurd rfl hc)
  refine wpAny_ite_split (fun hc=>absurd hc (by simp)) (fun _=>?_)
  unfold setWalk
  refine wpAny_bind (wpAny_bind (wpAny_setState_of hS rfl hf ?_))
  dsimp only
  refine wpAny_bind (byText_is ?_)
  rw [hb]
  refine wpAny_ite_split (fun _=>?_) (fun hc=>absurd rfl hc)
  refine wpAny_bind (wpAny_askSetting (wpAny_pure ?_))
  have hw:wkL w a ks ep τ=(pickOrder (w.params.setOrder a ep) (sE τ ks)).toList.map (·.2):=by unfold wkL; rw [hb]; rfl
  refine wpAny_pure ?_
  show Q (Option.map (fun e=>(e.2,slot)) (pickOrder (w.params.setOrder a ep) (sE τ ks))[i]?) s
  by_cases hin:i<ks.length
  ·obtain ⟨v,hv⟩:∃ v,(wkL w a ks ep τ)[i]?=some v:=⟨_,List.getElem?_eq_getElem (by lia)⟩
   have hv':=hv
   rw [hw,List.getElem?_map,Array.getElem?_toList] at hv'
   cases he:(pickOrder (w.params.setOrder a ep) (sE τ ks))[i]? with
   | none=>rw [he] at hv'; exact (disc tgN hv' rfl).elim
   | some e =>
    rw [he] at hv'
    obtain rfl:=Option.some.inj hv'
    exact h1 _ slot hv fun e=>by rw [hb] at e; exact (disc tgS e rfl).elim
  ·have hl:(pickOrder (w.params.setOrder a ep) (sE τ ks)).toList.length=ks.length:=by rw [← hwl,hw,List.length_map]
   rw [Array.length_toList] at hl
   rw [Array.getElem?_eq_none (by lia)]
   exact h0 (by lia)
 | false =>
  rw [hb] at hS
  have hslot:=hsl hb
  subst hslot
  refine wpAny_ite_split (fun hc=>absurd hc Bool.false_ne_true) (fun _=>?_)
  refine wpAny_ite_split (fun hc=>absurd hc (by show ¬ (false&&_)=true; exact Bool.false_ne_true)) (fun _=>?_)
  refine wpAny_bind (wpAny_of_eq (a:=()) (by first | rfl | (rw [hb]; rfl)) ?_)
  have hbel:SetTable.below (sT (!false) ks).place (slotOf ks i)=i:=hg.ok.low i (by lia)
  have hw:wkL w a ks ep τ=(sE τ ks).toList.map (·.2):=by unfold wkL; rw [hb]; rfl
  refine wpAny_pure ?_
  rw [hbel]
  by_cases hin:i<ks.length
  ·have e1:(sE τ ks)[i]?=some (ks[i],Value.int ks[i] (τ ks[i])):=by simp [sE,hin]
   have e2:(sT (!false) ks).place[i]?=some ks[i].toNat:=by simp [sT,hin]
   rw [e1,e2]
   refine h1 _ _ ?_ fun _=>?_
   ·rw [hw,List.getElem?_map,Array.getElem?_toList,e1]; rfl
   ·simp [slotOf,List.getD_eq_getElem?_getD,hin]
  ·have e1:(sE τ ks)[i]?=none:=Array.getElem?_eq_none (by lia)
   rw [e1]
   exact h0 (by lia)
theorem set_nx {i:Nat}{Q:Option Value→Shared→Prop}(hh:A.handled=none) (hne:a≠I) (hs:SetSt w I a ks ep τ i s.heap) (hg:Good ks) (hi:i≤ks.length)
  (hQ:∀ v h',(wkL w a ks ep τ)[i]?=some v→SetSt w I a ks ep τ (i+1) h'→Heap.SameBut I s.heap h'→Q (some v) { s with heap:=h' }) (hE:i=ks.length→∀ h',Heap.ExtBut I s.heap h'→Q none { s with heap:=h' }):wpAny (model prog w) A (pyNext (.ref I)) Q E s:=by
 obtain ⟨hS,slot,hI,hsl⟩:=hs
 have hT:s.TypeIs (.ref I) "set_iterator" := ⟨_,hI,rfl⟩
 have hsz:(sE τ ks).size=ks.length:=by simp [sE]
 have hf:=sT_fits (!byT w) ks τ hg.ok.len
 unfold pyNext
 refine wpAny_bind (wpAny_attempt (wpAny_callSpecial?_slot (name:=Str.ofString "__next__") hT slot_setit_next (wpAny_call_entry slot_setit_next hT entry_setit_next ?_ (args_setit_next _))))
 refine wpAny_bind (wpAny_of_eq (a:=(Value.ref I,[])) rfl (wpAny_bind (wpAny_fieldsOf hI rfl ?_)))
 show wpAny _ _ (setEntries a >>= _) _ _ _
 refine wpAny_bind (wpAny_setEntries_of hS rfl hf ?_)
 refine wpAny_ite_split (fun hc=>absurd hc (by rw [hsz]; simp)) (fun _=>?_)
 show wpAny _ _ (setNext a slot i ep >>= _) _ _ _
 refine wpAny_bind (set_pick hS hg hsl hi (fun v next hv hnx=>?_) fun e=>?_)
 ·dsimp only
  refine wpAny_bind (wpAny_setField hI rfl (by simp) ?_)
  have hI2:=Heap.get?_update_self (Obj.mapFields (·.setIfInBounds 0 (rawInt (next:Int)))) hI (by rfl)
  refine wpAny_bind (wpAny_setField (s:={ s with heap:=s.heap.update I (Obj.mapFields (·.setIfInBounds 0 (rawInt (next:Int)))) }) hI2 rfl (by simp) ?_)
  have hI3:=Heap.get?_update_self (Obj.mapFields (·.setIfInBounds 1 (rawInt ((i:Int)+1)))) hI2 (by rfl)
  have sb:=(Heap.SameBut.update s.heap I (Obj.mapFields (·.setIfInBounds 0 (rawInt (next:Int))))).trans (Heap.SameBut.update _ I (Obj.mapFields (·.setIfInBounds 1 (rawInt ((i:Int)+1)))))
  refine wpAny_pure ⟨_,rfl,wpAny_pure (hQ v _ hv ⟨?_,next,hI3,hnx⟩ sb)⟩
  show Heap.get? _ a=_
  rw [sb.2 a hne]; exact hS
 ·dsimp only
  refine wpAny_bind (wpAny_setField hI rfl (by simp) ?_)
  show wpAny _ _ (newExc (.type "StopIteration") [] >>= _) _ _ _
  refine wpAny_bind ?_
  simp only [newExc,newTuple]
  refine wpAny_bind (wpAny_newObj_type ?_ (by size_fits))
  refine wpAny_bind (m:=firstArgMember _ _) (wpAny_of_eq (a:=Value.none) (by first | rfl | (simp only [firstArgMember]; rfl)) ?_)
  refine wpAny_newObj_type ?_ (by size_fits)
  simp only [raiseNew]
  refine wpAny_bind (wpAny_handled ?_)
  rw [show A.in1.handled=none from hh]
  refine wpAny_bind (wpAny_pure (wpAny_throw ?_))
  refine wpAny_bind (wpAny_isInstance (T := "StopIteration") (b:=true) ⟨_,Heap.get?_push_size _ rfl,rfl⟩ isSubtype_stop ?_)
  exact wpAny_pure (hE e _ (((Heap.SameBut.update ..).extBut.push _).push _))
end
end
section
theorem sortedI {l:List Int}:∀ {l':List Int},l.Perm l'→l.Pairwise (· ≤ ·)→l'.Pairwise (· < ·)→l=l':=by
 induction l with
 | nil=>exact fun p _ _=>(List.nil_perm.mp p).symm
 | cons a r ih =>
  intro l' p h h'
  cases l' with
  | nil=>exact nomatch p.length_eq
  | cons b r' =>
   have e:a=b:=by
    rcases List.mem_cons.mp (p.mem_iff.mp List.mem_cons_self) with h1 | h1
    ·exact h1
    ·rcases List.mem_cons.mp (p.mem_iff.mpr List.mem_cons_self) with h2 | h2
     ·exact h2.symm
     ·exact absurd (Int.lt_of_lt_of_le ((List.pairwise_cons.mp h').1 a h1) ((List.pairwise_cons.mp h).1 b h2)) (Int.lt_irrefl _)
   subst e
   rw [ih (List.Perm.cons_inv p) (List.pairwise_cons.mp h).2 (List.pairwise_cons.mp h').2]
theorem VDs.ints {av:List Addr}{h:Heap}{vs:List Value}{ns:List Int}(i:IntsAre vs ns):VDs av h vs (ns.map .int):=by
 induction i with
 | nil=>exact .nil
 | cons n t _ ih=>exact .cons (.int n t) ih
section
variable {prog:Program}{w:World}{A:Around}{E:Value→Shared→Prop}{s:Shared}{a I:Addr}{ks:List Int}{ep:Nat}{τ:Int→Tok}
theorem set_walks (hh:A.handled=none) (hne:a≠I) (hg:Good ks):Walks prog w A I [I,a] [I] ks.length (fun i v=>(wkL w a ks ep τ)[i]?=some v) (SetSt w I a ks ep τ) where
 sub:=fun b hb=>by simp at hb; simp [hb]
 frame:=fun i h h' st hk=>by
  obtain ⟨hS,slot,hI,hsl⟩:=st
  exact ⟨hk a (by simp) _ hS,slot,hk I (by simp) _ hI,hsl⟩
 item:=fun i s Q E hi st hQ=>set_nx hh hne st hg (Nat.le_of_lt hi) (fun v h' hv st' hs'=>hQ v h' s.toks hv st' fun b o hb e=>hs'.extBut b o (fun h=>hb (h▸.head _)) e) fun e=>absurd e (Nat.ne_of_lt hi)
 done:=fun s Q E st hQ=>set_nx hh hne st hg (Nat.le_refl _) (fun v h' hv=>absurd (List.getElem?_eq_some_iff.mp hv).1 (by rw [(wkL_perm w a ks ep τ).length_eq,List.length_map]; exact Nat.lt_irrefl _)) fun _ h' he'=>hQ h' s.toks fun b o hb e=>he' b o (fun h=>hb (h▸.head _)) e
 self:=fun i s Q E st hQ=>by
  obtain ⟨hS,slot,hI,hsl⟩:=st
  have hT:s.TypeIs (.ref I) "set_iterator" := ⟨_,hI,rfl⟩
  refine wpAny_pyIter_slot hT slot_setit_it (wpAny_call_entry slot_setit_it hT entry_setit_it ?_ (args_setit_it _))
  show wpAny _ _ (ret (.ref I)) _ _ s
  exact wpAny_pure ⟨_,rfl, "set_iterator",_,hT,slot_setit_next.lookup,hQ⟩
theorem set_src (hg:Good ks):KdlSrc prog w "set" a a ks.length (fun i v=>(wkL w a ks ep τ)[i]?=some v) (fun h=>SetAt h a (!byT w) ks ep τ) where
 type:=fun _ hm=>⟨_,hm,rfl⟩
 there:=fun _ hm=>⟨Heap.lt_size hm,Heap.lt_size hm⟩
 keep:=fun _ _ hm hk=>hk a (.inl rfl) _ hm
 notList:=by decide
 notTuple:=by decide
 hint:=fun _ _ _ _ hm hq=>set_hint ⟨_,hm,rfl⟩ hq
 iter:=fun _ _ hh hm=>⟨_,_,(fun _ _ hq=>set_iter hm hg hq),set_walks hh (Nat.ne_of_lt (Heap.lt_size hm)) hg,⟨Heap.get?_push_of_some _ hm,0,Heap.get?_push_size _ rfl,fun _=>rfl⟩⟩
theorem set_sorted {Q:Value→Shared→Prop}(hS:SetAt s.heap a (!byT w) ks ep τ) (hg:Good ks) (hh:A.handled=none)
  (h:∀ (D:Addr) (h':Heap) (tk n:Nat) (vs:List Value),(∀ b o,s.heap.get? b=some o→h'.get? b=some o)→s.heap.get? D=none→h'.get? D=some (lstO vs n)→IntsAre vs ks→Q (.ref D) { s with heap:=h',toks:=tk }) :
  wpAny (model prog w) A (call (.builtin "sorted") [.ref a]) Q E s:=by
 have hl5:=hg.ok.len
 have hz:ks.length≤sizeLine:=Nat.le_trans (show ks.length≤400 by lia) (by decide)
 refine call_function_entry kind_sorted plain_sorted entry_sorted (args_sorted1 _) ?_
 unfold Builtin.«sorted»
 refine wpAny_bind (m:=checkCount "sorted" 1 1 _) (wpAny_pure ?_)
 refine wpAny_bind (kdu_collect (A:=A.in1) (set_src (prog:=prog) hg) hh hS hz fun h' tk acc hk hacc=>?_)
 have hl:acc.toList.length=ks.length:=by rw [Array.length_toList]; exact hacc.1
 have hw:=wkL_perm w a ks ep τ
 have hacc':acc.toList=wkL w a ks ep τ:=List.ext_getElem? fun i=>by
  rcases Nat.lt_or_ge i acc.toList.length with hi | hi
  ·have:=hacc.2 i acc.toList[i] (by rw [← Array.getElem?_toList]; exact List.getElem?_eq_getElem hi)
   rw [this]; exact List.getElem?_eq_getElem hi
  ·rw [List.getElem?_eq_none hi,List.getElem?_eq_none (by rw [hw.length_eq,List.length_map]; lia)]
 refine wpAny_bind (wpAny_newList ?_ (by rw [hl]; exact hz))
 have hperm:acc.toList.Perm (ks.map fun k=>Value.int k (τ k)):=hacc'▸hw
 have hI:IntsAre acc.toList (acc.toList.map numOf):=intsAre_map _ fun v hv=>by
  obtain ⟨k,_,rfl⟩:=List.mem_map.mp (hperm.mem_iff.mp hv)
  exact ⟨k,_,rfl⟩
 have hnum:(acc.toList.map numOf).Perm ks:=by
  have:=hperm.map numOf
  rwa [List.map_map,show (numOf ∘ fun k=>Value.int k (τ k))=id from rfl,List.map_id] at this
 have hoL:(h'.push (seqObj "list" acc.toList.toArray 0)).get? h'.objs.size=some (seqObj "list" acc.toList.toArray 0):=Heap.get?_push_size _ rfl
 refine wpAny_bind (wpAny_holding (wpAny_call_entry slot_list_sort ⟨_,hoL,rfl⟩ entry_list_sort (list_sort_tree hoL hI (by lia) fun out ns' a1 a2 a3=>⟨_,rfl,?_⟩) (args_list_sort _)))
 have e:ns'=ks:=sortedI (a2.trans hnum) a3 hg.ok.ord
 subst e
 obtain ⟨n,hD⟩:∃ n,(sortedHeap (h'.push (seqObj "list" acc.toList.toArray 0)) h'.objs.size acc.toList out).get? h'.objs.size=some (seqObj "list" out n):=sortedHeap_at hoL
 refine wpAny_pure ⟨_,rfl,h h'.objs.size _ tk n out.toList (fun b o e=>?_) ?_ ?_ a1⟩
 ·have h1:b<h'.objs.size:=Heap.lt_size (hk b o e)
  rw [sortedHeap_old (Nat.ne_of_lt h1) (by rw [size_push']; exact Nat.lt_succ_of_lt h1)]
  exact Heap.get?_push_of_some _ (hk b o e)
 ·cases hc:s.heap.get? h'.objs.size with
  | none=>rfl
  | some o=>exact absurd (Heap.lt_size (hk _ _ hc)) (Nat.lt_irrefl _)
 ·rw [hD]
end
section
variable {prog:Program}{w:World}{g:Heap}{T:Tabs}{n:Nat}{ns:List Int}
noncomputable def menuL (ns:List Int):List Int:=sFold (fun i=>ns.getD i 0) ns.length
end
end
section
noncomputable def metL (ns:List Int):List Int:=firstMet (fun i=>ns.getD i 0) ns.length
section
variable {prog:Program}{w:World}{g:Heap}{T:Tabs}{n:Nat}{sc:Scope}{σ:Sto}{e:Expr}{ns:List Int}{p1 p2 pos pos2:Pos}{f:Str}
theorem lst_items {av:List Addr}{h:Heap}{v:Value}(r:VD av h v (.lst (ns.map .int))):∃ (l:Addr) (items:Array Value),v=.ref l∧h.IsList l items∧IntsAre items.toList ns∧items.size=ns.length:=by
 cases r.i8 with | @mk a vs k na eo q =>
 exact ⟨_,vs.toArray,rfl,⟨_,eo,rfl,k,rfl⟩,ints_are ns q,by rw [List.size_toArray,q.length,List.length_map]⟩
theorem Ev.sortedSet (hl:sc.names.lookup ("sorted" : Str)=some .globalImplicit) (hs:sc.names.lookup ("set" : Str)=some .globalImplicit) (gl:Glb g "sorted" (.builtin "sorted")) (gs:Glb g "set" (.type "set")) (hst:NoSt e) (he:Ev prog w g T n sc σ e (.lst (ns.map .int))) (hz:ns.length≤4) (hb:∀ i,i<ns.length→1≤ns.getD i 0∧ns.getD i 0≤5) :
  Ev prog w g T n sc σ (.Call (.Name "sorted" p1) [.Call (.Name "set" p2) [e] [] pos2] [] pos) (.lst ((menuL ns).map .int)):=fun A s av env hev rm hg hc =>
 wpAny_Call_NameR (wp_glob hc.kind hc.glob hc.blt (by rw [Env.kindOf,hev]; exact hl) hg.keep gl (callWith_builtin1 (wpAny_items_cons (wp_callT hs gs (.more (hst _) he .nil) hev rm hg hc fun vs s₁ x₁ r₁=>by
  cases r₁.one1 with | mk r =>
  obtain ⟨l,items,rfl,hli,hi,hn⟩:=lst_items r
  refine call_setK (ns:=ns) rm.hand hli hi (hn▸hb) (hn▸hz) fun h' tk ep τ hS hk=>?_
  rw [hn] at hS
  refine wpAny_items_nil (set_sorted (s:={ s₁ with heap:=h',toks:=tk }) hS (sFold_good (fun i=>ns.getD i 0) ns.length hb ns.length (Nat.le_refl _)).1 rm.hand fun D h2 tk2 k vs hk2 hD' hD hia=>?_)
  have x₂:Ext g T s₁ { s₁ with heap:=h2,toks:=tk2 }:=.of _ _ fun b o e=>hk2 b o (hk b o e)
  exact ⟨x₁.trans x₂,.lst (fun hm=>((hc.ext x₁ hg).avok D hm).elim fun o p=>nos hD' (hk _ _ p.1)) hD (VDs.ints hia)⟩) rfl) rfl rfl))
theorem Ev.lenSet (hl:sc.names.lookup ("len" : Str)=some .globalImplicit) (hs:sc.names.lookup ("set" : Str)=some .globalImplicit) (gl:Glb g "len" (.builtin "len")) (gs:Glb g "set" (.type "set")) (hst:NoSt e) (he:Ev prog w g T n sc σ e (.lst (ns.map .int))) (hz:ns.length≤300) :
  Ev prog w g T n sc σ (.Call (.Name "len" p1) [.Call (.Name "set" p2) [e] [] pos2] [] pos) (.int ((metL ns).length:Nat)):=fun A s av env hev rm hg hc =>
 wpAny_Call_NameR (wp_glob hc.kind hc.glob hc.blt (by rw [Env.kindOf,hev]; exact hl) hg.keep gl (callWith_builtin1 (wpAny_items_cons (wp_callT hs gs (.more (hst _) he .nil) hev rm hg hc fun vs s₁ x₁ r₁=>by
  cases r₁.one1 with | mk r =>
  obtain ⟨l,items,rfl,hli,hi,hn⟩:=lst_items r
  refine call_set_list (ns:=ns) rm.hand hli hi (hn▸Nat.lt_of_le_of_lt (Nat.succ_le_succ hz) (by decide)) fun h' tk hS hk=>wpAny_items_nil ?_
  obtain ⟨o,es,ep,t,ho,hex,hd,hel,hmem,hb,hf,hn'⟩:=hS
  rw [hn] at hn'
  have hle:=PyProof.Rows.firstMet_length_le (fun i=>ns.getD i 0) ns.length
  refine call_len_set ho hex hd hf (by rw [hn']; lia) ⟨x₁.trans (.of _ _ fun b o e=>hk b o (Heap.lt_size e) e),?_⟩
  rw [hn']; exact .int _ _) rfl) rfl rfl))
end
end
noncomputable abbrev lwB:List Stmt:=bodyOf (fn1 "law")
noncomputable abbrev lwSc:Scope:=scopeOf (fn1 "law")
noncomputable abbrev c0L:List Int:=[2,1,2,1,9,40,75,10]
noncomputable def cel (sc:List Int) (k:Nat):Int:=c0L.getD k 0+((pick sc (some (k:Int)) (some 60) (some 8)).map fun x=>x.fmod 1000003).sum
noncomputable abbrev c8 (c:Nat→Int):List Int:=[c 0,c 1,c 2,c 3,c 4,c 5,c 6,c 7]
noncomputable def wdN (c:Nat→Int):Nat:=(3+(c 0).fmod 3).toNat
noncomputable abbrev mnA (c:Nat→Int):List Int:=[1+(c 1).fmod (wdN c),1+(c 2).fmod (wdN c),1+(c 3).fmod (wdN c)]
noncomputable def mnL (c:Nat→Int):List Int:=menuL (mnA c)
noncomputable def drP (m:List Int) (x:Int):Int×Int:=(m.getD (x.fmod m.length).toNat 0,x.fdiv m.length)
noncomputable def drawnL (c:Nat→Int):List (Int×Int):=[drP (mnL c) (c 4),drP (mnL c) (c 5),drP (mnL c) (c 6),(1+(c 7).fmod (wdN c),(c 7).fdiv (wdN c))]
noncomputable def shortRun (c:Nat→Int) (t:List Nat):List (Int×Int):=t.zipIdx.map fun p=>((p.1:Int),c 6+5*(p.2:Int))
noncomputable abbrev leastD (ls:Option (List Nat)):D:=ls.elim .none natsD
noncomputable abbrev runD (r:List (Int×Int)):D:=.lst (r.map colD)
noncomputable def runsL (c:Nat→Int) (ls:Option (List Nat)):List (List (Int×Int)):=drawnL c::ls.elim [] fun t=>[shortRun c t]
theorem wd_three (c:Nat→Int):wdN c=3∨wdN c=4∨wdN c=5:=by
 have h1:=Int.fmod_nonneg_of_pos (c 0) (show (0:Int)<3 by decide)
 have h2:=Int.fmod_lt_of_pos (c 0) (show (0:Int)<3 by decide)
 unfold wdN; omega
theorem wd_is (c:Nat→Int):3+(c 0).fmod 3=(wdN c:Int):=(Int.toNat_of_nonneg (Int.add_nonneg (by decide) (Int.fmod_nonneg_of_pos _ (by decide)))).symm
theorem wd_bd (c:Nat→Int):3≤wdN c∧wdN c≤5:=by rcases wd_three c with h | h | h <;> rw [h] <;> decide
theorem mn_in (c:Nat→Int) (x:Int):1≤1+x.fmod (wdN c)∧1+x.fmod (wdN c)≤wdN c:=by
 have hp:(0:Int)<wdN c:=Int.ofNat_lt.mpr (Nat.lt_of_lt_of_le (by decide) (wd_bd c).1)
 exact ⟨Int.le_add_of_nonneg_right (Int.fmod_nonneg_of_pos x hp),by rw [Int.add_comm]; exact Int.fmod_lt_of_pos x hp⟩
theorem mnA_in (c:Nat→Int) (i:Nat) (hi:i<(mnA c).length):1≤(mnA c).getD i 0∧(mnA c).getD i 0≤5:=by
 have h5:∀ x:Int,1≤1+x.fmod (wdN c)∧1+x.fmod (wdN c)≤5:=fun x=>⟨(mn_in c x).1,Int.le_trans (mn_in c x).2 (Int.ofNat_le.mpr (wd_bd c).2)⟩
 match i,hi with
 | 0,_=>exact h5 _
 | 1,_=>exact h5 _
 | 2,_=>exact h5 _
theorem mnL_good (c:Nat→Int):Good (mnL c)∧(mnL c).length≤3:=sFold_good (fun i=>(mnA c).getD i 0) 3 (mnA_in c) 3 (Nat.le_refl _)
theorem sIns_ne (k:Int) (ks:List Int):sIns k ks≠[]:=by
 cases ks with
 | nil=>exact List.cons_ne_nil _ _
 | cons a r =>
  show (if k<a then k::a::r else if k=a then a::r else a::sIns k r)≠[]
  by_cases c:k<a
  ·rw [if_pos c]; exact List.cons_ne_nil _ _
  ·rw [if_neg c]
   by_cases c:k=a
   ·rw [if_pos c]; exact List.cons_ne_nil _ _
   ·rw [if_neg c]; exact List.cons_ne_nil _ _
theorem mnL_pos (c:Nat→Int):0<(mnL c).length:=List.length_pos_iff.mpr (by
 show sFold (fun i=>(mnA c).getD i 0) (2+1)≠[]
 rw [sFold_succ]; exact sIns_ne _ _)
noncomputable def mnN (c:Nat→Int):List Nat:=(mnL c).map Int.toNat
theorem mnN_eq (c:Nat→Int):nsD (mnN c)=(mnL c).map .int:=by
 unfold mnN
 rw [nsD,List.map_map]
 exact List.map_congr_left fun x hx=>congrArg D.int (Int.toNat_of_nonneg (Int.le_trans (by decide) ((mnL_good c).1.ok.bd x hx).1))
structure LwK (prog:Program) (w:World) (g:Heap) (T:Tabs) (n:Nat):Prop where
 cells:∀ {script:List Int},script.length≤1000→ClV prog w g T n "_law_cells" [.lst (script.map .int),.lst (c0L.map .int)] (.lst ((cellsP script c0L).map .int))
 word:∀ {size seed:Int},1≤size→size≤9→ClV prog w g T n "_law_word" [.int size,.int seed] (wordP size seed)
 short:∀ {wd:Nat}{menu:List Nat}{r:Option (List Nat)},wd≤20→menu.length≤100→shortP wd menu=some r→ClV prog w g T n "_law_shortest" [.int (wd:Int),natsD menu] (leastD r)
 told:∀ {width:Nat}{ws:List Str},width≤20→toldOk width (szW ws) (tStart width) 0→ws.length≤900→ClV prog w g T n "_law_told" [.int (width:Int),.lst (ws.map .str)] (.lst ((toldS width (szW ws) (tStart width) 0).map (enD width)))
 ap:∀ {i:Int},i.natAbs<16 ^ 200→ClV prog w g T n "Int2AP" [.int i] (.bytes (apB i.natAbs))
 d2i:∀ {l:List Int},4*l.length≤400→(∀ d∈l,0≤d∧d<2 ^ 4)→ClV prog w g T n "_digits2int" [.lst (l.map .int),.int ((4:Nat):Int)] (.int (dval 4 l))
 len:Glb g "len" (.builtin "len")
 ord:Glb g "ord" (.builtin "ord")
 sorted:Glb g "sorted" (.builtin "sorted")
 set:Glb g "set" (.type "set")
 enum:Glb g "enumerate" (.type "enumerate")
 ran:Glb g "range" (.type "range")
 zip:Glb g "zip" (.type "zip")
section
noncomputable abbrev σc (c:Nat→Int):Sto:=[(Str.ofString "cells",.val (.lst ((c8 c).map .int)))]
noncomputable abbrev σw (c:Nat→Int):Sto:=(Str.ofString "width",.val (.int (wdN c)))::σc c
noncomputable abbrev σm (c:Nat→Int):Sto:=(Str.ofString "menu",.val (.lst ((mnL c).map .int)))::σw c
noncomputable abbrev σl (c:Nat→Int) (ls:Option (List Nat)):Sto:=(Str.ofString "least",.val (leastD ls))::σm c
noncomputable abbrev σd (c:Nat→Int) (ls:Option (List Nat)):Sto:=(Str.ofString "drawn",.val (runD (drawnL c)))::σl c ls
noncomputable abbrev shD (c:Nat→Int) (ls:Option (List Nat)):D:=.lst ((ls.elim [] fun t=>[shortRun c t]).map runD)
noncomputable abbrev σr (c:Nat→Int) (ls:Option (List Nat)):Sto:=(Str.ofString "shortest",.val (shD c ls))::σd c ls
section
variable {prog:Program}{w:World}{g:Heap}{T:Tabs}{n:Nat}{σ:Sto}{c:Nat→Int}{ls:Option (List Nat)}{script:List Int}
theorem lw0 (k:LwK prog w g T n) (hl:script.length≤1000):Sx prog w g T n lwSc (params ["script"] [.lst (script.map .int)]) (nth lwB 0) (.next ((Str.ofString "cells",.val (.lst ((c8 (cel script)).map .int)))::params ["script"] [.lst (script.map .int)])) :=
 Sx.assign (Ev.call rfl (EvL.more (fun _=>rfl) (Ev.name rfl) (EvL.more (fun _=>rfl) (Ev.list (ds:=c0L.map .int) (.more (fun _=>rfl) Ev.int (.more (fun _=>rfl) Ev.int (.more (fun _=>rfl) Ev.int (.more (fun _=>rfl) Ev.int (.more (fun _=>rfl) Ev.int (.more (fun _=>rfl) Ev.int (.more (fun _=>rfl) Ev.int (.more (fun _=>rfl) Ev.int .nil)))))))) (show (8:Nat)≤lim by decide)) EvL.nil)) (k.cells hl)) (fun _ _ _=>rfl) rfl
theorem ev_cell {sc:Scope}{i:Nat}{x:Int}{p1 p2 p3:Pos}{kk:Nat}(h:σ.lookup (Str.ofString "cells")=some (.val (.lst ((c8 c).map .int)))) (hx:(c8 c)[i]?=some x) (hi:i≤900):Ev prog w g T n sc σ (.Subscript (.Name "cells" p1) (.Constant (.int (i:Int)) kk p2) p3) (.int x) :=
 Ev.item (Ev.name h) Ev.int (fun _ _=>rfl) (item_at (k:=i) rfl (small_nat hi) (by rw [List.getElem?_map,hx]; rfl))
theorem lw1:Sx prog w g T n lwSc (σc c) (nth lwB 1) (.next (σw c)) :=
 Sx.assign (wd_is c▸Ev.bin Ev.int (Ev.bin (ev_cell (i:=0) rfl rfl (by decide)) Ev.int (bin_mod (by decide))) bin_add) (fun _ _ _=>rfl) rfl
theorem wd_ne (c:Nat→Int):(wdN c:Int)≠0:=Int.ofNat_ne_zero.mpr (Nat.ne_of_gt (Nat.lt_of_lt_of_le (by decide) (wd_bd c).1))
theorem wd_sm (c:Nat→Int):sm (wdN c:Int)=true:=sm_nat (Nat.le_trans (wd_bd c).2 (by decide))
theorem lw2 (k:LwK prog w g T n):Sx prog w g T n lwSc (σw c) (nth lwB 2) (.next (σm c)) :=
 Sx.assign (Ev.sortedSet (ns:=mnA c) rfl rfl k.sorted k.set (fun _ _=>rfl) (EvO.ev (EvO.each (enc:=D.int) (f:=fun x=>D.int (1+x.fmod (wdN c))) (xs:=[c 1,c 2,c 3]) rfl rfl (fun _ _=>rfl) (EvI.list (Ev.slice (Ev.name rfl) (.some' Ev.int) (.some' Ev.int) .none' (slice_map (xs:=c8 c) (enc:=D.int) rfl (show (8:Nat)≤lim by decide)))) (show (3:Nat)≤lim by decide) fun x _ =>
  ⟨[(Str.ofString "cell",.int x)],.name,stAll_of rfl,rfl,Ev.bin Ev.int (Ev.bin (Ev.name rfl) (Ev.name rfl) (bin_mod (wd_ne c))) bin_add⟩)) (show (3:Nat)≤4 by decide) (mnA_in c)) (fun _ _ _=>rfl) rfl
theorem lw3 (k:LwK prog w g T n) (hs:shortP (wdN c) (mnN c)=some ls):Sx prog w g T n lwSc (σm c) (nth lwB 3) (.next (σl c ls)) :=
 Sx.assign (Ev.call rfl (EvL.more (fun _=>rfl) (Ev.name rfl) (EvL.more (fun _=>rfl) (Ev.name (d:=natsD (mnN c)) (congrArg (fun l=>some (Sl.val (D.lst l))) (mnN_eq c).symm)) EvL.nil)) (k.short (Nat.le_trans (wd_bd c).2 (by decide)) (by rw [mnN,List.length_map]; exact Nat.le_trans (mnL_good c).2 (by decide)) hs)) (fun _ _ _=>rfl) rfl
end
end
section
section
variable {prog:Program}{w:World}{g:Heap}{T:Tabs}{n:Nat}{σ:Sto}{c:Nat→Int}{ls:Option (List Nat)}
theorem ev_menu {sc:Scope}{x:Int}{p1 p2 p3 p4 p5 p6 p7 q1 q2 q3 q4 q5 q6:Pos}{kk:Nat}(k:LwK prog w g T n) (hl:sc.names.lookup ("len" : Str)=some .globalImplicit) (hm:σ.lookup (Str.ofString "menu")=some (.val (.lst ((mnL c).map .int)))) (hx:σ.lookup (Str.ofString "cell")=some (.val (.int x))) :
  Ev prog w g T n sc σ (.Tuple [.Subscript (.Name "menu" p1) (.BinOp (.Name "cell" p2) .Mod (.Call (.Name "len" p3) [.Name "menu" p4] [] p5) p6) p7,.BinOp (.Name "cell" q1) .FloorDiv (.Call (.Name "len" q2) [.Name "menu" q3] [] q4) q5] kk q6) (colD (drP (mnL c) x)):=by
 have hp:=mnL_pos c
 have h3:=(mnL_good c).2
 have hpi:(0:Int)<((mnL c).length:Int):=Int.ofNat_lt.mpr hp
 have len:∀ {p1 p2 p3:Pos},Ev prog w g T n sc σ (.Call (.Name "len" p1) [.Name "menu" p2] [] p3) (.int ((mnL c).length:Int)):=fun {p1 p2 p3}=>by
  have q:=cl_len_lst (prog:=prog) (w:=w) (T:=T) (n:=n) (ds:=(mnL c).map .int) k.len (by rw [List.length_map]; exact Nat.le_trans h3 (by decide))
  rw [List.length_map] at q
  exact Ev.call hl (EvL.more (fun _=>rfl) (Ev.name hm) EvL.nil) q
 have h0:=Int.fmod_nonneg_of_pos x hpi
 obtain ⟨j,hj⟩:=Int.eq_ofNat_of_zero_le h0
 have hlt:j<(mnL c).length:=Int.ofNat_lt.mp (hj▸Int.fmod_lt_of_pos x hpi)
 have e:drP (mnL c) x=((mnL c)[j],x.fdiv (mnL c).length):=by
  unfold drP
  rw [hj,Int.toNat_natCast,List.getD_eq_getElem?_getD,List.getElem?_eq_getElem hlt]
  rfl
 rw [e]
 exact Ev.tup (EvL.more (fun _=>rfl) (Ev.item (Ev.name hm) (Ev.bin (Ev.name hx) len (bin_mod (Int.ne_of_gt hpi))) (fun _ _=>rfl) (hj▸item_at (k:=j) rfl (small_nat (Nat.le_trans (Nat.le_of_lt hlt) (Nat.le_trans h3 (by decide)))) (by rw [List.getElem?_map,List.getElem?_eq_getElem hlt]; rfl))) (EvL.more (fun _=>rfl) (Ev.bin (Ev.name hx) len (bin_div (Int.ne_of_gt hpi) (sm_nat (Nat.le_trans h3 (by decide))))) EvL.nil)) (show (2:Nat)≤lim by decide)
theorem lw4 (k:LwK prog w g T n):Sx prog w g T n lwSc (σl c ls) (nth lwB 4) (.next (σd c ls)) :=
 Sx.assign (Ev.bin (EvO.ev (EvO.each (enc:=D.int) (f:=fun x=>colD (drP (mnL c) x)) (xs:=[c 4,c 5,c 6]) rfl rfl (fun _ _=>rfl) (EvI.list (Ev.slice (Ev.name rfl) (.some' Ev.int) (.some' Ev.int) .none' (slice_map (xs:=c8 c) (enc:=D.int) rfl (show (8:Nat)≤lim by decide)))) (show (3:Nat)≤lim by decide) fun x _=>⟨[(Str.ofString "cell",.int x)],.name,stAll_of rfl,rfl,ev_menu k rfl rfl rfl⟩))
  (Ev.list (EvL.more (fun _=>rfl) (Ev.tup (EvL.more (fun _=>rfl) (Ev.bin Ev.int (Ev.bin (ev_cell (i:=7) rfl rfl (by decide)) (Ev.name rfl) (bin_mod (wd_ne c))) bin_add) (EvL.more (fun _=>rfl) (Ev.bin (ev_cell (i:=7) rfl rfl (by decide)) (Ev.name rfl) (bin_div (wd_ne c) (wd_sm c))) EvL.nil)) (show (2:Nat)≤lim by decide)) EvL.nil) (show (1:Nat)≤lim by decide)) (bin_lst (show (3:Nat)≤lim by decide) (show (1:Nat)≤lim by decide))) (fun _ _ _=>rfl) rfl
theorem lw5 (k:LwK prog w g T (n+1)) (hz:∀ t,ls=some t→t.length≤900):Sx prog w g T (n+1) lwSc (σd c ls) (nth lwB 5) (.next (σr c ls)):=by
 cases ls with
 | none=>exact Sx.assign (Ev.ite (c:=true) (EvT.cmp (Ev.name rfl) Ev.none rfl cmp_isN) (Ev.list EvL.nil (Nat.zero_le _))) (fun _ _ _=>rfl) rfl
 | some t =>
  have ht:=hz t rfl
  have e:runD (shortRun c t)=.lst (t.zipIdx.map fun p=>colD ((p.1:Int),c 6+5*(p.2:Int))):=congrArg D.lst (List.map_map ..)
  have sh:shD c (some t)=.lst [runD (shortRun c t)]:=rfl
  unfold σr
  rw [sh,e]
  refine Sx.assign (Ev.ite (c:=false) (EvT.cmp (Ev.name rfl) Ev.none rfl cmp_isL) (Ev.list (EvL.more (fun _=>rfl) (EvO.ev (EvO.each (enc:=fun p:Nat×Nat=>D.tup [.int (p.2:Int),.int (p.1:Int)]) (xs:=t.zipIdx) rfl rfl (fun _ _=>rfl) (EvI.enumM (xs:=t) (enc:=fun x:Nat=>D.int (x:Int)) rfl k.enum (fun _ _=>rfl) (Ev.name rfl)) (by rw [List.length_zipIdx]; exact Nat.le_trans ht (by decide)) fun x hx=>⟨[(Str.ofString "place",.int (x.2:Int)),(Str.ofString "size",.int (x.1:Int))],.tup (.cons (.cons .nil)),stAll_of rfl,rfl,
   Ev.tup (EvL.more (fun _=>rfl) (Ev.name rfl) (EvL.more (fun _=>rfl) (Ev.bin (ev_cell (i:=6) rfl rfl (by decide)) (Ev.bin Ev.int (Ev.name rfl) (bin_mul (by decide) (sm_of ?_))) bin_add) EvL.nil)) (show (2:Nat)≤lim by decide)⟩)) EvL.nil) (show (1:Nat)≤lim by decide))) (fun _ _ _=>rfl) rfl
  rw [Int.natAbs_natCast]
  have:=List.snd_lt_of_mem_zipIdx hx
  exact Nat.le_trans (Nat.le_of_lt this) (Nat.le_trans ht (by decide:900≤2 ^ 64))
end
end
noncomputable def wn (p:Int×Int):Nat:=(p.1 - 1).toNat
noncomputable def wk (p:Int×Int):Nat:=if p.1=1 then 0 else (wvalue p.1 p.2).natAbs
noncomputable def wordOf (p:Int×Int):Str:=apS (wk p)
noncomputable abbrev mdD (p:Int×Int):D:=.tup [.str (wordOf p),.int (wk p)]
noncomputable abbrev szOk (p:Int×Int):Prop:=1≤p.1∧p.1≤5
theorem apL_spec (m:Nat):∀ (f k:Nat) (acc:List UInt8),k<16 ^ m→(m=0∨16 ^ (m - 1)≤k)→m≤f→apL f k acc=(digs 4 m k).reverse.map letter++acc:=by
 induction m with
 | zero =>
  intro f k acc h _ _
  cases Nat.lt_one_iff.mp h
  cases f <;> rfl
 | succ m ih =>
  intro f k acc h h2 hf
  cases f with
  | zero=>exact absurd hf (Nat.not_succ_le_zero m)
  | succ f =>
   have h2:16 ^ m≤k:=h2.elim (fun e=>nomatch e) id
   have h0:k≠0:=Nat.ne_of_gt (Nat.lt_of_lt_of_le (Nat.pow_pos (by decide)) h2)
   rw [show apL (f+1) k acc=apL f (k / 16) (letter (k % 16)::acc) from if_neg h0,ih f (k / 16) _ (Nat.div_lt_of_lt_mul (by rw [Nat.mul_comm, ← Nat.pow_succ]; exact h)) ?_ (Nat.le_of_succ_le_succ hf),show digs 4 (m+1) k=(k % 16)::digs 4 m (k / 16) from rfl,List.reverse_cons,List.map_append,List.append_assoc]
   ·rfl
   ·cases m with
    | zero=>exact .inl rfl
    | succ m=>exact .inr ((Nat.le_div_iff_mul_le (by decide)).mpr (by rw [← Nat.pow_succ]; exact h2))
structure WkOk (p:Int×Int):Prop where
 lt:wk p<16 ^ wn p
 ge:wn p=0∨16 ^ (wn p - 1)≤wk p
 le:wn p≤4
theorem wk_ok {p:Int×Int}(h:szOk p):WkOk p:=by
 have h4:wn p≤4:=by have:=h.1; have:=h.2; unfold wn; omega
 by_cases e:p.1=1
 ·exact ⟨by rw [wk,if_pos e]; exact Nat.pow_pos (by decide),.inl (by rw [wn,e]; rfl),h4⟩
 ·have e1:wn p=(p.1 - 2).toNat+1:=by have:=h.1; unfold wn; omega
  have hl:low p.1=((16 ^ (p.1 - 2).toNat:Nat):Int):=(Int.natCast_pow 16 _).symm
  have hp:0<16 ^ (p.1 - 2).toNat:=Nat.pow_pos (by decide)
  have hi:(0:Int)<15*low p.1:=by rw [hl]; exact Int.mul_pos (by decide) (Int.ofNat_lt.mpr hp)
  have a1:=Int.fmod_nonneg_of_pos (p.2.fdiv 2) hi
  have a2:=Int.fmod_lt_of_pos (p.2.fdiv 2) hi
  have hw:wk p=(wvalue p.1 p.2).natAbs:=by unfold wk; exact if_neg e
  rw [hl] at a1 a2
  obtain ⟨j,hj⟩:=Int.eq_ofNat_of_zero_le a1
  have hv:wk p=16 ^ (p.1 - 2).toNat+j:=by
   rw [hw]
   unfold wvalue
   rw [hl,hj, ← Int.natCast_add,Int.natAbs_natCast]
  have h5:j<15*16 ^ (p.1 - 2).toNat:=Int.ofNat_lt.mp (hj▸a2)
  refine ⟨?_,.inr ?_,h4⟩
  ·rw [hv,e1,Nat.pow_succ]; exact Nat.lt_of_lt_of_eq (Nat.add_lt_add_left h5 _) (by rw [Nat.add_comm, ← Nat.succ_mul,Nat.mul_comm])
  ·rw [hv,e1,Nat.add_sub_cancel]; exact Nat.le_add_right _ _
theorem letter_nat {d:Nat}(h:d<16):(letter d).toNat=65+d:=(by decide:∀ m:Fin 16,(letter m).toNat=65+m) ⟨d,h⟩
theorem word_cps {p:Int×Int}(h:szOk p):(wordOf p).cps=((digs 4 (wn p) (wk p)).reverse.map (65 + ·)).toArray:=by
 have o:=wk_ok h
 unfold wordOf apS textOf apB
 rw [apL_spec (wn p) 200 (wk p) [] o.lt o.ge (Nat.le_trans o.le (by decide)),List.append_nil,List.map_toArray,List.map_map]
 exact congrArg List.toArray (List.map_congr_left fun d hd=>letter_nat (digs_lt 4 _ _ d (List.mem_reverse.mp hd)))
theorem word_len {p:Int×Int}(h:szOk p):(wordOf p).length=wn p:=by
 show (wordOf p).cps.size=_
 rw [word_cps h,List.size_toArray,List.length_map,List.length_reverse,digs_length]
theorem rev_small (l:List Nat) (h:l.length≤4):pickS ⟨l.toArray⟩ none none (some (-1))=⟨l.reverse.toArray⟩:=by
 rcases l with _ | ⟨a,_ | ⟨b,_ | ⟨c,_ | ⟨d,_ | ⟨e,l⟩⟩⟩⟩⟩
 ·kernel_rfl
 ·kernel_rfl
 ·kernel_rfl
 ·kernel_rfl
 ·kernel_rfl
 ·exact absurd h (Nat.not_le_of_lt (Nat.le_add_left 5 l.length))
theorem word_rev {p:Int×Int}(h:szOk p):pickS (wordOf p) none none (some (-1))=⟨((digs 4 (wn p) (wk p)).map (65 + ·)).toArray⟩:=by
 have e:wordOf p=⟨((digs 4 (wn p) (wk p)).reverse.map (65 + ·)).toArray⟩:=by rw [← word_cps h]
 rw [e,rev_small _ (by rw [List.length_map,List.length_reverse,digs_length]; exact (wk_ok h).le), ← List.map_reverse,List.reverse_reverse]
theorem wordP_eq {p:Int×Int}(h:szOk p):wordP p.1 p.2=mdD p:=by
 unfold wordP mdD wordOf wk
 by_cases e:p.1=1
 ·rw [if_pos e,if_pos e]; rfl
 ·rw [if_neg e,if_neg e,Int.natAbs_of_nonneg (wvalue_bd p.1 p.2 (Int.le_trans h.2 (by decide))).1]
noncomputable abbrev wsL (r:List (Int×Int)):List Str:=r.map wordOf
theorem ws_ok {r:List (Int×Int)}(hr:∀ p∈r,szOk p):okW (wsL r):=fun x hx=>by
 obtain ⟨p,hp,rfl⟩:=List.mem_map.mp hx
 have h:=hr p hp
 refine ⟨by rw [word_len h]; exact Nat.le_trans (wk_ok h).le (by decide),?_⟩
 unfold PyData.strOk
 rw [word_cps h]
 simp only [List.all_toArray,List.all_eq_true,List.mem_map,List.mem_reverse,decide_eq_true_eq]
 rintro y ⟨d,hd,rfl⟩
 have:d<16:=digs_lt 4 _ _ d hd
 omega
section
noncomputable abbrev lwFor:Stmt:=nth lwB 6
noncomputable abbrev lwTn:List Stmt:=(stP lwFor).body
noncomputable abbrev σt (c:Nat→Int) (ls:Option (List Nat)) (turn:Nat) (r:List (Int×Int)):Sto:=[(Str.ofString "run",.val (runD r)),(Str.ofString "turn",.val (.int (turn:Int))),(Str.ofString "least",.val (leastD ls)),(Str.ofString "width",.val (.int (wdN c)))]
noncomputable abbrev σa (c:Nat→Int) (ls:Option (List Nat)) (turn:Nat) (r:List (Int×Int)):Sto:=(Str.ofString "made",.val (.lst (r.map mdD)))::σt c ls turn r
noncomputable abbrev σb (c:Nat→Int) (ls:Option (List Nat)) (turn:Nat) (r:List (Int×Int)):Sto:=(Str.ofString "words",.val (.lst ((wsL r).map .str)))::σa c ls turn r
theorem dps_ints (l:List Int):Dps 8 (l.map .int) (l.map .int):=by
 induction l with
 | nil=>exact .nil
 | cons a l ih=>exact .cons .int ih
theorem eqvAll_ints (l:List Int):PyData.eqvAll (l.map .int) (l.map .int)=true:=by
 induction l with
 | nil=>rfl
 | cons a l ih =>
  show ((a==a)&&PyData.eqvAll (l.map .int) (l.map .int))=true
  rw [ih,beq_self_eq_true]; rfl
theorem dps_cols (l:List (Int×Int)):Dps 8 (l.map colD) (l.map fun c=>.tuple [.int c.1,.int c.2]):=by
 induction l with
 | nil=>exact .nil
 | cons a l ih=>exact .cons (.tup (.cons .int (.cons .int .nil))) ih
theorem eqvAll_cols (l:List (Int×Int)):PyData.eqvAll (l.map fun c=>.tuple [.int c.1,.int c.2]) (l.map fun c=>.tuple [.int c.1,.int c.2])=true:=by
 induction l with
 | nil=>rfl
 | cons a l ih =>
  show ((a.1==a.1&&(a.2==a.2&&true))&&PyData.eqvAll _ _)=true
  rw [ih,beq_self_eq_true,beq_self_eq_true]; rfl
section
variable {prog:Program}{w:World}{g:Heap}{T:Tabs}{n:Nat}{σ:Sto}{c:Nat→Int}{ls:Option (List Nat)}{turn:Nat}{r:List (Int×Int)}
theorem ne_ints {l:List Int}:CmpV prog w g T .NotEq (.lst (l.map .int)) (.lst (l.map .int)) false:=by
 have e:(!(PyData.list (l.map .int)).eqv (.list (l.map .int)))=false:=congrArg not (eqvAll_ints l)
 exact e▸cmp_neD (.lst (dps_ints l)) (.lst (dps_ints l))
theorem ne_cols {l:List (Int×Int)}:CmpV prog w g T .NotEq (.lst (l.map colD)) (.lst (l.map colD)) false:=by
 have e:(!(PyData.list (l.map fun c=>.tuple [.int c.1,.int c.2])).eqv (.list (l.map fun c=>.tuple [.int c.1,.int c.2])))=false:=congrArg not (eqvAll_cols l)
 exact e▸cmp_neD (.lst (dps_cols l)) (.lst (dps_cols l))
variable (k:LwK prog w g T (n+1)) (hr:∀ p∈r,szOk p) (hz:r.length≤900)
include k hr hz
theorem tn0:Sx prog w g T (n+1) lwSc (σt c ls turn r) (nth lwTn 0) (.next (σa c ls turn r)) :=
 Sx.assignComp (fun c hc=>List.mem_singleton.mp hc▸rfl) (fun _ _=>rfl) rfl rfl (EvI.list (Ev.name rfl)) (loop_each (enc:=colD) fun p hp=>⟨[(Str.ofString "size",.int p.1),(Str.ofString "seed",.int p.2)],.tup (.cons (.cons .nil)),stAll_of rfl,rfl,wordP_eq (hr p hp)▸Ev.call rfl (EvL.more (fun _=>rfl) (Ev.name rfl) (EvL.more (fun _=>rfl) (Ev.name rfl) EvL.nil)) (k.word (hr p hp).1 (Int.le_trans (hr p hp).2 (by decide)))⟩) (by rw [List.length_map]; exact Nat.le_trans hz (by decide)) rfl
omit k hr in
theorem tn1:Sx prog w g T (n+1) lwSc (σa c ls turn r) (nth lwTn 1) (.next (σb c ls turn r)):=by
 have e:(wsL r).map D.str=r.map fun p=>D.str (wordOf p):=List.map_map ..
 unfold σb
 rw [e]
 exact Sx.assignComp (fun c hc=>List.mem_singleton.mp hc▸rfl) (fun _ _=>rfl) rfl rfl (EvI.list (Ev.name rfl)) (loop_each (enc:=mdD) fun p hp=>⟨[(Str.ofString "word",.str (wordOf p)),(Str.ofString "value",.int (wk p))],.tup (.cons (.cons .nil)),stAll_of rfl,rfl,Ev.name rfl⟩) (by rw [List.length_map]; exact Nat.le_trans hz (by decide)) rfl
theorem tn2:Sx prog w g T (n+1) lwSc (σb c ls turn r) (nth lwTn 2) (.next (σb c ls turn r)):=by
 have hl:r.length≤lim:=Nat.le_trans hz (by decide)
 have e:(r.map fun p=>(wk p:Int)).map D.int=r.map fun p=>D.int (wk p:Int):=List.map_map ..
 have ew:(wsL r).map D.str=r.map fun p=>D.str (wordOf p):=List.map_map ..
 refine Sx.ite (b:=false) (EvT.cmp (e▸EvO.ev (EvO.each (enc:=fun p=>D.str (wordOf p)) (xs:=r) rfl rfl (fun _ _=>rfl) (EvI.list (Ev.name (congrArg (fun l=>some (Sl.val (D.lst l))) ew))) hl fun p hp=>⟨[(Str.ofString "word",.str (wordOf p))],.name,stAll_of rfl,rfl,?_⟩)) (e▸EvO.ev (EvO.each (enc:=mdD) (xs:=r) rfl rfl (fun _ _=>rfl) (EvI.list (Ev.name rfl)) hl fun p hp=>⟨[(Str.ofString "word",.str (wordOf p)),(Str.ofString "value",.int (wk p))],.tup (.cons (.cons .nil)),stAll_of rfl,rfl,Ev.name rfl⟩)) rfl ne_ints) SxL.nil
 have h:=hr p hp
 have o:=wk_ok h
 have hw:=word_rev h
 have hn:(digs 4 (wn p) (wk p)).length≤4:=by rw [digs_length]; exact o.le
 have hlt:wk p<2 ^ (4*wn p):=by rw [Nat.pow_mul]; exact o.lt
 have d:=k.d2i (l:=(digs 4 (wn p) (wk p)).map fun d:Nat=>(d:Int)) (by rw [List.length_map]; exact Nat.le_trans (Nat.mul_le_mul_left 4 hn) (by decide)) fun x hx=>by
  obtain ⟨y,hy,rfl⟩:=List.mem_map.mp hx
  exact ⟨Int.natCast_nonneg y,Int.ofNat_lt.mpr (digs_lt 4 _ _ y hy)⟩
 rw [dval_digs 4 _ _ hlt,List.map_map] at d
 have ec:chars ⟨((digs 4 (wn p) (wk p)).map (65 + ·)).toArray⟩=(digs 4 (wn p) (wk p)).map fun d:Nat=>D.str ⟨#[65+d]⟩:=by unfold chars; simp [List.map_map,Function.comp_def]
 refine Ev.call rfl (EvL.more (fun _=>rfl) (EvO.ev (EvO.each (enc:=fun d:Nat=>D.str ⟨#[65+d]⟩) (xs:=digs 4 (wn p) (wk p)) rfl rfl (fun _ _=>rfl) (ec▸hw▸EvI.str (Ev.slice (Ev.name rfl) .none' .none' (.some' (Ev.neg Ev.int)) (slice_str rfl ?_))) (Nat.le_trans hn (by decide)) fun x _=>⟨[(Str.ofString "sign",.str ⟨#[65+x]⟩)],.name,stAll_of rfl,rfl,Ev.bin (Ev.call rfl (EvL.more (fun _=>rfl) (Ev.name rfl) EvL.nil) (cl_ord k.ord rfl)) Ev.int (bin_subN (a:=65+x) (b:=65) rfl)⟩)) (EvL.more (fun _=>rfl) Ev.int EvL.nil)) d
 rw [hw]
 show (List.toArray _).size≤lim
 rw [List.size_toArray,List.length_map]
 exact Nat.le_trans hn (by decide)
theorem tn3:Sx prog w g T (n+1) lwSc (σb c ls turn r) (nth lwTn 3) (.next (σb c ls turn r)):=by
 have hl:r.length≤lim:=Nat.le_trans hz (by decide)
 have e:(r.map fun p=>p.1).map D.int=r.map fun p=>D.int p.1:=List.map_map ..
 have ew:(wsL r).map D.str=r.map fun p=>D.str (wordOf p):=List.map_map ..
 refine Sx.ite (b:=false) (EvT.cmp (e▸EvO.ev (EvO.each (enc:=fun p=>D.str (wordOf p)) (xs:=r) rfl rfl (fun _ _=>rfl) (EvI.list (Ev.name (congrArg (fun l=>some (Sl.val (D.lst l))) ew))) hl fun p hp=>⟨[(Str.ofString "word",.str (wordOf p))],.name,stAll_of rfl,rfl,?_⟩)) (e▸EvO.ev (EvO.each (enc:=colD) (xs:=r) rfl rfl (fun _ _=>rfl) (EvI.list (Ev.name rfl)) hl fun p hp=>⟨[(Str.ofString "size",.int p.1),(Str.ofString "seed",.int p.2)],.tup (.cons (.cons .nil)),stAll_of rfl,rfl,Ev.name rfl⟩)) rfl ne_ints) SxL.nil
 have h:=hr p hp
 have hw:=word_len h
 have e1:p.1=((wn p+1:Nat):Int):=by rw [Int.natCast_add,wn,Int.toNat_of_nonneg (Int.sub_nonneg_of_le h.1)]; exact (Int.sub_add_cancel p.1 1).symm
 exact e1▸Ev.bin (Ev.call rfl (EvL.more (fun _=>rfl) (Ev.name rfl) EvL.nil) (cl_len_str k.len (hw▸Nat.le_trans (wk_ok h).le (by decide)))) Ev.int (bin_addN (b:=1) (congrArg (· + 1) hw))
end
end
section
noncomputable abbrev headsL (wd:Nat):List Int:=(List.range (wd+1)).map fun j:Nat=>(j:Int)
noncomputable abbrev jSts (mx:Int) (ws:List Str) (i:Int):List Pst:=pgSts mx i ws 0 ([],[],i)
noncomputable abbrev snL (mx:Int) (ws:List Str) (i:Int):List D:=(jSts mx ws i).map seenD
noncomputable abbrev stN (st:Pst):Int×Int:=((st.1.length:Int),accLen st.2.1 st.2.2)
noncomputable def numAt (mx:Int) (ws:List Str) (p:Nat) (i:Int):Int×Int:=stN ((jSts mx ws i).getD p ([],[],0))
noncomputable def fillsL (mx:Int) (ws:List Str) (hs:List Int) (p:Nat):List Int:=hs.map fun i=>(numAt mx ws p i).2
noncomputable def letL (fs hs:List Int):Str:=Str.join es0 (hs.map fun f=>⟨#[65+fs.count f]⟩)
noncomputable def dueB (ls:Option (List Nat)) (p:Nat):Bool:=ls.elim false fun t=>decide ((p:Int)+1≥(t.length:Int))
noncomputable def alikeB (fs:List Int):Bool:=((metL fs).length:Int)==1
noncomputable def badB (ls:Option (List Nat)) (turn len p:Nat) (fs:List Int):Bool:=(alikeB fs&&(!dueB ls p&&(decide ((p:Int)<3+(turn:Int)*(len:Int))&&true)))||(((turn:Int)==1&&(dueB ls p&&(!alikeB fs&&true)))||false)
structure PlOk (mx:Int) (wd:Nat) (ls:Option (List Nat)) (turn len:Nat) (ws:List Str) (h:Nat×Nat) (p:Nat):Prop where
 bad:badB ls turn len p (fillsL mx ws (headsL wd) p)=false
 let_:apS h.1=stripS true false (letL (fillsL mx ws (headsL wd) p) (headsL wd)) (Str.ofString "A")
 num:turn=0→(headsL wd).map (numAt mx ws p)=stL wd h
 lt:h.1<2 ^ 140
theorem pgSts_len {mx head:Int}{ws:List Str}:∀ {k:Nat}{st:Pst},(pgSts mx head ws k st).length=ws.length:=by
 induction ws with
 | nil=>exact rfl
 | cons x ws ih=>exact congrArg (· + 1) ih
section
variable {mx:Int}{ws:List Str}{qs:List Pg}{hs:List Int}
noncomputable abbrev outL (mx:Int) (ws:List Str) (qs:List Pg) (hs:List Int):List D:=(qs.zip hs).map fun x=>pgD x.1 (snL mx ws x.2)
theorem zip_eq {α β γ:Type}(f:α→β→γ) (l:List α):∀ m:List β,List.zipWith f l m=(l.zip m).map fun x=>f x.1 x.2:=by
 induction l with
 | nil=>exact fun _=>rfl
 | cons a l ih =>
  intro m
  cases m with
  | nil=>rfl
  | cons b m=>exact congrArg (_ :: ·) (ih m)
theorem out_eq:List.zipWith (fun q i=>pgD q (snL mx ws i)) qs hs=outL mx ws qs hs:=zip_eq _ qs hs
theorem zip_snd {β:Type}{F:Int→β}(h:qs.length=hs.length):((qs.zip hs).map fun x=>F x.2)=hs.map F :=
 (List.map_map (f:=Prod.snd) (g:=F)).symm.trans (congrArg (List.map F) (List.map_snd_zip (Nat.le_of_eq h.symm)))
end
end
section
noncomputable abbrev lwPl:Stmt:=nth lwTn 6
structure Tn where
 c:Nat→Int
 ls:Option (List Nat)
 turn:Nat
 r:List (Int×Int)
 qs:List Pg
 ts:List (Nat×Nat)
noncomputable abbrev Tn.wd (t:Tn):Nat:=wdN t.c
noncomputable abbrev Tn.hs (t:Tn):List Int:=headsL t.wd
noncomputable abbrev Tn.ws (t:Tn):List Str:=wsL t.r
noncomputable abbrev σo (t:Tn):Sto:=(Str.ofString "pages",.val (.lst (outL t.wd t.ws t.qs t.hs)))::σb t.c t.ls t.turn t.r
noncomputable abbrev σe (t:Tn):Sto:=(Str.ofString "told",.val (.lst (t.ts.map (enD t.wd))))::σo t
noncomputable abbrev σf (t:Tn) (p:Nat):Sto:=(Str.ofString "place",.val (.int (p:Int)))::σe t
noncomputable abbrev σg0 (t:Tn) (p:Nat) (h:Nat×Nat):Sto:=(Str.ofString "states",.val (.lst ((stL t.wd h).map colD)))::(Str.ofString "held",.val (.int (h.1:Int)))::σf t p
noncomputable abbrev Tn.fs (t:Tn) (p:Nat):List Int:=fillsL t.wd t.ws t.hs p
noncomputable abbrev σg1 (t:Tn) (p:Nat) (h:Nat×Nat):Sto:=(Str.ofString "fills",.val (.lst ((t.fs p).map .int)))::σg0 t p h
noncomputable abbrev σg2 (t:Tn) (p:Nat) (h:Nat×Nat):Sto:=(Str.ofString "due",.val (.bool (dueB t.ls p)))::(Str.ofString "alike",.val (.bool (alikeB (t.fs p))))::σg1 t p h
noncomputable abbrev σg4 (t:Tn) (p:Nat) (h:Nat×Nat):Sto:=(Str.ofString "letters",.val (.str (letL (t.fs p) t.hs)))::σg2 t p h
section
variable {prog:Program}{w:World}{g:Heap}{T:Tabs}{n:Nat}{σ:Sto}{t:Tn}{p:Nat}{h:Nat×Nat}
theorem heads_len (wd:Nat):(headsL wd).length=wd+1:=by rw [List.length_map,List.length_range]
theorem fs_len:(t.fs p).length=t.wd+1:=(List.length_map ..).trans (heads_len _)
theorem seen_at {sc:Scope}{i:Int}{ve ie:Expr}{pos:Pos}(hv:Ev prog w g T n sc σ ve (.lst (snL t.wd t.ws i))) (hi:Ev prog w g T n sc σ ie (.int (p:Int))) (hn:NoSl ie) (hp:p<t.r.length) (hz:t.r.length≤900):Ev prog w g T n sc σ (.Subscript ve ie pos) (colD (numAt t.wd t.ws p i)):=by
 have hl:p<(jSts t.wd t.ws i).length:=by rw [pgSts_len,List.length_map]; exact hp
 refine Ev.item hv hi hn (item_at (k:=p) rfl (small_nat (Nat.le_trans (Nat.le_of_lt hp) hz)) ?_)
 rw [List.getElem?_map,List.getElem?_eq_getElem hl,numAt,List.getD_eq_getElem?_getD,List.getElem?_eq_getElem hl]
 rfl
theorem pl0 (hts:t.ts[p]?=some h) (hz:p≤900):Sx prog w g T (n+1) lwSc (σf t p) (nth (stP lwPl).body 0) (.next (σg0 t p h)) :=
 Sx.assignTup (ds:=[.int (h.1:Int),.lst ((stL t.wd h).map colD)]) (b:=[(Str.ofString "held",.int (h.1:Int)),(Str.ofString "states",.lst ((stL t.wd h).map colD))]) (Ev.item (Ev.name rfl) (Ev.name rfl) (fun _ _=>rfl) (item_at (k:=p) rfl (small_nat hz) (by rw [List.getElem?_map,hts]; rfl))) (fun _ _ _=>rfl) (fun _=>rfl) (.cons (.cons .nil)) (stAll_of rfl)
theorem pl1 (hp:p<t.r.length) (hz:t.r.length≤900) (hq:t.qs.length=t.hs.length):Sx prog w g T (n+1) lwSc (σg0 t p h) (nth (stP lwPl).body 1) (.next (σg1 t p h)):=by
 have e:(t.fs p).map D.int=(t.qs.zip t.hs).map fun x=>D.int (numAt t.wd t.ws p x.2).2:=by rw [zip_snd (F:=fun i=>D.int (numAt t.wd t.ws p i).2) hq]; exact List.map_map ..
 unfold σg1
 rw [e]
 exact Sx.assignComp (fun c hc=>List.mem_singleton.mp hc▸rfl) (fun _ _=>rfl) rfl rfl (EvI.list (Ev.name rfl)) (loop_each (enc:=fun x:Pg×Int=>pgD x.1 (snL t.wd t.ws x.2)) fun x _=>⟨[(Str.ofString "maker",.adr x.1.m),(Str.ofString "seen",.lst (snL t.wd t.ws x.2))],.tup (.cons (.cons .nil)),stAll_of rfl,rfl,Ev.item (seen_at (Ev.name rfl) (Ev.name rfl) (fun _ _=>rfl) hp hz) Ev.int (fun _ _=>rfl) (it_tup (k:=1) rfl rfl rfl)⟩) (by rw [List.length_map,List.length_zip,hq,Nat.min_self,heads_len]; exact Nat.le_trans (Nat.succ_le_succ (wd_bd t.c).2) (by decide)) rfl
theorem ev_due {p1 p2 p3 p4 p5 p6 p7 p8 p9 q1 q2:Pos}{k1 k2:Nat}(k:LwK prog w g T (n+1)) (hls:∀ l,t.ls=some l→l.length≤900) (h1:σ.lookup (Str.ofString "least")=some (.val (leastD t.ls))) (h2:σ.lookup (Str.ofString "place")=some (.val (.int (p:Int)))) :
  Ev prog w g T (n+1) lwSc σ (.BoolOp .And [.Compare (.Name "least" p1) [.IsNot] [.Constant .none k1 p2] p3,.Compare (.BinOp (.Name "place" p4) .Add (.Constant (.int 1) k2 p5) p6) [.GtE] [.Call (.Name "len" p7) [.Name "least" p8] [] p9] q1] q2) (.bool (dueB t.ls p)):=by
 cases e:t.ls with
 | none =>
  rw [e] at h1
  exact Ev.bool2 (EvV.and_cons (b:=true) (a:=false) (Ev.cmp (Ev.name h1) Ev.none rfl cmp_isnN) fun e=>nomatch e)
 | some l =>
  rw [e] at h1
  exact Ev.bool2 (EvV.and_cons (a:=true) (b:=decide ((p:Int)+1≥(l.length:Int))) (Ev.cmp (Ev.name h1) Ev.none rfl cmp_isnL) fun _=>EvV.one (Ev.cmp (Ev.bin (Ev.name h2) Ev.int bin_add) (Ev.call rfl (EvL.more (fun _=>rfl) (Ev.name h1) EvL.nil) (cl_len_nats k.len (Nat.le_trans (hls l e) (by decide)))) rfl cmp_ge))
theorem pl2 (k:LwK prog w g T (n+1)) (hls:∀ l,t.ls=some l→l.length≤900):Sx prog w g T (n+1) lwSc (σg1 t p h) (nth (stP lwPl).body 2) (.next (σg2 t p h)) :=
 Sx.assignTupX (xs:=["alike", "due"]) (ds:=[.bool (alikeB (t.fs p)),.bool (dueB t.ls p)]) (EvL.more (fun _=>rfl) (Ev.cmp (Ev.lenSet rfl rfl k.len k.set (fun _ _=>rfl) (Ev.name rfl) (fs_len▸Nat.le_trans (Nat.succ_le_succ (wd_bd t.c).2) (by decide))) Ev.int rfl cmp_eq) (EvL.more (fun _=>rfl) (ev_due k hls rfl rfl) EvL.nil)) (show (2:Nat)≤lim by decide) (.cons (.cons .nil)) rfl rfl (by decide) rfl
end
end
section
section
variable {prog:Program}{w:World}{g:Heap}{T:Tabs}{n:Nat}{σ:Sto}{t:Tn}{p:Nat}{h:Nat×Nat}
variable (k:LwK prog w g T (n+1))
include k
theorem pl3 (htu:t.turn≤1) (hz:t.r.length≤900) (hb:badB t.ls t.turn t.r.length p (t.fs p)=false):Sx prog w g T (n+1) lwSc (σg2 t p h) (nth (stP lwPl).body 3) (.next (σg2 t p h)):=by
 have len:=cl_len_lst (prog:=prog) (w:=w) (T:=T) (n:=n+1) (ds:=t.r.map colD) k.len (by rw [List.length_map]; exact Nat.le_trans hz (by decide))
 rw [List.length_map] at len
 exact Sx.ite (b:=false) (hb▸EvT.bool (EvA.or_cons (EvT.bool (EvA.and_cons (EvT.val (Ev.name rfl) (fun _ _=>rfl) tru_bool) fun _=>EvA.and_cons (EvT.not (EvT.val (Ev.name rfl) (fun _ _=>rfl) tru_bool)) fun _=>EvA.and_cons (EvT.cmp (Ev.name rfl) (Ev.bin Ev.int (Ev.bin (Ev.name rfl) (Ev.call rfl (EvL.more (fun _=>rfl) (Ev.name rfl) EvL.nil) len) (bin_mul (sm_nat (Nat.le_trans htu (by decide))) (sm_of (Nat.le_trans hz (by decide))))) bin_add) rfl cmp_lt) fun _=>EvA.and_nil)) fun _ =>
  EvA.or_cons (EvT.bool (EvA.and_cons (EvT.cmp (Ev.name rfl) Ev.int rfl cmp_eq) fun _=>EvA.and_cons (EvT.val (Ev.name rfl) (fun _ _=>rfl) tru_bool) fun _=>EvA.and_cons (EvT.not (EvT.val (Ev.name rfl) (fun _ _=>rfl) tru_bool)) fun _=>EvA.and_nil)) fun _=>EvA.or_nil)) SxL.nil
omit k in
theorem letter_it {m:Nat}(hm:m≤6):ItemV prog w g T (.str (Str.ofString "ABCDEFG")) (m:Int) (.str ⟨#[65+m]⟩) :=
 it_str (small_nat (Nat.le_trans hm (by decide))) ((by decide +kernel:∀ m:Fin 7,(seqIndex? ((m.val:Nat):Int) (Str.ofString "ABCDEFG").length).bind ((Str.ofString "ABCDEFG").cps[·]?)=some (65+m.val)) ⟨m,Nat.lt_succ_of_le hm⟩)
theorem pl4:Sx prog w g T (n+1) lwSc (σg2 t p h) (nth (stP lwPl).body 4) (.next (σg4 t p h)):=by
 have hwd:t.wd≤5:=(wd_bd t.c).2
 have hcnt:∀ f:Int,(t.fs p).count f≤6:=fun f=>Nat.le_trans List.count_le_length (fs_len▸Nat.succ_le_succ hwd)
 have e:(t.hs.map fun f=>(⟨#[65+(t.fs p).count f]⟩:Str)).map D.str=(List.range (t.wd+1)).map fun i:Nat=>D.str ⟨#[65+(t.fs p).count (i:Int)]⟩:=by rw [List.map_map,List.map_map]; rfl
 refine Sx.assign (Ev.methG (fun _=>rfl) rfl (by decide) Ev.str (EvL.more (fun _=>rfl) (e▸EvO.ev (EvO.each (enc:=fun i:Nat=>D.int (i:Int)) (xs:=List.range (t.wd+1)) rfl rfl (fun _ _=>rfl) (rng_nat (t.wd+1)▸EvI.range1 rfl k.ran (fun _ _=>rfl) (Ev.bin (Ev.name rfl) Ev.int (bin_addN (b:=1) rfl)) (midI_iff.mpr (by omega))) (by rw [List.length_range]; exact Nat.le_trans (Nat.succ_le_succ hwd) (by decide)) fun i _=>⟨[(Str.ofString "fill",.int (i:Int))],.name,stAll_of rfl,rfl,Ev.item Ev.str (Ev.methG (fun _=>rfl) rfl (by decide) (Ev.name rfl) (EvL.more (fun _=>rfl) (Ev.name rfl) EvL.nil) mt_count) (fun _ _=>rfl) (letter_it (hcnt _))⟩)) EvL.nil) (mt_joinB (sep:=es0) ?_ fun x hx=>?_)) (fun _ _ _=>rfl) rfl
 ·rw [List.length_map,heads_len]; exact Nat.le_trans (Nat.succ_le_succ hwd) (by decide)
 ·obtain ⟨i,_,rfl⟩:=List.mem_map.mp hx
  show 1+0≤1000
  decide
omit k in
theorem letL_len {fs hs:List Int}:(letL fs hs).length≤hs.length:=by
 refine Nat.le_trans (join0_len _) (Nat.le_trans (sum_le _ 1 _ fun x hx=>?_) (by rw [List.length_map,Nat.mul_one]; exact Nat.le_refl _))
 obtain ⟨i,_,rfl⟩:=List.mem_map.mp hx
 exact Nat.le_refl 1
theorem pl5 (h140:h.1<2 ^ 140) (ho:apS h.1=stripS true false (letL (t.fs p) t.hs) (Str.ofString "A")):Sx prog w g T (n+1) lwSc (σg4 t p h) (nth (stP lwPl).body 5) (.next (σg4 t p h)):=by
 have hl:(stripS true false (letL (t.fs p) t.hs) (Str.ofString "A")).length≤lim:=Nat.le_trans (stripS_len ..) (Nat.le_trans letL_len (by rw [heads_len]; exact Nat.le_trans (Nat.succ_le_succ (wd_bd t.c).2) (by decide)))
 have ap:=k.ap (i:=(h.1:Int)) (by rw [Int.natAbs_natCast]; exact Nat.lt_trans h140 (by decide))
 rw [Int.natAbs_natCast] at ap
 refine Sx.ite (b:=false) ((bne_self_eq_false _:(apS h.1 != apS h.1)=false)▸EvT.cmp (Ev.methG (fun _=>rfl) rfl (by decide) (Ev.call rfl (EvL.more (fun _=>rfl) (Ev.name rfl) EvL.nil) ap) (EvL.more (fun _=>rfl) Ev.str EvL.nil) (mt_decode (apB_lows _) (Nat.le_trans (apB_size _) (by decide)))) (ho▸Ev.methG (fun _=>rfl) rfl (by decide) (Ev.name rfl) (EvL.more (fun _=>rfl) Ev.str EvL.nil) (mt_lstrip hl)) rfl cmp_neS) SxL.nil
end
end
section
section
variable {prog:Program}{w:World}{g:Heap}{T:Tabs}{n:Nat}{σ:Sto}{t:Tn}{p:Nat}{h:Nat×Nat}
theorem pl6 (hp:p<t.r.length) (hz:t.r.length≤900) (hq:t.qs.length=t.hs.length) (ho:t.turn=0→t.hs.map (numAt t.wd t.ws p)=stL t.wd h):Sx prog w g T (n+1) lwSc (σg4 t p h) (nth (stP lwPl).body 6) (.next (σg4 t p h)):=by
 have eb:(((t.turn:Int)==0)&&(false&&true))=false:=Bool.and_false _
 refine Sx.ite (b:=false) (eb▸EvT.bool (EvA.and_cons (EvT.cmp (Ev.name rfl) Ev.int rfl cmp_eq) fun ht=>EvA.and_cons (EvT.cmp (a:=.lst ((stL t.wd h).map colD)) ?_ (Ev.name rfl) rfl ne_cols) fun _=>EvA.and_nil)) SxL.nil
 have e:(stL t.wd h).map colD=(t.qs.zip t.hs).map fun x=>colD (numAt t.wd t.ws p x.2):=by rw [zip_snd (F:=fun i=>colD (numAt t.wd t.ws p i)) hq, ← ho (Int.ofNat_inj.mp (eq_of_beq ht)),List.map_map]; rfl
 exact e▸EvO.ev (EvO.each (enc:=fun x:Pg×Int=>pgD x.1 (snL t.wd t.ws x.2)) (xs:=t.qs.zip t.hs) rfl rfl (fun _ _=>rfl) (EvI.list (Ev.name rfl)) (by rw [List.length_zip,hq,Nat.min_self,heads_len]; exact Nat.le_trans (Nat.succ_le_succ (wd_bd t.c).2) (by decide)) fun x _=>⟨[(Str.ofString "maker",.adr x.1.m),(Str.ofString "seen",.lst (snL t.wd t.ws x.2))],.tup (.cons (.cons .nil)),stAll_of rfl,rfl,seen_at (Ev.name rfl) (Ev.name rfl) (fun _ _=>rfl) hp hz⟩)
structure TnOk (t:Tn):Prop where
 z:t.r.length≤900
 q:t.qs.length=t.hs.length
 tu:t.turn≤1
 ls:∀ l,t.ls=some l→l.length≤900
 pl:∀ p h,t.ts[p]?=some h→PlOk t.wd t.wd t.ls t.turn t.r.length t.ws h p
 l:t.ts.length=t.r.length
variable (k:LwK prog w g T (n+1)) (O:TnOk t)
include k O
theorem pl_body (hp:p<t.r.length) (hts:t.ts[p]?=some h):SxL prog w g T (n+1) lwSc (σf t p) (stP lwPl).body (.next (σe t)) :=
 have o:=O.pl p h hts
 SxL.post (R:=.next (σg4 t p h)) (.cons (pl0 hts (Nat.le_trans (Nat.le_of_lt hp) O.z)) (.cons (pl1 hp O.z O.q) (.cons (pl2 k O.ls) (.cons (pl3 k O.tu O.z o.bad) (.cons (pl4 k) (.cons (pl5 k o.lt o.let_) (.cons (pl6 hp O.z O.q o.num) .nil)))))))
  (.next (.cons rfl (.cons rfl (.cons rfl (.cons rfl (.cons rfl (.cons rfl (.cons rfl (.cons rfl .nil)))))))))
theorem pl_loop:∀ {m p:Nat},p+m=t.r.length→ForR prog w g T (n+1) lwSc (stP lwPl).test (stP lwPl).body ((List.range' p m).map fun i:Nat=>D.int (i:Int)) (σe t) (.next (σe t)):=by
 intro m
 induction m with
 | zero=>exact fun _=>.nil
 | succ m ih =>
  intro p hm
  have hp:p<t.r.length:=by omega
  rw [List.range'_succ,List.map_cons]
  exact .step (b:=[(Str.ofString "place",.int (p:Int))]) .name (stAll_of rfl) (pl_body k O hp (List.getElem?_eq_getElem (O.l▸hp))) (ih (by omega))
theorem tn6:Sx prog w g T (n+1) lwSc (σe t) (nth lwTn 6) (.next (σe t)):=by
 have loop:=pl_loop k O (g:=g) (Nat.zero_add t.r.length)
 rw [← List.range_eq_range', ← rng_nat] at loop
 have hl:t.ws.length=t.r.length:=List.length_map ..
 have len:=cl_len_lst (prog:=prog) (w:=w) (T:=T) (n:=n+1) (ds:=t.ws.map .str) k.len (by rw [List.length_map,hl]; exact Nat.le_trans O.z (by decide))
 rw [List.length_map,hl] at len
 exact Sx.for (EvI.range1 rfl k.ran (fun _ _=>rfl) (Ev.call rfl (EvL.more (fun _=>rfl) (Ev.name rfl) EvL.nil) len) (midI_iff.mpr (by have:=O.z; omega))) (fun _ _=>rfl) loop
end
end
section
section
variable {prog:Program}{w:World}{g g':Heap}{T:Tabs}{n:Nat}{x f:Str}{ds:List D}{d:D}{t:Tn}
theorem ClV.up (up:∀ b o,g.get? b=some o→g'.get? b=some o) (c:ClV prog w g T n x ds d):ClV prog w g' T n x ds d:=by
 cases c with | mk fv hg ca run =>
 refine ⟨fv,hg.up up,?_,fun A s av vs rm q hav hv=>wp_to (run A s av vs rm (q.down up) hav hv) fun v s' h=>⟨h.1.rise up,h.2⟩⟩
 cases ca with
 | bi id=>exact .bi id
 | ty t=>exact .ty t
 | fn e h=>exact .fn (up _ _ e) h
theorem LwK.up (up:∀ b o,g.get? b=some o→g'.get? b=some o) (k:LwK prog w g T n):LwK prog w g' T n :=
 ⟨fun h=>(k.cells h).up up,fun a b=>(k.word a b).up up,fun a b c=>(k.short a b c).up up,fun a b c=>(k.told a b c).up up,fun h=>(k.ap h).up up,fun a b=>(k.d2i a b).up up,k.len.up up,k.ord.up up,k.sorted.up up,k.set.up up,k.enum.up up,k.ran.up up,k.zip.up up⟩
theorem tn5 (k:LwK prog w g T (n+1)) (hz:t.r.length≤900) (hs:szW t.ws=t.r.map fun p=>wn p+1) (hts:t.ts=toldS t.wd (t.r.map fun p=>wn p+1) (tStart t.wd) 0) (ok:toldOk t.wd (t.r.map fun p=>wn p+1) (tStart t.wd) 0):Sx prog w g T (n+1) lwSc (σo t) (nth lwTn 5) (.next (σe t)):=by
 have c:=k.told (width:=t.wd) (ws:=t.ws) (Nat.le_trans (wd_bd t.c).2 (by decide)) (hs▸ok) (Nat.le_trans (Nat.le_of_eq (List.length_map ..)) hz)
 rw [hs, ← hts] at c
 exact Sx.assign (Ev.call rfl (EvL.more (fun _=>rfl) (Ev.name rfl) (EvL.more (fun _=>rfl) (Ev.name rfl) EvL.nil)) c) (fun _ _ _=>rfl) rfl
end
section
variable {ι:Type}{prog:Program}{w:World}{g:Heap}{T:Tabs}{n:Nat}{sc:Scope}{W:Wo ι}{i j:ι}{σ:Sto}{t l r:Expr}{body:List Stmt}{cop:CmpOp}{a b:D}{p1 p2 pos:Pos}
theorem SxU.iteNo (ok:W.Ok g) (h0:Over g W i fun g'=>EvT prog w g' T (n+1) sc σ t true) (hl:EvU prog w g T (n+1) sc W i σ l a j) (hr:Over g W j fun g'=>Ev prog w g' T (n+1) sc σ r b) (hm:behindInMarks cop r=false) (hc:CmpV prog w g T cop a b false) :
  SxU prog w g T (n+1) sc W i σ (.If (.BoolOp .And [t,.Compare l [cop] [r] p1] p2) body [] pos) (.next σ) j:=fun A s ow env he hoc rm Z =>
 wpAny_If (wpAny_isTrue_BoolOp (wpAny_allTrue_And_cons (wp_to (FmW.over ok Z.F.gk Z.w h0 A s _ env he rm (Z.F.gk.core .refl) Z.F.ec) fun c s₁ h₁=>by
  obtain ⟨rfl,x₁⟩:=h₁
  have x₁:=x₁.base (g:=g) (Z.F.gk.core .refl)
  have Z₁:=Z.ext ok x₁
  refine wpAny_allTrue_And_cons (wpAny_isTrue_Compare1 (wp_to (hl A s₁ ow env he rm Z₁) fun u s₂ h₂=>?_) hm)
  cases h₂ with | mk m r₂ wj =>
  have Z₂:=Z₁.out ok m wj
  refine wp_to (Ev.core (FmW.over ok Z₂.F.gk Z₂.w hr) he rm Z₂.F.gk Z₂.F.ec) fun v s₃ h₃=>wp_to (hc A s₃ _ u v (rm.le (Nat.le_add_left 1 n)) (h₃.1.vd Z₂.F.gk r₂) h₃.2) fun v' s₄ h₄=>VD.i3 h₄.2▸wpAny_truthy_bool ?_
  have x:=h₃.1.trans h₄.1
  have Z₄:=Z₂.ext ok x
  exact wpAny_execs_nil (.next ⟨ow,rfl,Z₄.F,(Mv.trans x₁.mv (Mv.trans m x.mv fun _ h=>.inl h) fun _ h=>.inl h).sub fun _ hb=>.inl (.inr hb),fun _ hb=>.inl hb⟩ Z₄.w))))
end
section
variable {prog:Program}{w:World}{g:Heap}{T:Tabs}{n j:Nat}{CV CA:Addr}{p:PgP}{h:Heap}{qs:List Pg}{sts:List Pst}{q:Pg}{st st':Pst}{av:List Addr}{s s':Shared}{σ:Sto}{fn:Addr}{ds:List D}{d:D}{us:List Value}{b:Addr}{k:Nat}
theorem PageAt.tupU (P:PageAt CV CA h q p st) (e:h.get? b=some (tupO us k)):¬ q.U b:=by
 cases P with | mk es kd ts kl H l _ ac =>
 cases ac with | mk qs k kd' hs tt t e' ac =>
 exact fun z=>z.elim (Mine.apart e l rfl) fun z=>z.elim (Mine.apart e ac.o rfl) (Mine.apart e ac.d rfl)
theorem Pgs.set (P:Pgs CV CA p s.heap qs sts) (hq:qs[j]?=some q) (hs:sts[j]?=some st) (hg:GK g T s) (m:Mv g T q.U s s') (n:PageAt CV CA s'.heap q p st'):Pgs CV CA p s'.heap qs (sts.set j st') where
 len:=P.len.trans (List.length_set ..).symm
 at_:=fun i q' st'' e e'=>by
  by_cases c:j=i
  ·subst c
   rw [List.getElem?_set_self (List.getElem?_eq_some_iff.mp hs).1] at e'
   cases hq.symm.trans e
   exact Option.some.inj e'▸n
  ·rw [List.getElem?_set_ne c] at e'
   have P':=P.at_ i q' st'' e e'
   exact page_st P' (fun b o hb e''=>m.get' hg e'' (fun u=>P.apart j i q q' hq e c b (.inr (.inr u)) hb) ((page_obj P' hb).elim fun o' z=>sinj z.1 e''▸z.2)) fun a us k e''=>m.get' hg e'' ((P.at_ j q st hq hs).tupU e'') (nt_tup _ _)
 apart:=P.apart
theorem RunU.at (hq:qs[j]?=some q) (hs:sts[j]?=some st) (hl:∀ q∈qs,q.l∈av) (h:ClU prog w g T n fn (pgW CV CA q p) st ds d st') (hd:Flat d):RunU prog w g T n σ fn (pgsW CV CA p qs av) sts ds d (sts.set j st'):=⟨fun A s ow env vs rm Z hv =>
 have P:=Z.w.at_ j q st hq hs
 have hm:=List.mem_of_getElem? hq
 wp_to (h.run A s vs rm Z.F.gk P (PageAt.avl P).ok (hv.sub fun b hb=>List.mem_append_right _ (List.mem_singleton.mp hb▸hl q hm))) fun v s' z=>by cases z with | mk m r w=>exact ⟨m.sub fun b hb=>.inl ⟨q,hm,hb⟩,hd _ _ _ (r.sub (av':=[]) nofun),Z.w.set hq hs Z.F.gk m w⟩⟩
end
end
section
noncomputable abbrev lwHd:Stmt:=nth lwTn 7
noncomputable abbrev endS (wd:Nat) (ws:List Str) (i:Int):Pst:=pgEnd wd i ws 0 ([],[],i)
noncomputable abbrev endL (wd:Nat) (ws:List Str) (i:Int):List Str:=nlF (endS wd ws i).1 (endS wd ws i).2.1 (endS wd ws i).2.2
noncomputable def colL (wd:Nat) (ts:List (Nat×Nat)) (j:Nat):List (Int×Int):=ts.map fun h=>(stL wd h).getD j (0,0)
inductive TxOk (wd:Nat) (ws:List Str) (ts:List (Nat×Nat)) (j:Nat):Prop
 | mk (w0:List Str) (wl:Str) (cs:List (Int×Int)) (m:Nat) (f:Int) (u:Str) (hw:ws=w0++[wl]) (hc:colL wd ts j=cs++[((m:Int),f)]) (hm:m≤30) (hu:(if (wl==es0)=true then pickS (rowOf (w0++[wl]) (cs++[((m:Int),f)]) m) none (some (-1)) none else rowOf (w0++[wl]) (cs++[((m:Int),f)]) m)=u) (h3:u.length≤270)
  (he:Str.join nlS (endL wd ws j)=Str.join nlS (txRows (rowsOf (w0++[wl]) (cs++[((m:Int),f)]) m) u)) (hj:∀ h∈ts,j<(stL wd h).length)
structure LwP (prog:Program) (w:World) (K:Frag) (g:Heap) (T:Tabs) (a:AccF) (b:FmtF) (n:Nat):Prop where
 B:FmtFns prog w K g T a b
 k:LwK prog w g T n
 text:∀ {m:Nat}{f:Int}{w0:List Str}{wl u:Str}{cs:List (Int×Int)},m≤30→(w0++[wl]).length≤30→(∀ x∈w0++[wl],x.length≤8)→cs.length≤900→(if (wl==es0)=true then pickS (rowOf (w0++[wl]) (cs++[((m:Int),f)]) m) none (some (-1)) none else rowOf (w0++[wl]) (cs++[((m:Int),f)]) m)=u→u.length≤270 →
  ClV prog w g T n "_law_text" [.lst ((w0++[wl]).map .str),.lst ((cs++[((m:Int),f)]).map colD)] (.str (Str.join nlS (txRows (rowsOf (w0++[wl]) (cs++[((m:Int),f)]) m) u)))
 gfmt:Glb g "_ValueFormatter" (.ref b.CV)
 kfmt:keepIn K (.ref b.CV)=true
 pg:∃ fp,FnAt g fp lpSc ["head", "width", "words"] lpB∧Glb g "_law_page" (.ref fp)
noncomputable abbrev σh (t:Tn) (j:Nat):Sto:=(Str.ofString "head",.val (.int (j:Int)))::σe t
section
variable {prog:Program}{w:World}{g:Heap}{T:Tabs}{K:Frag}{n j:Nat}{t:Tn}{a:AccF}{b:FmtF}{av:List Addr}{sts:List Pst}{q:Pg}
theorem sub_head:Sub (σe t) (σh t j):=.cons rfl (.cons rfl (.cons rfl (.cons rfl (.cons rfl (.cons rfl (.cons rfl (.cons rfl .nil)))))))
theorem hd_no (k:LwK prog w g T (n+1)) (ht:t.turn=1):Sx prog w g T (n+1) lwSc (σe t) lwHd (.next (σe t)):=by
 have e:((t.turn:Int)==0)=false:=by rw [ht]; rfl
 have loop:∀ l:List Nat,ForR prog w g T (n+1) lwSc (stP lwHd).test (stP lwHd).body (l.map fun i:Nat=>D.int (i:Int)) (σe t) (.next (σe t)):=by
  intro l
  induction l with
  | nil=>exact .nil
  | cons i l ih =>
   exact .step (b:=[(Str.ofString "head",.int (i:Int))]) .name (stAll_of rfl) (SxL.post (R:=.next (σh t i)) (.cons (Sx.ite (b:=false) (EvT.bool (EvA.and_cons (a:=false) (b:=true) (e▸EvT.cmp (Ev.name rfl) Ev.int rfl cmp_eq) fun h=>nomatch h)) SxL.nil) .nil) (.next sub_head)) ih
 exact Sx.for (rng_nat (t.wd+1)▸EvI.range1 rfl k.ran (fun _ _=>rfl) (Ev.bin (Ev.name rfl) Ev.int (bin_addN (b:=1) rfl)) (midI_iff.mpr (by have h1:=(wd_bd t.c).2; have h2:t.wd≤5:=h1; omega))) (fun _ _=>rfl) (loop _)
theorem end_sz (h:SmN 20 (endS t.wd t.ws j)):sumLen nlS (endL t.wd t.ws j)≤lim∧(Str.join nlS (endL t.wd t.ws j)).length≤lim:=by
 have q:=nl_small (i:=(endS t.wd t.ws j).2.2) ⟨h.l,h.m⟩ h.p h.n
 have hx:∀ x∈endL t.wd t.ws j,x.length+nlS.length≤9000:=fun x hx=>Nat.le_trans (Nat.add_le_add (q.m x hx) (by decide:nlS.length≤1)) (by decide)
 have hl:(endL t.wd t.ws j).length*9000≤21*9000:=Nat.mul_le_mul_right _ q.l
 exact ⟨Nat.le_trans (sumLen_le hx) (Nat.le_trans hl (by decide)),Nat.le_trans (join_le hx) (Nat.le_trans (Nat.add_le_add hl hl) (by decide))⟩
variable (L:LwP prog w K g T a b (n+9)) (hU:∀ q∈t.qs,∀ b,q.U b→g.get? b=none) (hl:∀ q∈t.qs,q.l∈av) (ht:t.turn=0) (hr:∀ p∈t.r,szOk p) (hz:t.r.length≤10) (hts:t.ts.length≤900) (hqs:t.qs.length=t.hs.length)
include L hU hl ht hr hz hts hqs
theorem hd_body (hq:t.qs[j]?=some q) (hs:sts[j]?=some (endS t.wd t.ws j)) (X:TxOk t.wd t.ws t.ts j) :
  SxU prog w g T (n+9) lwSc (pgsW b.CV a.CA (pgP t.wd) t.qs av) sts (σh t j) (nth (stP lwHd).body 0) (.next (σh t j)) (sts.set j (endL t.wd t.ws j,[],0)):=by
 cases X with | mk w0 wl cs m f u hw hc hm hu h3 he hj =>
 have hwd:t.wd≤5:=(wd_bd t.c).2
 have hm':=List.mem_of_getElem? hq
 have hjl:j<t.wd+1:=by have:=(List.getElem?_eq_some_iff.mp hq).1; rwa [hqs,heads_len] at this
 have hwl:(wsL t.r).length≤10:=Nat.le_trans (Nat.le_of_eq (List.length_map ..)) hz
 have sm:SmN 20 (endS t.wd t.ws j):=(pgEnd_small (c:=0) ⟨Nat.le_refl _,fun _ h=>(List.not_mem_nil h).elim,⟨Int.natCast_nonneg _,show ((j:Nat):Int)≤1000 by omega⟩,Nat.le_refl _,fun _ h=>(List.not_mem_nil h).elim⟩ (ws_ok hr)).up (by omega)
 have sz:=end_sz sm
 have eT:((t.turn:Int)==0)=true:=by rw [ht]; rfl
 have ep:(outL t.wd t.ws t.qs t.hs)[j]?=some (pgD q (snL t.wd t.ws j)):=by
  have e2:t.hs[j]?=some (j:Int):=by rw [List.getElem?_map,List.getElem?_range hjl]; rfl
  rw [List.getElem?_map,(List.getElem?_zip_eq_some (z:=(q,(j:Int)))).mpr ⟨hq,e2⟩]; rfl
 have ec:t.ts.map (fun h=>colD ((stL t.wd h).getD j (0,0)))=(cs++[((m:Int),f)]).map colD:=by rw [← hc,colL,List.map_map]; rfl
 have hcs:cs.length≤900:=by
  have:=congrArg List.length hc
  rw [colL,List.length_map,List.length_append] at this
  exact Nat.le_trans (Nat.le_add_right _ _) (this▸hts)
 have tx:=L.text (f:=f) hm (hw▸Nat.le_trans hwl (by decide)) (fun x hx=>(ws_ok hr x (hw.symm▸hx:x∈t.ws)).1) hcs hu h3
 rw [← he, ← ec, ← hw] at tx
 refine SxU.iteNo (pgsW_ok hU hl) (fun g' up P=>eT▸EvT.cmp (Ev.name rfl) Ev.int rfl cmp_eq) (EvU.own (ds:=[.str nlS]) (pgsW_ok hU hl) L.B.A.X L.B.sfn.kee (fun _=>⟨_,rfl⟩) (fun _=>rfl) (fun g' up P=>Ev.item (Ev.item (Ev.name rfl) (Ev.name rfl) (fun _ _=>rfl) (item_at (k:=j) rfl (small_nat (by omega)) ep)) Ev.int (fun _ _=>rfl) (it_tup (k:=0) rfl rfl rfl)) (fun k P z=>finds_pg L.B L.B.sfn (by decide) k (P.at_ j q _ hq hs) z) (fun _ _ _=>.more (fun _=>rfl) Ev.str .nil) (RunU.at hq hs hl (cl_pageStr (n:=n+1) L.B (hU q hm') (sm.small (by decide)) sz.1 sz.2) flat_str))
  (fun g' up P=>Ev.call rfl (EvL.more (fun _=>rfl) (Ev.name rfl) (EvL.more (fun _=>rfl) (EvO.ev (EvO.each (enc:=enD t.wd) (xs:=t.ts) rfl rfl (fun _ _=>rfl) (EvI.list (Ev.name rfl)) (Nat.le_trans hts (by decide)) fun h hh=>⟨[(Str.ofString "held",.int (h.1:Int)),(Str.ofString "states",.lst ((stL t.wd h).map colD))],.tup (.cons (.cons .nil)),stAll_of rfl,rfl,Ev.item (Ev.name rfl) (Ev.name rfl) (fun _ _=>rfl) (item_at (k:=j) rfl (small_nat (by omega)) ?_)⟩)) EvL.nil)) (tx.up up)) rfl ((bne_self_eq_false _:(Str.join nlS (endL t.wd t.ws j) != Str.join nlS (endL t.wd t.ws j))=false)▸cmp_neS)
 rw [List.getElem?_map,List.getD_eq_getElem?_getD,List.getElem?_eq_getElem (hj h hh)]
 rfl
theorem hd_loop (X:∀ j,j<t.wd+1→TxOk t.wd t.ws t.ts j):∀ {m j:Nat}{sts:List Pst},j+m=t.qs.length→sts.length=t.qs.length→(∀ i,j≤i→i<t.qs.length→sts[i]?=some (endS t.wd t.ws i))→∃ sts',ForU prog w g T (n+9) lwSc (pgsW b.CV a.CA (pgP t.wd) t.qs av) (stP lwHd).test (stP lwHd).body (fun σ' j'=>σ'=σe t∧j'=sts') ((List.range' j m).map fun i:Nat=>D.int (i:Int)) (σe t) sts:=by
 intro m
 induction m with
 | zero=>exact fun _ _ _=>⟨_,rfl,rfl⟩
 | succ m ih =>
  intro j sts hm hn hs
  have hj:j<t.qs.length:=by omega
  have e:=hs j (Nat.le_refl _) hj
  cases ih (j:=j+1) (sts:=sts.set j (endL t.wd t.ws j,[],0)) (by omega) ((List.length_set ..).trans hn) fun i hi hl=>by rw [List.getElem?_set_ne (by omega)]; exact hs i (by omega) hl with | intro sts' go =>
  refine ⟨sts',?_⟩
  rw [List.range'_succ,List.map_cons]
  exact .mk [(Str.ofString "head",.int (j:Int))] _ _ .name (stAll_of rfl) (fun fp=>SxUL.post (SxUL.cons (W:=pgsW b.CV a.CA (pgP t.wd) t.qs (fp++av)) (pgsW_ok hU fun q hq=>List.mem_append_right _ (hl q hq)) (hd_body (n:=n) (av:=fp++av) L hU (fun q hq=>List.mem_append_right _ (hl q hq)) ht hr hz hts hqs (List.getElem?_eq_getElem hj) e (X j (by rwa [hqs,heads_len] at hj))) SxUL.nil) sub_head) go
theorem hd_yes (X:∀ j,j<t.wd+1→TxOk t.wd t.ws t.ts j):∃ sts',SxU prog w g T (n+9) lwSc (pgsW b.CV a.CA (pgP t.wd) t.qs av) (t.hs.map (endS t.wd t.ws)) (σe t) lwHd (.next (σe t)) sts':=by
 have hql:t.qs.length=t.wd+1:=hqs.trans (heads_len _)
 cases hd_loop (n:=n) L hU hl ht hr hz hts hqs X (j:=0) (Nat.zero_add t.qs.length) (sts:=t.hs.map (endS t.wd t.ws)) ((List.length_map ..).trans hqs.symm) fun i _ hi=>by rw [List.getElem?_map,List.getElem?_map,List.getElem?_range (hql▸hi)]; rfl with | intro sts' go =>
 rw [← List.range_eq_range', ← rng_nat,hql] at go
 exact ⟨sts',SxU.for (pgsW_ok hU hl) (EvI.range1 rfl L.k.ran (fun _ _=>rfl) (Ev.bin (Ev.name rfl) Ev.int (bin_addN (b:=1) rfl)) (midI_iff.mpr (by have h1:=(wd_bd t.c).2; have h2:t.wd≤5:=h1; omega))) (fun _ _=>rfl) go⟩
end
end
section
noncomputable abbrev zsR (r:List (Int×Int)):List Nat:=r.map fun p=>wn p+1
noncomputable def toldR (c:Nat→Int) (r:List (Int×Int)):List (Nat×Nat):=toldS (wdN c) (zsR r) (tStart (wdN c)) 0
theorem toldS_len {wd:Nat}{zs:List Nat}:∀ {h b:Nat},(toldS wd zs h b).length=zs.length:=by
 induction zs with
 | nil=>exact rfl
 | cons z zs ih=>exact congrArg (· + 1) ih
theorem toldR_len {c:Nat→Int}{r:List (Int×Int)}:(toldR c r).length=r.length:=toldS_len.trans (List.length_map ..)
structure RunOk (c:Nat→Int) (ls:Option (List Nat)) (turn:Nat) (r:List (Int×Int)):Prop where
 sz:∀ p∈r,szOk p
 len:r.length≤200
 ne:r≠[]
 tu:turn≤1
 lz:∀ l,ls=some l→l.length≤900
 told:toldOk (wdN c) (zsR r) (tStart (wdN c)) 0
 pl:∀ p h,(toldR c r)[p]?=some h→PlOk (wdN c) (wdN c) ls turn r.length (wsL r) h p
 tx:turn=0→r.length≤10∧∀ j,j<wdN c+1→TxOk (wdN c) (wsL r) (toldR c r) j
noncomputable abbrev tnOf (c:Nat→Int) (ls:Option (List Nat)) (turn:Nat) (r:List (Int×Int)) (qs:List Pg):Tn:=⟨c,ls,turn,r,qs,toldR c r⟩
section
variable {prog:Program}{w:World}{g:Heap}{T:Tabs}{K:Frag}{n:Nat}{c:Nat→Int}{ls:Option (List Nat)}{turn:Nat}{r:List (Int×Int)}{a:AccF}{b:FmtF}{av:List Addr}{ow:Ow}{env:Env}{s:Shared}{A:Around}{σ σ₁:Sto}{sc:Scope}
theorem SxL.wp {Q:Flow→Shared→Prop}{pre post:List Stmt}(h:SxL prog w g T n sc σ pre (.next σ₁)) (he:env.scope=sc) (hc:ow.c=cellNames sc.names) (rm:Rm n A) (F:Fm g T av ow env σ s)
  (k:∀ s',Nx g T av ow env s σ₁ s'→wpAny (model prog w) A (execs post env) Q NoE s'):wpAny (model prog w) A (execs (pre++post) env) Q NoE s:=by
 rw [execs_append]
 refine wpAny_bind (wp_to (h A s av ow env he hc rm F) fun fl s₁ h₁=>?_)
 cases h₁ with | next n=>exact k s₁ n
theorem ns_seen {l:List Pst}(h:l≠[]):NS (.lst (l.map seenD)):=by
 cases l with
 | nil=>exact (h rfl).elim
 | cons st l =>
  refine .lst fun d hd=>?_
  obtain ⟨st',_,rfl⟩:=List.mem_map.mp (show d∈(st::l).map seenD from hd)
  exact .tup fun d hd=>(List.mem_cons.mp hd).elim (fun e=>e▸.int _) fun hd=>List.mem_singleton.mp hd▸.int _
theorem ws_sz (h:∀ p∈r,szOk p):szW (wsL r)=zsR r:=(List.map_map ..).trans (List.map_congr_left fun p hp=>congrArg (· + 1) (word_len (h p hp)))
theorem fns_page:FnS lpSc ["head", "width", "words"]:=⟨⟨rfl,rfl,rfl,by decide +kernel⟩,by decide +kernel⟩
theorem turn_back {qs:List Pg}(L:LwP prog w K g T a b (n+9)) (R:RunOk c ls turn r) (hU:∀ q∈qs,∀ b,q.U b→g.get? b=none) (hl:∀ q∈qs,q.l∈av) (hq:qs.length=(headsL (wdN c)).length) :
  ∃ sts',SxUL prog w g T (n+9) lwSc (pgsW b.CV a.CA (pgP (wdN c)) qs av) ((headsL (wdN c)).map (endS (wdN c) (wsL r))) (σo (tnOf c ls turn r qs)) (lwTn.drop 5) (.next (σe (tnOf c ls turn r qs))) sts':=by
 have ok:=pgsW_ok (g:=g) (CV:=b.CV) (CA:=a.CA) (p:=pgP (wdN c)) hU hl
 have hz:r.length≤900:=Nat.le_trans R.len (by decide)
 have O:TnOk (tnOf c ls turn r qs):=⟨hz,hq,R.tu,R.lz,R.pl,toldR_len⟩
 have hd:∃ sts',SxU prog w g T (n+9) lwSc (pgsW b.CV a.CA (pgP (wdN c)) qs av) ((headsL (wdN c)).map (endS (wdN c) (wsL r))) (σe (tnOf c ls turn r qs)) lwHd (.next (σe (tnOf c ls turn r qs))) sts':=by
  by_cases e:turn=0
  ·exact hd_yes (n:=n) (t:=tnOf c ls turn r qs) L hU hl e R.sz (R.tx e).1 (Nat.le_trans (Nat.le_of_eq toldR_len) hz) hq (R.tx e).2
  ·exact ⟨_,SxU.next ok fun g' up P=>hd_no (n:=n+8) (L.k.up up) (Nat.le_antisymm R.tu (Nat.pos_of_ne_zero e))⟩
 exact hd.imp fun sts' hd=>SxUL.cons ok (SxU.next ok fun g' up P=>tn5 (n:=n+8) (L.k.up up) hz (ws_sz R.sz) rfl R.told) (SxUL.cons ok (SxU.next ok fun g' up P=>tn6 (n:=n+8) (L.k.up up) O) (SxUL.cons ok hd SxUL.nil))
end
end
section
section
variable {prog:Program}{w:World}{g:Heap}{T:Tabs}{K:Frag}{n:Nat}{c:Nat→Int}{ls:Option (List Nat)}{turn:Nat}{r:List (Int×Int)}{a:AccF}{b:FmtF}{av:List Addr}{ow:Ow}{env:Env}{s:Shared}{A:Around}
theorem turn_body (L:LwP prog w K g T a b (n+9)) (R:RunOk c ls turn r) (he:env.scope=lwSc) (hoc:ow.c=cellNames lwSc.names) (hcx:∀ x c,env.cells.lookup x=some c→env.kindOf x=some .cell) (rm:Rm (n+9) A) (F:Fm g T av ow env (σt c ls turn r) s) :
  wpAny (model prog w) A (execs lwTn env) (fun fl s'=>fl=.next∧Nx g T av ow env s (σt c ls turn r) s') NoE s:=by
 have hz:r.length≤900:=Nat.le_trans R.len (by decide)
 rw [← List.take_append_drop 4 lwTn]
 refine SxL.wp (pre:=[nth lwTn 0,nth lwTn 1,nth lwTn 2,nth lwTn 3]) (.cons (tn0 (n:=n+8) L.k R.sz hz) (.cons (tn1 (n:=n+8) hz) (.cons (tn2 (n:=n+8) L.k R.sz hz) (.cons (tn3 (n:=n+8) L.k R.sz hz) .nil)))) he hoc rm F fun s₁ x₁=>?_
 cases x₁ with | mk ow₁ c₁ F₁ m₁ q₁ =>
 cases L.pg with | intro fp pg =>
 have oc₁:=c₁.trans hoc
 have hm:∀ i∈headsL (wdN c),0≤i∧i≤1000:=fun i hi=>by
  obtain ⟨j,hj,rfl⟩:=List.mem_map.mp hi
  have:=List.mem_range.mp hj
  have:=(wd_bd c).2
  exact ⟨Int.natCast_nonneg _,by omega⟩
 have hne:wsL r≠[]:=fun e=>R.ne (List.map_eq_nil_iff.mp e)
 have h1000:(headsL (wdN c)).length≤1000:=by rw [heads_len]; have:=(wd_bd c).2; omega
 show wpAny _ A (execs (nth lwTn 4::lwTn.drop 5) env) _ NoE s₁
 refine wpAny_execs_cons (pages_assign (hs:=headsL (wdN c)) (st:=endS (wdN c) (wsL r)) (sn:=snL (wdN c) (wsL r)) rfl rfl rfl (fun _ _=>rfl) rfl rfl rfl rfl ?_ (evPg_page (n:=n) L.B L.gfmt L.kfmt L.k.enum pg.1 fns_page pg.2 rfl rfl rfl (ws_ok R.sz) (by rw [List.length_map]; have:=R.len; omega)) h1000 hm he oc₁ rfl rm F₁ (fun i _=>ns_seen fun e=>hne (List.length_eq_zero_iff.mp (pgSts_len.symm.trans (congrArg List.length e)))) (fun e=>nomatch (heads_len (wdN c)).symm.trans (congrArg List.length e)) fun qs outs ow₂ s₂ N=>?_)
 ·exact (List.map_map (f:=fun j:Nat=>(j:Int)) (g:=D.int) (l:=List.range (wdN c+1))).trans (rng_nat (wdN c+1)).symm▸EvI.range1 rfl L.k.ran (fun _ _=>rfl) (Ev.bin (Ev.name rfl) Ev.int (bin_addN (b:=1) rfl)) (midI_iff.mpr (by have:=(wd_bd c).2; omega))
 ·have e:=N.J.out.trans out_eq
  subst e
  have hU:∀ q∈qs,∀ b,q.U b→g.get? b=none:=fun q hq b hb=>F₁.gk.new (N.J.fr q hq b (.inr (.inr hb)))
  have hl:∀ q∈qs,q.l∈qs.map (·.l)++av:=fun q hq=>List.mem_append_left _ (List.mem_map.mpr ⟨q,hq,rfl⟩)
  have nw:∀ b,(∃ q∈qs,q.all b)→¬ Wr env ow₂ b:=fun b hb h=>hb.elim fun q z=>(F₁.wr_ex (N.w b h)).elim fun o e=>nos (N.J.fr q z.1 b z.2) e
  have cl:∀ x d,env.cells.lookup x=some d→¬ ∃ q∈qs,q.U d:=fun x d e u=>u.elim fun q z=>(F₁.ec.cells x (.inl (hcx x d e))).elim fun d' y=>y.2.elim fun v i=>i.elim fun o p=>nos (N.J.fr q z.1 d (.inr (.inr z.2))) ((Option.some.inj (e.symm.trans y.1))▸p.1)
  cases turn_back (n:=n) (av:=qs.map (·.l)++av) L R hU hl (N.J.pg.len.trans (List.length_map ..)) with | intro sts' run =>
  refine wp_to (run A s₂ ow₂ env he (N.c.trans oc₁) rm ⟨N.F,N.J.pg,nw,cl⟩) fun fl s₃ h₃=>h₃.nextE (Q:=fun fl=>fl=.next∧_) fun nx _=>⟨rfl,?_⟩
  cases nx with | mk ow₃ c₃ F₃ m₃ w₃ =>
  refine Nx.then c₁ F₁.gk m₁ q₁ ⟨ow₃,c₃.trans N.c,(F₃.shrink fun a ha=>List.mem_append_right _ ha).weak (Sub.cons rfl (Sub.cons rfl (Sub.cons rfl (Sub.cons rfl Sub.nil)))),Mv.trans N.m m₃ fun b hb=>hb.elim (fun h=>.inl (N.w b h)) fun u=>u.elim fun q z=>.inr (N.J.fr q z.1 b (.inr (.inr z.2))),fun b hb=>(w₃ b hb).elim (fun h=>.inl (N.w b h)) fun e=>N.m.new N.F.gk e⟩
end
end
section
noncomputable abbrev σ0 (c:Nat→Int) (ls:Option (List Nat)):Sto:=[(Str.ofString "least",.val (leastD ls)),(Str.ofString "width",.val (.int (wdN c)))]
noncomputable abbrev rE (p:List (Int×Int)×Nat):D:=.tup [.int (p.2:Int),runD p.1]
inductive LwI (c:Nat→Int) (ls:Option (List Nat)) (ds:List D) (σ:Sto) (s:Shared):Prop
 | mk (rest:List (List (Int×Int)×Nat)) (e:ds=rest.map rE) (h:∀ p∈rest,RunOk c ls p.2 p.1) (sub:Sub (σ0 c ls) σ)
section
variable {prog:Program}{w:World}{g:Heap}{T:Tabs}{K:Frag}{n:Nat}{c:Nat→Int}{ls:Option (List Nat)}{a:AccF}{b:FmtF}{av:List Addr}{ow:Ow}{env:Env}{s:Shared}{A:Around}(L:LwP prog w K g T a b (n+9))
include L
theorem lw_loop (R:∀ p∈(runsL c ls).zipIdx,RunOk c ls p.2 p.1) (he:env.scope=lwSc) (hoc:ow.c=cellNames lwSc.names) (hcx:∀ x d,env.cells.lookup x=some d→env.kindOf x=some .cell) (rm:Rm (n+9) A) (F:Fm g T av ow env (σr c ls) s) :
  wpAny (model prog w) A (exec lwFor env) (fun fl s'=>fl=.next∧Nx g T av ow env s (σ0 c ls) s') NoE s:=by
 refine wp_for (n:=n+9) (U:=fun _=>False) (pr:=fun _=>False) (Inv:=LwI c ls) (B:=fun _ _=>False) (D':=fun _=>False) ⟨fun _ _ _ _ _ f=>f.elim,fun _ _ _ _ _ _ f=>f.elim,fun _ f=>f,fun ds σ s₁ s₂ W i _ _ _ _=>i.rec fun rest e h sub=>.mk rest e h sub⟩
  (EvI.enumM (xs:=runsL c ls) (enc:=runD) rfl L.k.enum (fun _ _=>rfl) (Ev.bin (Ev.list (EvL.more (fun _=>rfl) (Ev.name rfl) EvL.nil) (show (1:Nat)≤lim by decide)) (Ev.name rfl) (bin_lst (show (1:Nat)≤lim by decide) ?_))) (fun _ _=>rfl) he hoc rm F (fun _ f=>f.elim) (.mk _ rfl R (.cons rfl (.cons rfl .nil))) (fun d ds' σ' s₁ q=>?_) (fun σ' s' q nx=>?_) (fun _ _ f=>f.elim) fun _ _ _ f=>f.elim
 ·cases ls with
  | none=>exact Nat.zero_le _
  | some t=>exact (show (1:Nat)≤lim by decide)
 ·cases q with | mk rest e h sub =>
  cases rest with
  | nil=>exact nomatch e
  | cons p rest =>
   obtain ⟨rfl,rfl⟩:=List.cons.inj e
   refine ⟨[(Str.ofString "turn",.int (p.2:Int)),(Str.ofString "run",runD p.1)],.tup (.cons (.cons .nil)),stAll_of rfl,fun fp s₂ ow' c' F' _ _=>wp_to (turn_body (n:=n) L (h p (.head _)) he c' hcx rm (F'.weak (bindAll_mono [(Str.ofString "turn",.int (p.2:Int)),(Str.ofString "run",runD p.1)] sub))) fun fl s₃ h₃=>?_⟩
   obtain ⟨rfl,nx⟩:=h₃
   exact .next (.of_nx nx) (.mk rest rfl (fun q hq=>h q (.tail _ hq)) (.cons rfl (.cons rfl .nil)))
 ·cases q with | mk rest e h sub=>exact wpAny_execs_nil ⟨rfl,(nx.nx).weak sub⟩
omit L in
theorem fns_law:FnS lwSc ["script"]:=⟨⟨rfl,rfl,rfl,by decide +kernel⟩,by decide +kernel⟩
theorem lw_call {fa:Addr}{vs:List Value}{script:List Int}(hf:FnAt g fa lwSc ["script"] lwB) (rm:Rm (n+10) A) (hg:GK g T s) (hv:VDs [] s.heap vs [.lst (script.map .int)]) (hl:script.length≤1000)
  (hs:shortP (wdN (cel script)) (mnN (cel script))=some ls) (hls:∀ t,ls=some t→t.length≤900) (R:∀ p∈(runsL (cel script) ls).zipIdx,RunOk (cel script) ls p.2 p.1) :
  wpAny (model prog w) A (call (.ref fa) vs) (Out g T [] s (.bool true)) NoE s:=by
 refine wp_callFn (n:=n+9) hf fns_law rm hg (fun a ha=>(List.not_mem_nil ha).elim) hv rfl fun env ow s₁ E hoc rm₁ F=>?_
 have hcx:∀ x d,env.cells.lookup x=some d→env.kindOf x=some .cell:=fun x d e=>by
  have hm:(x,NameKind.cell)∈lwSc.names:=Decidable.byContradiction fun hn=>nomatch (E.cells x hn).symm.trans e
  have:=List.all_eq_true.mp (by decide +kernel:(lwSc.names.all fun p => !(p.2==.cell)||lwSc.names.lookup p.1==some .cell)=true) _ hm
  rw [Env.kindOf,E.sc_]
  exact eq_of_beq this
 rw [show lwB=[nth lwB 0,nth lwB 1,nth lwB 2,nth lwB 3,nth lwB 4,nth lwB 5]++lwB.drop 6 from rfl]
 refine SxL.wp (.cons (lw0 L.k hl) (.pre (σ₁:=σc (cel script)) (.cons rfl .nil) (.cons lw1 (.cons (lw2 L.k) (.cons (lw3 L.k hs) (.cons (lw4 L.k) (.cons (lw5 (n:=n+8) L.k hls) .nil))))))) E.sc_ hoc rm₁ F fun s₂ x₂=>?_
 cases x₂ with | mk ow₂ c₂ F₂ m₂ q₂ =>
 show wpAny _ _ (execs (lwFor::lwB.drop 7) env) _ NoE s₂
 refine wpAny_execs_cons (wp_to (lw_loop (n:=n) L R E.sc_ (c₂.trans hoc) hcx rm₁ F₂) fun fl s₃ h₃=>?_)
 obtain ⟨rfl,nx⟩:=h₃
 have x₃:=Nx.then c₂ F₂.gk m₂ q₂ nx
 cases x₃ with | mk ow₃ c₃ F₃ m₃ q₃ =>
 exact wp_to ((SxL.last (Sx.ret Ev.bool):SxL prog w g T (n+9) lwSc (σ0 (cel script) ls) (lwB.drop 7) (.ret (.bool true))) _ s₃ [] ow₃ env E.sc_ (c₃.trans hoc) rm₁ F₃) fun fl s₄ h₄=>h₄.then c₃ F₃.gk m₃ q₃
end
end
section
noncomputable def tl (x:Str):List Nat:=x.cps.toList
noncomputable def ct (ps:List (Str×Str)):List Nat:=(ps.map fun p=>tl p.1++tl p.2).flatten
noncomputable def zOf (w:Str):Int:=1+(w.length:Int)
section
variable {x y w:Str}{ps q:List (Str×Str)}{p:Str×Str}{i mx:Int}{n:Nat}{st:Pst}{l:List Str}
theorem tl_inj (h:tl x=tl y):x=y:=congrArg Str.mk (Array.toList_inj.mp h)
theorem tl_app:tl (x++y)=tl x++tl y:=Array.toList_append
theorem tl_sp:tl sp1=[32]:=by decide +kernel
theorem tl_len:(tl x).length=x.length:=Array.length_toList
theorem tl_join:tl (Str.join es0 l)=(l.map tl).flatten:=by
 induction l with
 | nil=>rfl
 | cons x l ih =>
  cases l with
  | nil=>exact (List.append_nil _).symm
  | cons y r =>
   rw [show Str.join es0 (x::y::r)=x++es0++Str.join es0 (y::r) from rfl,tl_app,tl_app,ih,show tl es0=[] from rfl,List.append_nil]
   rfl
theorem tl_acc:tl (accText ps)=ct ps:=by
 unfold accText ct
 rw [tl_join,List.map_map]
 exact congrArg List.flatten (List.map_congr_left fun p _=>tl_join.trans (congrArg (tl p.1 ++ ·) (List.append_nil _)))
theorem ct_app:ct (ps++q)=ct ps++ct q:=by rw [ct,List.map_append,List.flatten_append]; rfl
theorem ct_one:ct [(x,y)]=tl x++tl y:=List.append_nil _
theorem acc_ct:accLen ps i=i+(ct ps).length:=by
 refine congrArg (i + ·) ?_
 induction ps with
 | nil=>rfl
 | cons p ps ih =>
  rw [List.map_cons,List.sum_cons,ih,show ct (p::ps)=tl p.1++tl p.2++ct ps from rfl,List.length_append,List.length_append,tl_len,tl_len]
  rfl
theorem acc_one:accLen (ps++[(x,y)]) i=accLen ps i+((x.length:Int)+(y.length:Int)):=by
 rw [accLen,accLen,List.map_append,List.sum_append,Int.add_assoc]
 exact congrArg (fun z=>i+((List.map _ ps).sum+z)) (Int.add_zero _)
theorem head_sp:headIs sp1=true:=by decide +kernel
theorem cut_full (hn:ps.length=n+1):cutF (ps++(sp1,w)::q) (n+1)=some (n+1):=by
 have e:pAt (ps++(sp1,w)::q) (n+1)=(sp1,w):=by rw [pAt, ← hn,List.getD_eq_getElem?_getD,List.getElem?_append_right (Nat.le_refl _),Nat.sub_self]; rfl
 exact if_pos (by rw [e,head_sp]; rfl)
theorem cut_split:cutF (ps++[(sp1,es0)]++[(es0,w)]) (ps.length+1)=cutF (ps++[(sp1,es0)]++[(es0,w)]) ps.length:=by
 have e1:pAt (ps++[(sp1,es0)]++[(es0,w)]) (ps.length+1)=(es0,w):=by
  rw [pAt,List.getD_eq_getElem?_getD,List.getElem?_append_right (by rw [List.length_append]; exact Nat.le_refl _),List.length_append,List.length_singleton,Nat.sub_self]; rfl
 have e2:pAt (ps++[(sp1,es0)]++[(es0,w)]) ps.length=(sp1,es0):=by
  rw [pAt,List.append_assoc,List.getD_eq_getElem?_getD,List.getElem?_append_right (Nat.le_refl _),Nat.sub_self]; rfl
 exact if_neg (by rw [e1,e2]; exact (by decide +kernel:¬ (headIs es0||lastIs es0)=true))
inductive EndOk (w:Str) (ps:List (Str×Str)):Prop
 | blank (q:List (Str×Str)) (h:w=es0) (e:ps=q++[(sp1,es0)])
 | full (q:List (Str×Str)) (p:Str×Str) (h:w≠es0) (e:ps=q++[p]) (hp:p≠(sp1,es0))
inductive Fed (mx:Int) (st:Pst) (w:Str):Pst→Prop
 | fit (ps:List (Str×Str)) (h:accLen st.2.1 st.2.2+zOf w≤mx) (c:ct ps=ct st.2.1++32::tl w) (e:EndOk w ps):Fed mx st w (st.1,ps,st.2.2)
 | brk (ps:List (Str×Str)) (h:¬ accLen st.2.1 st.2.2+zOf w≤mx) (c:ct ps=32::tl w) (e:EndOk w ps):Fed mx st w (st.1++[accText st.2.1],ps,0)
theorem es_ne:(es0,w)≠(sp1,es0):=fun e=>absurd (Prod.mk.inj e).1 (by decide +kernel)
theorem end_sp:EndOk w (q++[(sp1,w)]):=by
 by_cases h:w=es0
 ·exact .blank q h (h▸rfl)
 ·exact .full q _ h rfl fun e=>h (Prod.mk.inj e).2
theorem end_es (h:w≠es0):EndOk w (q++[(es0,w)]):=.full q _ h rfl es_ne
theorem only_no {ps:List (Str×Str)}(hi:0<i):isOnly ps i=false:=by
 unfold isOnly
 rw [beq_eq_false_iff_ne.mpr (Int.ne_of_gt hi)]; rfl
theorem nl_first (h:popped ps=[(es0,es0)]∨popped ps=[]) (hi:0<i):nlF l ps i=l++[es0]:=by
 unfold nlF
 have e:∀ {ps:List (Str×Str)},ct ps=[]→accLen ps i=i:=fun h=>by rw [acc_ct,h]; exact Int.add_zero i
 rcases h with h | h <;> rw [h,only_no hi,e rfl] <;> exact if_pos (decide_eq_true hi)
end
end
section
section
variable {x y w:Str}{ps q:List (Str×Str)}{p pr:Str×Str}{i mx head:Int}{n k:Nat}{st st':Pst}{l ls:List Str}
theorem sp_one:(sp1.length:Int)+(w.length:Int)=zOf w:=congrArg (fun n:Nat=>(n:Int)+(w.length:Int)) (by decide +kernel:sp1.length=1)
theorem acF_fit (h:accLen (ps++[pr]) i≤mx):acF mx (l,ps,i) pr=(l,ps++[pr],i):=if_neg (by rw [decide_eq_true_eq]; exact Int.not_lt.mpr h)
theorem acF_cut (h:¬ accLen (ps++[pr]) i≤mx) {j:Nat}(hc:cutF (ps++[pr]) ps.length=some j):acF mx (l,ps,i) pr=(l++[accText ((ps++[pr]).take j)],(ps++[pr]).drop j,0):=(if_pos (decide_eq_true (Int.not_le.mp h))).trans (by rw [hc]; rfl)
theorem acF_none (h:¬ accLen (ps++[pr]) i≤mx) (hi:0<i) (hc:cutF (ps++[pr]) ps.length=none) (hp:popped ps=[(es0,es0)]∨popped ps=[]) (hf:fwsOr pr.1=sp1):acF mx (l,ps,i) pr=(l++[es0],[(sp1,pr.2)],0):=by
 refine (if_pos (decide_eq_true (Int.not_le.mp h))).trans ?_
 rw [hc]
 refine (if_pos (decide_eq_true hi):acElse (l,ps,i) pr=_).trans ?_
 rw [nl_first hp hi,hf]
theorem fws_sp:fwsOr sp1=sp1:=by decide +kernel
theorem fws_es:fwsOr es0=sp1:=by decide +kernel
theorem ac_full (hz:zOf w≤mx):accLen ps i+zOf w≤mx∧acF mx (l,ps,i) (sp1,w)=(l,ps++[(sp1,w)],i)∨¬ accLen ps i+zOf w≤mx∧acF mx (l,ps,i) (sp1,w)=(l++[accText ps],[(sp1,w)],0):=by
 have e:accLen (ps++[(sp1,w)]) i=accLen ps i+zOf w:=by rw [acc_one,sp_one]
 by_cases h:accLen ps i+zOf w≤mx
 ·exact .inl ⟨h,acF_fit (e▸h)⟩
 ·refine .inr ⟨h,?_⟩
  cases hp:ps.length with
  | zero =>
   cases List.length_eq_zero_iff.mp hp
   exact acF_none (e▸h) (by have:accLen [] i=i:=Int.add_zero i; omega) rfl (.inl (by decide +kernel)) fws_sp
  | succ n =>
   rw [acF_cut (e▸h) (by rw [hp]; exact cut_full hp), ← hp,List.take_left,List.drop_left]
theorem feed_full (hz:zOf w≤mx):Fed mx st w (acF mx st (sp1,w)):=by
 have c:∀ {q:List (Str×Str)},ct (q++[(sp1,w)])=ct q++32::tl w:=by intro q; rw [ct_app,ct_one,tl_sp]; rfl
 rcases ac_full (l:=st.1) (ps:=st.2.1) (i:=st.2.2) hz with ⟨h,e⟩ | ⟨h,e⟩
 ·exact e▸.fit _ h c end_sp
 ·exact e▸.brk _ h (c (q:=[])) (end_sp (q:=[]))
theorem feed_two (hz:zOf w≤mx) (hw:w≠es0):Fed mx (l,ps,i) w (acF mx (acF mx (l,ps,i) (sp1,es0)) (es0,w)):=by
 have hz0:zOf es0≤mx:=Int.le_trans (Int.add_le_add_left (Int.ofNat_le.mpr (Nat.zero_le _)) 1) hz
 have c:∀ {q:List (Str×Str)},ct (q++[(sp1,es0)]++[(es0,w)])=ct q++32::tl w:=by intro q; rw [ct_app,ct_app,ct_one,ct_one,tl_sp,List.append_assoc]; rfl
 have e2:∀ {q:List (Str×Str)}{i:Int},accLen (q++[(sp1,es0)]++[(es0,w)]) i=accLen q i+zOf w:=by
  intro q i
  rw [acc_one,acc_one,sp_one,Int.add_assoc]
  exact congrArg (accLen q i + ·) (show (1+0:Int)+(0+(w.length:Int))=1+w.length by omega)
 rcases ac_full (l:=l) (ps:=ps) (i:=i) hz0 with ⟨h,e⟩ | ⟨h,e⟩
 ·rw [e]
  by_cases h2:accLen ps i+zOf w≤mx
  ·rw [acF_fit (e2▸h2)]
   exact .fit _ h2 c (end_es hw)
  ·cases hp:ps.length with
   | zero =>
    cases List.length_eq_zero_iff.mp hp
    rw [acF_none (e2▸h2) (by have:accLen [] i=i:=Int.add_zero i; omega) (cut_split (ps:=[])) (.inr (by decide +kernel)) fws_es]
    exact .brk _ h2 (ct_one.trans (by rw [tl_sp]; rfl)) (end_sp (q:=[]))
   | succ n =>
    have hl:(ps++[(sp1,es0)]).length=ps.length+1:=List.length_append
    have hc:cutF (ps++[(sp1,es0)]++[(es0,w)]) (ps++[(sp1,es0)]).length=some ps.length:=by
     rw [hl,cut_split,hp,List.append_assoc]
     exact cut_full hp
    rw [acF_cut (e2▸h2) hc,List.append_assoc,List.take_left,List.drop_left]
    exact .brk _ h2 (c (q:=[])) (end_es (q:=[(sp1,es0)]) hw)
 ·rw [e,acF_fit (ps:=[(sp1,es0)]) ((e2 (q:=[]) (i:=0)).symm▸(by have:accLen [] 0=0:=rfl; omega))]
  exact .brk _ (fun h2=>h (Int.le_trans (Int.add_le_add_left (Int.add_le_add_left (Int.ofNat_le.mpr (Nat.zero_le _)) 1) _) h2)) (c (q:=[])) (end_es (q:=[(sp1,es0)]) hw)
theorem feed_step (hz:zOf w≤mx):Fed mx st w (feedW mx head k w st):=by
 show Fed mx st w ((chunksF head k w).foldl (acF mx) st)
 unfold chunksF
 by_cases h:chunksB head k w=true
 ·rw [if_pos h]
  exact feed_two (l:=st.1) (ps:=st.2.1) (i:=st.2.2) hz (bne_iff_ne.mp (Bool.and_eq_true_iff.mp h).1)
 ·rw [if_neg h]
  exact feed_full hz
end
end
section
noncomputable def stepZ (mx:Int) (p:Int×Int) (z:Int):Int×Int:=if p.2+z≤mx then (p.1,p.2+z) else (p.1+1,z)
noncomputable def zSts (mx:Int) (zs:List Int):Int×Int→List (Int×Int):=zs.rec (fun _=>[]) fun z _ ih p=>stepZ mx p z::ih (stepZ mx p z)
noncomputable def rowsR (st:Pst):List (List Nat):=st.1.map tl++[ct st.2.1]
noncomputable def rt (ws:List Str) (col:List (Int×Int)) (r:Int):List Nat:=((ws.zip col).filter fun p=>p.2.1==r).flatMap fun p=>32::tl p.1
section
variable {w:Str}{ws:List Str}{col:List (Int×Int)}{c:Int×Int}{mx head:Int}{k r:Nat}{st st':Pst}{α:Type}{L:List (List Nat)}{a b:List Nat}
theorem Fed.num (h:Fed mx st w st'):stN st'=stepZ mx (stN st) (zOf w):=by
 have z:((32::tl w).length:Int)=zOf w:=by rw [List.length_cons,tl_len,zOf,Int.natCast_add,Int.add_comm]; rfl
 cases h with
 | fit ps h c e =>
  refine Eq.trans ?_ (if_pos h:stepZ mx (stN st) (zOf w)=_).symm
  exact congrArg (Prod.mk _) (by rw [acc_ct,c,List.length_append,Int.natCast_add,z, ← Int.add_assoc, ← acc_ct])
 | brk ps h c e =>
  refine Eq.trans ?_ (if_neg h:stepZ mx (stN st) (zOf w)=_).symm
  have e1:accLen ps 0=zOf w:=by rw [acc_ct,c,z,Int.zero_add]
  have e2:((st.1++[accText st.2.1]).length:Int)=(st.1.length:Int)+1:=by rw [List.length_append]; rfl
  show (((st.1++[accText st.2.1]).length:Int),accLen ps 0)=_
  rw [e1,e2]
theorem sts_num:∀ {k:Nat}{st:Pst},(∀ w∈ws,zOf w≤mx)→(pgSts mx head ws k st).map stN=zSts mx (ws.map zOf) (stN st):=by
 induction ws with
 | nil=>exact fun _=>rfl
 | cons w ws ih =>
  intro k st hz
  have e:=(feed_step (st:=st) (head:=head) (k:=k) (hz w (.head _))).num
  show stN _::(pgSts mx head ws (k+1) _).map stN=stepZ mx (stN st) (zOf w)::zSts mx (ws.map zOf) (stepZ mx (stN st) (zOf w))
  rw [ih fun w hw=>hz w (.tail _ hw),e]
theorem rt_row:tl (rowOf ws col r)=rt ws col r:=by
 unfold rowOf rt
 rw [tl_join,List.map_map,List.flatMap_def]
 exact congrArg List.flatten (List.map_congr_left fun p _=>tl_app.trans (by rw [tl_sp]; rfl))
theorem rt_cons:rt (w::ws) (c::col) r=(if c.1=(r:Int) then 32::tl w else [])++rt ws col r:=by
 unfold rt
 rw [List.zip_cons_cons,List.filter_cons]
 by_cases h:c.1=(r:Int)
 ·rw [if_pos (beq_iff_eq.mpr h),if_pos h,List.flatMap_cons]
 ·rw [if_neg (fun e=>h (beq_iff_eq.mp e)),if_neg h]; rfl
theorem getD_snoc:(L++[b]).getD r []=L.getD r []++if (L.length:Int)=r then b else []:=by
 rw [List.getD_eq_getElem?_getD,List.getD_eq_getElem?_getD,List.getElem?_append]
 by_cases h:r<L.length
 ·rw [if_pos h,if_neg (by omega),List.append_nil]
 ·rw [if_neg h,List.getElem?_eq_none (Nat.not_lt.mp h)]
  by_cases e:L.length=r
  ·rw [if_pos (congrArg _ e),e,Nat.sub_self]; rfl
  ·rw [if_neg (fun z=>e (Int.ofNat_inj.mp z)),List.getElem?_eq_none (by rw [List.length_singleton]; omega)]; rfl
theorem Fed.rows (h:Fed mx st w st'):(rowsR st').getD r []=(rowsR st).getD r []++if (stN st').1=(r:Int) then 32::tl w else []:=by
 have hl:((st.1.map tl).length:Int)=(st.1.length:Int):=by rw [List.length_map]
 unfold rowsR
 cases h with
 | fit ps h c e =>
  show (st.1.map tl++[ct ps]).getD r []=(st.1.map tl++[ct st.2.1]).getD r []++if (st.1.length:Int)=r then 32::tl w else []
  rw [c,getD_snoc,getD_snoc,hl,List.append_assoc]
  by_cases e:(st.1.length:Int)=r
  ·rw [if_pos e,if_pos e,if_pos e]
  ·rw [if_neg e,if_neg e,if_neg e]; rfl
 | brk ps h c e =>
  have e1:((st.1++[accText st.2.1]).map tl++[ct ps])=st.1.map tl++[ct st.2.1]++[32::tl w]:=by rw [List.map_append,c]; exact congrArg (fun z=>_++[z]++_) tl_acc
  have e2:((st.1.map tl++[ct st.2.1]).length:Int)=((st.1++[accText st.2.1]).length:Int):=by rw [List.length_append,List.length_append,List.length_map]; rfl
  show ((st.1++[accText st.2.1]).map tl++[ct ps]).getD r []=(st.1.map tl++[ct st.2.1]).getD r []++if ((st.1++[accText st.2.1]).length:Int)=r then 32::tl w else []
  rw [e1,getD_snoc,e2]
theorem end_rows:∀ {k:Nat}{st:Pst},(∀ w∈ws,zOf w≤mx)→(rowsR (pgEnd mx head ws k st)).getD r []=(rowsR st).getD r []++rt ws (zSts mx (ws.map zOf) (stN st)) r:=by
 induction ws with
 | nil=>exact fun _=>(List.append_nil _).symm
 | cons w ws ih =>
  intro k st hz
  have f:=feed_step (st:=st) (head:=head) (k:=k) (hz w (.head _))
  show (rowsR (pgEnd mx head ws (k+1) _)).getD r []=_++rt (w::ws) (stepZ mx (stN st) (zOf w)::zSts mx (ws.map zOf) (stepZ mx (stN st) (zOf w))) r
  rw [ih fun w hw=>hz w (.tail _ hw),f.rows,f.num,rt_cons,List.append_assoc]
end
end
section
section
variable {w v:Str}{ws:List Str}{col:List (Int×Int)}{c:Int×Int}{mx head:Int}{k r m:Nat}{st st':Pst}{ps q:List (Str×Str)}{p:Str×Str}
theorem Fed.last (h:Fed mx st w st'):EndOk w st'.2.1:=by cases h <;> assumption
noncomputable def Fst (st:Pst):Prop:=st.2.2=0∨0<st.2.2∧st.1=[]
theorem Fed.fst (h:Fed mx st w st') (i:Fst st):Fst st':=by
 cases h with
 | fit=>exact i
 | brk=>exact .inl rfl
theorem end_fst:∀ {k:Nat}{st:Pst},(∀ w∈ws,zOf w≤mx)→Fst st→Fst (pgEnd mx head ws k st):=by
 induction ws with
 | nil=>exact fun _ h=>h
 | cons w ws ih=>exact fun hz h=>ih (fun w hw=>hz w (.tail _ hw)) ((feed_step (hz w (.head _))).fst h)
theorem end_last:∀ {k:Nat}{st:Pst}{v:Str},(∀ w∈ws,zOf w≤mx)→EndOk v st.2.1→EndOk (ws.getLastD v) (pgEnd mx head ws k st).2.1:=by
 induction ws with
 | nil=>exact fun _ h=>h
 | cons w ws ih =>
  intro k st v hz _
  rw [List.getLastD_cons]
  exact ih (fun w hw=>hz w (.tail _ hw)) (feed_step (hz w (.head _))).last
theorem end_wl {w0:List Str}(hz:∀ w∈w0++[v],zOf w≤mx):EndOk v (pgEnd mx head (w0++[v]) k st).2.1:=by
 have e:∀ {w:Str}{ws:List Str},w0++[v]=w::ws→ws.getLastD w=v:=fun e=>by rw [← List.getLastD_cons (a:=v), ← e,List.getLastD_concat]
 cases h:w0++[v] with
 | nil=>exact absurd (congrArg List.length h) (by rw [List.length_append]; exact Nat.succ_ne_zero _)
 | cons w ws =>
  rw [h] at hz
  exact e h▸end_last (fun w hw=>hz w (.tail _ hw)) (feed_step (hz w (.head _))).last
theorem popped_blank:popped (q++[(sp1,es0)])=q:=by
 unfold popped lastP
 rw [List.getLast?_concat,List.dropLast_concat]
 exact if_neg (by decide +kernel)
theorem popped_full (h:p≠(sp1,es0)):popped (q++[p])=q++[p]:=by
 unfold popped lastP
 rw [List.getLast?_concat,List.dropLast_concat]
 exact if_pos (bne_iff_ne.mpr h)
theorem rows_eq {ls:List Str}(hm:ls.length=m) (h:∀ r,(ls.map tl++[ct ps]).getD r []=rt ws col r):rowsOf ws col m=ls∧rowOf ws col m=accText ps:=by
 have hl:(ls.map tl).length=m:=(List.length_map ..).trans hm
 unfold rowsOf
 refine ⟨List.ext_getElem ((List.length_map ..).trans ((List.length_range ..).trans hm.symm)) fun r h1 h2=>tl_inj ?_,tl_inj ?_⟩
 ·have hr:=h r
  rw [List.getD_eq_getElem?_getD,List.getElem?_append_left (by rw [List.length_map]; exact h2),List.getElem?_map,List.getElem?_eq_getElem h2] at hr
  rw [List.getElem_map,List.getElem_range,rt_row, ← hr]
  rfl
 ·have hr:=h m
  rw [List.getD_eq_getElem?_getD,List.getElem?_append_right (Nat.le_of_eq hl),hl,Nat.sub_self] at hr
  rw [rt_row, ← hr,tl_acc]
  rfl
theorem pickS_init {l:List Nat}{c:Nat}:pickS ⟨(l++[c]).toArray⟩ none (some (-1)) none=⟨l.toArray⟩:=by
 have hl:(⟨(l++[c]).toArray⟩:Str).length=l.length+1:=by show (List.toArray _).size=_; rw [List.size_toArray,List.length_append]; rfl
 have e:Builtin.Str.strSliceIndices none (some (-1)) 1 (l.length+1)=List.range l.length:=by
  have h2:Builtin.Str.strSliceIndices none (some (-1)) 1 (l.length+1)=sliceRange ((0:Nat):Int) ((l.length:Nat):Int) 1:=by
   unfold Builtin.Str.strSliceIndices
   dsimp only
   rw [if_pos (by decide),if_pos (by decide),if_pos (by decide)]
   congr 1
   lia
  rw [h2,sliceRange_one]; simp
 unfold pickS
 rw [hl,show (none:Option Int).getD 1=1 from rfl,e,List.length_range,if_neg (by simp)]
 refine congrArg (fun l:List Nat=>(⟨l.toArray⟩:Str)) ?_
 have:=range_pick l [c]
 simpa using this
end
end
theorem tl_es:tl es0=[]:=rfl
theorem tl_length (x:Str):x.length=(tl x).length:=tl_len.symm
noncomputable def okC1 (c:Nat):Prop:=c=32∨(65≤c∧c<81)
theorem space_32:Unicode.isSpace 32=true:=by decide +kernel
theorem space_let {c:Nat}(h:65≤c∧c<81):Unicode.isSpace c=false:=by
 have key:∀ m:Fin 16,Unicode.isSpace (65+m)=false:=by decide +kernel
 have:=key ⟨c - 65,by omega⟩
 rwa [show 65+(⟨c - 65,by omega⟩:Fin 16).val=c by simp; omega] at this
theorem goes_is (c:Nat):sp1.cps.contains c=(c==32):=by
 have:sp1.cps = #[32]:=by decide +kernel
 rw [this]
 cases h:(c==32) with
 | true=>rw [beq_iff_eq.mp h]; decide +kernel
 | false =>
  have:=beq_eq_false_iff_ne.mp h
  simp [this]
theorem tw_all {p:Nat→Bool}:∀ {l:List Nat},(∀ c∈l,p c=true)→l.takeWhile p=l
 | [],_=>rfl
 | a::r,h=>by rw [List.takeWhile_cons,if_pos (h a (.head _)),tw_all fun c hc=>h c (.tail _ hc)]
theorem tw_mem {p:Nat→Bool}{c:Nat}:∀ {l:List Nat},c∈l.takeWhile p→p c=true
 | [],h=>by cases h
 | a::r,h=>by
  rw [List.takeWhile_cons] at h
  split at h
  ·rename_i ha
   rcases List.mem_cons.mp h with rfl | h
   ·exact ha
   ·exact tw_mem h
  ·cases h
theorem strip_blank {u:Str}(h:∀ c∈tl u,c=32):stripS true true u sp1=es0:=by
 have hw:(tl u).takeWhile sp1.cps.contains=tl u:=by
  refine tw_all fun c hc=>?_
  rw [goes_is,h c hc]; rfl
 have hlo:stripLo sp1.cps.contains true u=u.length:=by
  unfold stripLo
  rw [if_pos rfl]
  show ((tl u).takeWhile _).length=_
  rw [hw,tl_length]
 have hhi:stripHi sp1.cps.contains true u u.length=u.length:=by
  unfold stripHi
  rw [if_pos rfl]
  have:u.cps.toList.drop u.length=[]:=List.drop_eq_nil_of_le (by rw [tl_length]; exact Nat.le_refl _)
  rw [this]; rfl
 unfold stripS stripSame PySem.stripped
 rw [hlo,hhi]
 by_cases h0:u.length=0
 ·rw [if_pos (by rw [h0]; rfl)]
  exact tl_inj (by rw [tl_es]; exact List.length_eq_zero_iff.mp (by rw [← tl_length]; exact h0))
 ·rw [if_neg (by simp [h0])]
  refine tl_inj ?_
  rw [tl_es]
  show (u.cps.extract u.length u.length).toList=[]
  simp
theorem strip_let {u:Str}{c:Nat}(hc:c∈tl u) (hn:c≠32):stripS true true u sp1≠es0:=by
 intro e
 unfold stripS at e
 split at e
 ·rw [e,tl_es] at hc; cases hc
 ·have e2:=congrArg tl e
  rw [tl_es] at e2
  unfold PySem.stripped at e2
  have h3:((tl u).take (stripHi sp1.cps.contains true u (stripLo sp1.cps.contains true u))).drop (stripLo sp1.cps.contains true u)=[]:=by
   have:tl (Builtin.Str.strSub u (stripLo sp1.cps.contains true u) (stripHi sp1.cps.contains true u (stripLo sp1.cps.contains true u)))=((tl u).take (stripHi sp1.cps.contains true u (stripLo sp1.cps.contains true u))).drop (stripLo sp1.cps.contains true u):=by
    unfold tl
    show (u.cps.extract _ _).toList=_
    rw [Array.toList_extract,List.extract_eq_take_drop,List.drop_take]
   rw [← this]; exact e2
  have hsplit:(tl u).takeWhile sp1.cps.contains++(tl u).dropWhile sp1.cps.contains=tl u:=List.takeWhile_append_dropWhile
  have hlo:stripLo sp1.cps.contains true u=((tl u).takeWhile sp1.cps.contains).length:=by unfold stripLo; rw [if_pos rfl]; rfl
  generalize hA:(tl u).takeWhile sp1.cps.contains=Aa at hsplit hlo
  generalize hB:(tl u).dropWhile sp1.cps.contains=Bb at hsplit
  have hBne:Bb≠[]:=fun e0=>by
   have:c∈Aa:=by rw [e0,List.append_nil] at hsplit; rw [hsplit]; exact hc
   rw [← hA] at this
   have:=tw_mem this
   rw [goes_is] at this
   exact hn (beq_iff_eq.mp this)
  have hd:(tl u).drop Aa.length=Bb:=by rw [← hsplit]; simp
  have hhi:stripHi sp1.cps.contains true u Aa.length=u.length - (Bb.reverse.takeWhile sp1.cps.contains).length:=by
   unfold stripHi
   rw [if_pos rfl]
   show u.length - (((tl u).drop Aa.length).reverse.takeWhile _).length=_
   rw [hd]
  rw [hlo,hhi,List.drop_take,hd] at h3
  have hul:u.length=Aa.length+Bb.length:=by rw [tl_length, ← hsplit,List.length_append]
  have hlt:(Bb.reverse.takeWhile sp1.cps.contains).length<Bb.length:=by
   cases Bb with
   | nil=>exact absurd rfl hBne
   | cons b r =>
    have hb:sp1.cps.contains b=false:=by
     have:=List.head?_dropWhile_not sp1.cps.contains (tl u)
     rw [hB] at this
     simpa using this
    have hle:=(List.takeWhile_prefix (l:=(b::r).reverse) sp1.cps.contains).length_le
    rw [List.length_reverse] at hle
    rcases Nat.lt_or_ge ((b::r).reverse.takeWhile sp1.cps.contains).length (b::r).length with h | h
    ·exact h
    ·have heq:(b::r).reverse.takeWhile sp1.cps.contains=(b::r).reverse:=(List.takeWhile_prefix (l:=(b::r).reverse) sp1.cps.contains).eq_of_length (by rw [List.length_reverse]; lia)
     have hm:b∈(b::r).reverse.takeWhile sp1.cps.contains:=by rw [heq]; simp
     have:=tw_mem hm
     rw [hb] at this; exact (disc tgS this rfl).elim
  have h4:=congrArg List.length h3
  rw [List.length_take,List.length_nil] at h4
  lia
theorem space_strip {u:Str}(hne:tl u≠[]) (h:∀ c∈tl u,okC1 c):Txt.isspace u=(stripS true true u sp1==es0):=by
 have hl:0<u.length:=by rw [tl_length]; exact List.length_pos_iff.mpr hne
 have e:Txt.isspace u=(tl u).all Unicode.isSpace:=by
  unfold Txt.isspace
  rw [show (decide (u.length>0))=true from decide_eq_true hl,Bool.true_and, ← Array.all_toList]; rfl
 rw [e]
 by_cases hb:∀ c∈tl u,c=32
 ·rw [strip_blank hb,beq_self_eq_true,List.all_eq_true]
  intro c hc
  rw [hb c hc]; exact space_32
 ·obtain ⟨c,hc⟩:∃ c,c∈tl u∧c≠32:=by
   apply Decidable.byContradiction
   intro hn
   exact hb fun c hc=>Decidable.byContradiction fun h=>hn ⟨c,hc,h⟩
  have h1:(stripS true true u sp1==es0)=false:=beq_eq_false_iff_ne.mpr (strip_let hc.1 hc.2)
  rw [h1,List.all_eq_false]
  refine ⟨c,hc.1,?_⟩
  rcases h c hc.1 with h | h
  ·exact absurd h hc.2
  ·rw [space_let h]; exact Bool.false_ne_true
section
section
variable {u:Str}{b:Bool}{ls:List Str}{ps:List (Str×Str)}{i:Int}
theorem addLine_nil:addLine [] u b=[u]:=if_neg (by rw [show (([]:List Str).isEmpty)=true from rfl]; cases b <;> decide)
theorem addLine_es:Str.join nlS (addLine ls es0 true)=Str.join nlS ls:=by
 rcases List.eq_nil_or_concat ls with rfl | ⟨l,y,rfl⟩
 ·rw [addLine_nil]; rfl
 ·rw [List.concat_eq_append]
  refine congrArg (Str.join nlS) ((if_pos (by cases l <;> rfl):addLine (l++[y]) es0 true=_).trans ?_)
  rw [List.dropLast_concat,List.getLast?_concat]
  exact congrArg (fun z=>l++[z]) (tl_inj (tl_app.trans (List.append_nil _)))
theorem nl_eq (hi:i=0∨0<i∧ls=[]) (hc:∀ c∈ct (popped ps),okC1 c):Str.join nlS (nlF ls ps i)=Str.join nlS (txRows ls (accText (popped ps))):=by
 unfold nlF txRows
 revert hc
 generalize popped ps=P
 intro hc
 rcases hi with rfl | ⟨hi,rfl⟩
 ·by_cases hn:ct P=[]
  ·have hu:accText P=es0:=tl_inj (tl_acc.trans hn)
   have hs:(stripS true true es0 sp1==es0)=true:=by rw [strip_blank fun c h=>(List.not_mem_nil h).elim]; exact beq_self_eq_true _
   have ha:¬ decide (accLen P 0>0)=true:=by rw [acc_ct,hn]; decide
   rw [if_neg ha,hu,hs,addLine_es]
  ·have hp:(accLen P 0>0):=by rw [acc_ct,Int.zero_add]; exact Int.ofNat_lt.mpr (List.length_pos_iff.mpr hn)
   have ho:isOnly P 0=(stripS true true (accText P) sp1==es0):=by
    rw [← space_strip (by rw [tl_acc]; exact hn) (by rw [tl_acc]; exact hc)]
    unfold isOnly
    rw [bne_iff_ne.mpr (Int.ne_of_gt hp)]; rfl
   rw [if_pos (decide_eq_true hp),ho]
 ·have hp:accLen P i>0:=by rw [acc_ct]; omega
  rw [if_pos (decide_eq_true hp),addLine_nil,addLine_nil]
end
end
section
noncomputable abbrev lets (w:Str):Prop:=∀ c∈tl w,65≤c∧c<81
section
variable {u wl:Str}{ws w0:List Str}{ps:List (Str×Str)}{col:List (Int×Int)}{r:Int}{wd j:Nat}
theorem rt_ok (hl:∀ w∈ws,lets w):∀ c∈rt ws col r,okC1 c:=fun c hc=>by
 obtain ⟨p,hp,hc⟩:=List.mem_flatMap.mp hc
 have hw:=hl p.1 (List.of_mem_zip (List.mem_filter.mp hp).1).1
 exact (List.mem_cons.mp hc).elim .inl fun hc=>.inr (hw c hc)
theorem cut_row (he:EndOk wl ps) (h:u=accText ps):(if (wl==es0)=true then pickS u none (some (-1)) none else u)=accText (popped ps):=by
 cases he with
 | blank q hw e =>
  have hu:accText (q++[(sp1,es0)])=⟨(ct q++[32]).toArray⟩:=tl_inj (tl_acc.trans (by rw [ct_app,ct_one,tl_sp]; rfl))
  rw [if_pos (beq_iff_eq.mpr hw),h,e,popped_blank,hu,pickS_init]
  exact tl_inj tl_acc.symm
 | full q p hw e hp=>rw [if_neg fun z=>hw (beq_iff_eq.mp z),h,e,popped_full hp]
theorem pop_ok (he:EndOk wl ps) (h:∀ c∈ct ps,okC1 c):∀ c∈ct (popped ps),okC1 c:=by
 cases he with
 | blank q hw e=>rw [e,popped_blank]; rw [e,ct_app] at h; exact fun c hc=>h c (List.mem_append_left _ hc)
 | full q p hw e hp=>rw [e,popped_full hp, ← e]; exact h
theorem text_page (hz:∀ w∈w0++[wl],zOf w≤(wd:Int)) (hl:∀ w∈w0++[wl],lets w) (hcol:col=zSts wd ((w0++[wl]).map zOf) (0,(j:Int))) {m:Nat}(hm:m=(endS wd (w0++[wl]) j).1.length) (hu:accText (popped (endS wd (w0++[wl]) j).2.1)=u) :
  (if (wl==es0)=true then pickS (rowOf (w0++[wl]) col m) none (some (-1)) none else rowOf (w0++[wl]) col m)=u∧Str.join nlS (endL wd (w0++[wl]) j)=Str.join nlS (txRows (rowsOf (w0++[wl]) col m) u):=by
 have e:=end_wl (head:=(j:Int)) (k:=0) (st:=([],[],(j:Int))) hz
 have R:=rows_eq (col:=col) (ws:=w0++[wl]) (ls:=(endS wd (w0++[wl]) j).1) (ps:=(endS wd (w0++[wl]) j).2.1) hm.symm fun r=>by
  refine (end_rows (head:=(j:Int)) (k:=0) (st:=([],[],(j:Int))) hz).trans ?_
  rw [hcol]
  cases r <;> rfl
 have F:=end_fst (head:=(j:Int)) (k:=0) (st:=([],[],(j:Int))) hz (by
  cases j with
  | zero=>exact .inl rfl
  | succ j=>exact .inr ⟨Int.ofNat_lt.mpr (Nat.succ_pos j),rfl⟩)
 have ok:∀ c∈ct (endS wd (w0++[wl]) j).2.1,okC1 c:=by
  rw [← tl_acc, ← R.2,rt_row]
  exact rt_ok hl
 refine ⟨hu▸cut_row e R.2,?_⟩
 rw [R.1, ← hu]
 exact nl_eq F (pop_ok e ok)
end
end
noncomputable def ofBE (ds:List Nat):Nat:=ds.foldl (fun a d=>16*a+d) 0
theorem ofBE_snoc (ds:List Nat) (d:Nat):ofBE (ds++[d])=16*ofBE ds+d:=by unfold ofBE; rw [List.foldl_append]; rfl
theorem ofBE_zero:∀ (n:Nat) (ds:List Nat),ds.length=n→(ofBE ds=0↔∀ d∈ds,d=0)
 | 0,ds,h=>by
  have:ds=[]:=List.length_eq_zero_iff.mp h
  subst this; exact ⟨fun _ d hd=>(by cases hd),fun _=>rfl⟩
 | n+1,ds,h=>by
  obtain ⟨q,x,rfl⟩:∃ q x,ds=q++[x]:=⟨ds.dropLast,ds.getLast (fun e=>by rw [e] at h; cases h),(List.dropLast_concat_getLast _).symm⟩
  rw [ofBE_snoc]
  have ih:=ofBE_zero n q (by simpa using h)
  constructor
  ·intro e d hd
   rcases List.mem_append.mp hd with hd | hd
   ·exact ih.mp (by lia) d hd
   ·rw [List.mem_singleton.mp hd]; lia
  ·intro e
   have h1:=ih.mpr fun d hd=>e d (List.mem_append_left _ hd)
   have h2:=e x (by simp)
   lia
theorem dw_zero {ds:List Nat}(h:∀ d∈ds,d=0):ds.dropWhile (· == 0)=[]:=by
 induction ds with
 | nil=>rfl
 | cons a r ih=>rw [List.dropWhile_cons,if_pos (by rw [h a (.head _)]; rfl),ih fun d hd=>h d (.tail _ hd)]
theorem dw_snoc {ds:List Nat}(x:Nat) (h:¬ ∀ d∈ds,d=0):(ds++[x]).dropWhile (· == 0)=ds.dropWhile (· == 0)++[x]:=by
 induction ds with
 | nil=>exact absurd (fun d hd=>by cases hd) h
 | cons a r ih =>
  rw [List.cons_append,List.dropWhile_cons,List.dropWhile_cons]
  by_cases ha:a=0
  ·rw [if_pos (by rw [ha]; rfl),if_pos (by rw [ha]; rfl)]
   refine ih fun hr=>h fun d hd=>?_
   rcases List.mem_cons.mp hd with rfl | hd
   ·exact ha
   ·exact hr d hd
  ·rw [if_neg (by simpa using ha),if_neg (by simpa using ha)]; rfl
theorem apL_zero (f:Nat) (acc:List UInt8):apL f 0 acc=acc:=by cases f <;> simp [apL]
theorem apL_be:∀ (n:Nat) (ds:List Nat) (f:Nat) (acc:List UInt8),ds.length=n→n≤f→(∀ d∈ds,d<16)→apL f (ofBE ds) acc=(ds.dropWhile (· == 0)).map letter++acc
 | 0,ds,f,acc,h,_,_=>by
  have:ds=[]:=List.length_eq_zero_iff.mp h
  subst this; exact apL_zero f acc
 | n+1,ds,f,acc,h,hf,hd=>by
  by_cases hz:ofBE ds=0
  ·rw [hz,apL_zero,dw_zero ((ofBE_zero _ _ h).mp hz)]; rfl
  ·obtain ⟨q,x,rfl⟩:∃ q x,ds=q++[x]:=⟨ds.dropLast,ds.getLast (fun e=>by rw [e] at h; cases h),(List.dropLast_concat_getLast _).symm⟩
   obtain ⟨f',rfl⟩:∃ f',f=f'+1:=⟨f - 1,by lia⟩
   have hx:x<16:=hd x (by simp)
   have hq:q.length=n:=by simpa using h
   rw [ofBE_snoc] at hz ⊢
   rw [apL,if_neg hz,show (16*ofBE q+x) / 16=ofBE q by lia,show (16*ofBE q+x) % 16=x by lia,apL_be n q f' _ hq (by lia) fun d hd'=>hd d (List.mem_append_left _ hd')]
   by_cases hqz:∀ d∈q,d=0
   ·have h0:=(ofBE_zero _ q hq).mpr hqz
    have hx0:x≠0:=by lia
    have e:(q++[x]).dropWhile (· == 0)=[x]:=by
     clear h hd hz h0 hq
     induction q with
     | nil=>rw [List.nil_append,List.dropWhile_cons,if_neg (by simpa using hx0)]
     | cons a r ih=>rw [List.cons_append,List.dropWhile_cons,if_pos (by rw [hqz a (.head _)]; rfl),ih fun d hd=>hqz d (.tail _ hd)]
    rw [e,dw_zero hqz]; rfl
   ·rw [dw_snoc x hqz]; simp
theorem dw_map (ds:List Nat):(ds.map (65 + ·)).dropWhile (· == 65)=(ds.dropWhile (· == 0)).map (65 + ·):=by
 induction ds with
 | nil=>rfl
 | cons a r ih =>
  rw [List.map_cons,List.dropWhile_cons,List.dropWhile_cons]
  by_cases ha:a=0
  ·rw [if_pos (by rw [ha]; rfl),if_pos (by rw [ha]; rfl),ih]
  ·rw [if_neg (by simpa using ha),if_neg (by simpa using ha)]; rfl
theorem goes_A (c:Nat):(Str.ofString "A").cps.contains c=(c==65):=by
 have:(Str.ofString "A").cps = #[65]:=by decide +kernel
 rw [this]
 cases h:(c==65) with
 | true=>rw [beq_iff_eq.mp h]; decide +kernel
 | false =>
  have:=beq_eq_false_iff_ne.mp h
  simp [this]
theorem drop_tw (p:Nat→Bool):∀ l:List Nat,l.drop (l.takeWhile p).length=l.dropWhile p
 | []=>rfl
 | a::r=>by
  rw [List.takeWhile_cons,List.dropWhile_cons]
  split
  ·rw [List.length_cons,List.drop_succ_cons,drop_tw p r]
  ·rfl
theorem lstrip_A (x:Str):tl (stripS true false x (Str.ofString "A"))=(tl x).dropWhile (· == 65):=by
 have hg:(Str.ofString "A").cps.contains=(· == 65):=funext goes_A
 have hd:=drop_tw (· == 65) (tl x)
 unfold stripS stripSame PySem.stripped
 rw [hg]
 have hlo:stripLo (· == 65) true x=((tl x).takeWhile (· == 65)).length:=by unfold stripLo; rw [if_pos rfl]; rfl
 have hhi:∀ lo,stripHi (· == 65) false x lo=x.length:=fun lo=>by unfold stripHi; rw [if_neg Bool.false_ne_true]
 rw [hlo,hhi]
 split
 ·rename_i h
  simp only [beq_self_eq_true,Bool.and_true,beq_iff_eq] at h
  rw [h,List.drop_zero] at hd
  exact hd
 ·rw [← hd]
  unfold tl
  show (x.cps.extract _ _).toList=_
  rw [Array.toList_extract,List.extract_eq_take_drop]
  refine List.take_of_length_le ?_
  rw [List.length_drop]
  have:x.cps.toList.length=x.length:=by simp; rfl
  lia
theorem let_ok {fs hs:List Int}{k:Nat}(hn:hs.length≤6) (hf:fs.length≤6) (h:k=ofBE (hs.map fun f=>fs.count f)):apS k=stripS true false (letL fs hs) (Str.ofString "A"):=by
 have hd:∀ d∈hs.map (fun f=>fs.count f),d<16:=fun d hd=>by
  obtain ⟨f,_,rfl⟩:=List.mem_map.mp hd
  exact Nat.lt_of_le_of_lt (Nat.le_trans List.count_le_length hf) (by decide)
 refine tl_inj ?_
 rw [lstrip_A]
 have e1:tl (letL fs hs)=(hs.map fun f=>fs.count f).map (65 + ·):=by
  unfold letL
  rw [tl_join,List.map_map,List.map_map]
  clear h hd hn
  induction hs with
  | nil=>rfl
  | cons a r ih=>rw [List.map_cons,List.flatten_cons,ih]; rfl
 rw [e1,dw_map,h]
 have e2:=apL_be _ (hs.map fun f=>fs.count f) 200 [] (List.length_map ..) (Nat.le_trans hn (by decide)) hd
 unfold apS textOf apB tl
 rw [e2,List.append_nil]
 simp only [List.map_toArray,List.map_map]
 refine List.map_congr_left fun d hd'=>letter_nat (hd d ((List.dropWhile_sublist _).subset hd'))
noncomputable def cnts (wd:Nat) (nums:List (Int×Int)):List Nat:=(headsL wd).map fun f=>(nums.map (·.2)).count f
noncomputable def nStep (wd:Nat) (nums:List (Int×Int)) (z:Nat):List (Int×Int):=nums.map fun q=>stepZ (wd:Int) q (z:Int)
noncomputable def nums0 (wd:Nat):List (Int×Int):=(headsL wd).map fun j=>((0:Int),j)
noncomputable abbrev TokC (width held z h' b':Nat):Prop:=1≤z∧z≤width∧width≤20∧held<2 ^ 140∧h'<2 ^ 140∧b'<2 ^ 60∧(fillsOf width (ds4 h')).length≤900∧(tFills width (h',b')).length≤900∧(ds4 h').length≤900∧∀ d∈ds4 h',d≤900
theorem TOk.of {width held z h' b':Nat}(h:TokC width held z h' b'):TOk width held z h' b':=⟨h.1,h.2.1,h.2.2.1,h.2.2.2.1,h.2.2.2.2.1,h.2.2.2.2.2.1,h.2.2.2.2.2.2.1,h.2.2.2.2.2.2.2.1,h.2.2.2.2.2.2.2.2.1,h.2.2.2.2.2.2.2.2.2⟩
noncomputable def oneChk (wd:Nat) (b2:Bool) (held begun z:Nat) (nums:List (Int×Int)):Bool :=
 decide (TokC wd held z (tHeld wd held z) (begun+tFresh held z))&&(tHeld wd held z==ofBE (cnts wd (nStep wd nums z)))&&(!b2||nStep wd nums z==stL wd (tHeld wd held z,begun+tFresh held z))
noncomputable def runChk (wd:Nat) (b2:Bool) (al:Nat→Bool→Bool) (zs:List Nat):Nat→Nat→Nat→List (Int×Int)→Bool :=
 zs.rec (fun _ _ _ _=>true) fun z _ ih p held begun nums=>oneChk wd b2 held begun z nums&&al p (alikeB ((nStep wd nums z).map (·.2)))&&ih (p+1) (tHeld wd held z) (begun+tFresh held z) (nStep wd nums z)
noncomputable def tree (wd:Nat) (d:Nat):Nat→Nat→List (Int×Int)→Bool :=
 d.rec (fun _ _ _=>true) fun _ ih held begun nums=>(List.range wd).all fun z=>oneChk wd true held begun (z+1) nums&&ih (tHeld wd held (z+1)) (begun+tFresh held (z+1)) (nStep wd nums (z+1))
noncomputable def tree2 (wd:Nat) (menu:List Nat) (d:Nat):List (Int×Int)→Bool :=
 d.rec (fun _=>true) fun _ ih nums=>menu.all fun z => !alikeB ((nStep wd nums z).map (·.2))&&ih (nStep wd nums z)
noncomputable def menuChk (wd:Nat) (menu:List Nat):Bool:=(shortP wd menu).elim false fun o=>o.elim (tree2 wd menu 3 (nums0 wd)) fun t =>
 decide (1≤t.length∧t.length≤30)&&(t.all fun z=>decide (1≤z∧z≤wd))&&runChk wd false (fun p al=>al==decide (p+1=t.length)) t 0 (tStart wd) 0 (nums0 wd)&&tree2 wd menu (min 3 (t.length - 1)) (nums0 wd)
noncomputable abbrev br (wd z:Nat):Bool:=oneChk wd true (tStart wd) 0 (z+1) (nums0 wd)&&tree wd 3 (tHeld wd (tStart wd) (z+1)) (0+tFresh (tStart wd) (z+1)) (nStep wd (nums0 wd) (z+1))
theorem tree_br {wd:Nat}(h:∀ z∈List.range wd,br wd z=true):tree wd 4 (tStart wd) 0 (nums0 wd)=true:=List.all_eq_true.mpr h
theorem b30:br 3 0=true:=by decide +kernel
theorem b31:br 3 1=true:=by decide +kernel
theorem b32:br 3 2=true:=by decide +kernel
theorem b40:br 4 0=true:=by decide +kernel
theorem b41:br 4 1=true:=by decide +kernel
theorem b42:br 4 2=true:=by decide +kernel
theorem b43:br 4 3=true:=by decide +kernel
theorem b50:br 5 0=true:=by decide +kernel
theorem b51:br 5 1=true:=by decide +kernel
theorem b52:br 5 2=true:=by decide +kernel
theorem b53:br 5 3=true:=by decide +kernel
theorem b54:br 5 4=true:=by decide +kernel
theorem trees:tree 3 4 (tStart 3) 0 (nums0 3)=true∧tree 4 4 (tStart 4) 0 (nums0 4)=true∧tree 5 4 (tStart 5) 0 (nums0 5)=true :=
 ⟨tree_br (show ∀ z∈([0,1,2]:List Nat),br 3 z=true from List.forall_mem_cons.mpr ⟨b30,List.forall_mem_cons.mpr ⟨b31,List.forall_mem_singleton.mpr b32⟩⟩),tree_br (show ∀ z∈([0,1,2,3]:List Nat),br 4 z=true from List.forall_mem_cons.mpr ⟨b40,List.forall_mem_cons.mpr ⟨b41,List.forall_mem_cons.mpr ⟨b42,List.forall_mem_singleton.mpr b43⟩⟩⟩),tree_br (show ∀ z∈([0,1,2,3,4]:List Nat),br 5 z=true from List.forall_mem_cons.mpr ⟨b50,List.forall_mem_cons.mpr ⟨b51,List.forall_mem_cons.mpr ⟨b52,List.forall_mem_cons.mpr ⟨b53,List.forall_mem_singleton.mpr b54⟩⟩⟩⟩)⟩
noncomputable def menusOf (wd:Nat):List (List Nat):=((List.range (2 ^ wd)).map fun m=>(List.range wd).filterMap fun i=>if m / 2 ^ i % 2=1 then some (i+1) else none).filter fun l=>decide (1≤l.length∧l.length≤3)
noncomputable def menusChk (wd:Nat):Bool:=(menusOf wd).all fun m=>menuChk wd m&&m.all fun z=>decide (1≤z∧z≤wd)
noncomputable def inMenus (wd:Nat):Bool:=(List.range wd).all fun a=>(List.range wd).all fun b=>(List.range wd).all fun c=>(menusOf wd).contains ((menuL [((a+1:Nat):Int),((b+1:Nat):Int),((c+1:Nat):Int)]).map Int.toNat)
theorem menus:(menusChk 3=true∧menusChk 4=true∧menusChk 5=true)∧inMenus 3=true∧inMenus 4=true∧inMenus 5=true:=by decide +kernel
section
noncomputable def numsAt (wd:Nat) (zs:List Nat) (nums:List (Int×Int)) (p:Nat):List (Int×Int):=nums.map fun q=>(zSts (wd:Int) (zs.map fun z:Nat=>(z:Int)) q).getD p (0,0)
structure PtOk (wd:Nat) (b2:Bool) (al:Nat→Bool→Bool) (k:Nat) (h:Nat×Nat) (N:List (Int×Int)):Prop where
 o:h.1=ofBE (cnts wd N)
 s:b2=true→N=stL wd h
 a:al k (alikeB (N.map (·.2)))=true
 l:h.1<2 ^ 140
section
variable {wd:Nat}{b2:Bool}{al:Nat→Bool→Bool}{zs:List Nat}
theorem numsAt_succ {z p:Nat}{nums:List (Int×Int)}:numsAt wd (z::zs) nums (p+1)=numsAt wd zs (nStep wd nums z) p:=(List.map_map (f:=fun q=>stepZ (wd:Int) q (z:Int)) (g:=fun q=>(zSts (wd:Int) (zs.map fun z:Nat=>(z:Int)) q).getD p (0,0))).symm
theorem run_facts:∀ {p0 held begun:Nat}{nums:List (Int×Int)},runChk wd b2 al zs p0 held begun nums=true→toldOk wd zs held begun∧∀ p h,(toldS wd zs held begun)[p]?=some h→PtOk wd b2 al (p0+p) h (numsAt wd zs nums p):=by
 induction zs with
 | nil=>exact fun _=>⟨trivial,fun p h e=>nomatch e⟩
 | cons z zs ih =>
  intro p0 held begun nums h
  have h:=Bool.and_eq_true_iff.mp h
  have h1:=Bool.and_eq_true_iff.mp h.1
  have h2:=Bool.and_eq_true_iff.mp h1.1
  have h3:=Bool.and_eq_true_iff.mp h2.1
  have t:=TOk.of (of_decide_eq_true h3.1)
  have q:=ih h.2
  refine ⟨⟨t,q.1⟩,fun p x e=>?_⟩
  cases p with
  | zero =>
   cases Option.some.inj e
   exact ⟨eq_of_beq h3.2,fun hb=>eq_of_beq ((Bool.or_eq_true_iff.mp h2.2).resolve_left (by rw [hb]; decide)),h1.2,t.lh'⟩
  | succ p =>
   rw [numsAt_succ, ← Nat.add_assoc,Nat.add_right_comm]
   exact q.2 p x e
end
end
section
section
variable {wd:Nat}{r:List (Int×Int)}{p:Int×Int}{menu zs:List Nat}
theorem word_lets (h:szOk p):lets (wordOf p):=fun c hc=>by
 unfold tl at hc
 rw [word_cps h] at hc
 obtain ⟨d,hd,rfl⟩:=List.mem_map.mp hc
 have:=digs_lt 4 _ _ d (List.mem_reverse.mp hd)
 have h16:(2:Nat) ^ 4=16:=by decide
 omega
theorem z_word (h:szOk p):zOf (wordOf p)=((wn p+1:Nat):Int):=by
 rw [zOf,word_len h,Int.natCast_add,Int.add_comm]; rfl
theorem z_words (hr:∀ p∈r,szOk p):(wsL r).map zOf=(zsR r).map fun z:Nat=>(z:Int):=by
 rw [List.map_map,List.map_map]
 exact List.map_congr_left fun p hp=>z_word (hr p hp)
theorem z_le (hr:∀ p∈r,szOk p) (hw:∀ z∈zsR r,z≤wd):∀ w∈wsL r,zOf w≤(wd:Int):=fun w hw'=>by
 obtain ⟨q,hq,rfl⟩:=List.mem_map.mp hw'
 exact z_word (hr q hq)▸Int.ofNat_le.mpr (hw _ (List.mem_map.mpr ⟨q,hq,rfl⟩))
theorem num_at (hr:∀ p∈r,szOk p) (hw:∀ z∈zsR r,z≤wd) {k:Nat}(hk:k<r.length) {j:Int}:numAt wd (wsL r) k j=(zSts (wd:Int) ((zsR r).map fun z:Nat=>(z:Int)) (0,accLen [] j)).getD k (0,0):=by
 have hl:k<(jSts wd (wsL r) j).length:=by rw [pgSts_len,List.length_map]; exact hk
 rw [← z_words hr, ← show _=zSts (wd:Int) ((wsL r).map zOf) (0,accLen [] j) from sts_num (head:=j) (k:=0) (st:=([],[],j)) (z_le hr hw),numAt,List.getD_eq_getElem?_getD,List.getD_eq_getElem?_getD,List.getElem?_map,List.getElem?_eq_getElem hl]
 rfl
end
end
section
section
variable {wd:Nat}{r:List (Int×Int)}{menu zs:List Nat}{nums:List (Int×Int)}
theorem nums_at (hr:∀ p∈r,szOk p) (hw:∀ z∈zsR r,z≤wd) {k:Nat}(hk:k<r.length):(headsL wd).map (numAt wd (wsL r) k)=numsAt wd (zsR r) (nums0 wd) k :=
 (List.map_congr_left fun j _=>(num_at hr hw hk).trans (by rw [show accLen [] j=j from Int.add_zero j]; rfl)).trans (List.map_map (f:=fun j:Int=>((0:Int),j)) (g:=fun q=>(zSts (wd:Int) ((zsR r).map fun z:Nat=>(z:Int)) q).getD k (0,0))).symm
theorem tree_run:∀ {d p held begun:Nat}{nums:List (Int×Int)},tree wd d held begun nums=true→zs.length=d→(∀ z∈zs,1≤z∧z≤wd)→runChk wd true (fun _ _=>true) zs p held begun nums=true:=by
 induction zs with
 | nil=>exact fun _ _ _=>rfl
 | cons z zs ih =>
  intro d p held begun nums h hl hz
  subst hl
  have hz1:=hz z (.head _)
  obtain ⟨y,rfl⟩:∃ y,z=y+1:=⟨z - 1,(Nat.sub_add_cancel hz1.1).symm⟩
  have t:=Bool.and_eq_true_iff.mp (List.all_eq_true.mp h y (List.mem_range.mpr hz1.2))
  exact Bool.and_eq_true_iff.mpr ⟨Bool.and_eq_true_iff.mpr ⟨t.1,rfl⟩,ih t.2 rfl fun z hz'=>hz z (.tail _ hz')⟩
end
end
section
section
variable {wd:Nat}{menu zs:List Nat}
theorem tree2_facts:∀ {d p:Nat}{nums:List (Int×Int)},tree2 wd menu d nums=true→(∀ i z,i<d→zs[i]?=some z→z∈menu)→p<d→p<zs.length→alikeB ((numsAt wd zs nums p).map (·.2))=false:=by
 induction zs with
 | nil=>exact fun _ _ _ h=>absurd h (Nat.not_lt_zero _)
 | cons z zs ih =>
  intro d p nums h hm hp hl
  cases d with
  | zero=>exact absurd hp (Nat.not_lt_zero _)
  | succ d =>
   have t:=Bool.and_eq_true_iff.mp (List.all_eq_true.mp h z (hm 0 z (Nat.succ_pos _) rfl))
   cases p with
   | zero=>exact (Bool.not_eq_true' _).mp t.1
   | succ p =>
    rw [numsAt_succ]
    exact ih t.2 (fun i z hi hz=>hm (i+1) z (Nat.succ_lt_succ hi) hz) (Nat.lt_of_succ_lt_succ hp) (Nat.lt_of_succ_lt_succ hl)
end
end
section
section
variable {wd j k p:Nat}{mx head:Int}{r:List (Int×Int)}{zs:List Int}{q:Int×Int}{ws:List Str}{wl:Str}{st:Pst}{ts:List (Nat×Nat)}
theorem zSts_len:∀ {q:Int×Int},(zSts mx zs q).length=zs.length:=by
 induction zs with
 | nil=>exact rfl
 | cons z zs ih=>exact congrArg (· + 1) ih
theorem sts_last:∀ {k:Nat}{st:Pst},pgSts mx head (ws++[wl]) k st=pgSts mx head ws k st++[pgEnd mx head (ws++[wl]) k st]:=by
 induction ws with
 | nil=>exact rfl
 | cons w ws ih=>exact congrArg (_ :: ·) ih
theorem at_head (hj:j<wd+1) {zs:List Nat}:(numsAt wd zs (nums0 wd) p).getD j (0,0)=(zSts (wd:Int) (zs.map fun z:Nat=>(z:Int)) (0,(j:Int))).getD p (0,0):=by
 unfold numsAt nums0
 rw [List.getD_eq_getElem?_getD,List.getElem?_map,List.getElem?_map,List.getElem?_map,List.getElem?_range hj]
 rfl
theorem col_told (hN:∀ p h,ts[p]?=some h→numsAt wd (zsR r) (nums0 wd) p=stL wd h) (ht:ts.length=r.length) (hj:j<wd+1):colL wd ts j=zSts (wd:Int) ((zsR r).map fun z:Nat=>(z:Int)) (0,(j:Int)):=by
 have hl:(colL wd ts j).length=(zSts (wd:Int) ((zsR r).map fun z:Nat=>(z:Int)) (0,(j:Int))).length:=by rw [colL,List.length_map,zSts_len,List.length_map,List.length_map,ht]
 refine List.ext_getElem hl fun p h1 h2=>?_
 have hp:p<ts.length:=by rwa [colL,List.length_map] at h1
 have e:=at_head (p:=p) hj (zs:=zsR r)
 rw [hN p _ (List.getElem?_eq_getElem hp),List.getD_eq_getElem?_getD (l:=zSts ..),List.getElem?_eq_getElem h2] at e
 exact (List.getElem_map ..).trans e
theorem col_end (hz:∀ w∈ws++[wl],zOf w≤(wd:Int)):zSts (wd:Int) ((ws++[wl]).map zOf) (0,(j:Int))=(jSts wd ws j).map stN++[(((endS wd (ws++[wl]) j).1.length:Int),accLen (endS wd (ws++[wl]) j).2.1 (endS wd (ws++[wl]) j).2.2)] :=
 have h0:stN ([],[],(j:Int))=(0,(j:Int)):=congrArg (Prod.mk 0) (Int.add_zero _)
 (h0▸(sts_num (head:=(j:Int)) (k:=0) (st:=([],[],(j:Int))) hz).symm).trans ((congrArg (List.map stN) sts_last).trans List.map_append)
theorem tx_ok (hr:∀ p∈r,szOk p) (hw:∀ z∈zsR r,z≤wd) (hl:r.length≤6) (hne:r≠[]) (hN:∀ p h,ts[p]?=some h→numsAt wd (zsR r) (nums0 wd) p=stL wd h) (ht:ts.length=r.length) (hj:j<wd+1) (hj2:j≤1000):TxOk wd (wsL r) ts j:=by
 have sm:=pgEnd_small (mx:=(wd:Int)) (head:=(j:Int)) (k:=0) (c:=0) (st:=([],[],(j:Int))) ⟨Nat.le_refl _,fun _ h=>(List.not_mem_nil h).elim,⟨Int.natCast_nonneg _,Int.ofNat_le.mpr hj2⟩,Nat.le_refl _,fun _ h=>(List.not_mem_nil h).elim⟩ (ws_ok hr)
 have sm:=sm.up (c':=12) (by rw [List.length_map]; omega)
 have hz:=z_le hr hw
 have hl:∀ w∈wsL r,lets w:=fun w hw'=>(List.mem_map.mp hw').elim fun q hq=>hq.2▸word_lets (hr q hq.1)
 have zw:=z_words hr
 have col:=col_told hN ht hj
 rcases List.eq_nil_or_concat r with rfl | ⟨r0,p,rfl⟩
 ·exact (hne rfl).elim
 have ew:wsL (r0.concat p)=wsL r0++[wordOf p]:=by rw [List.concat_eq_append]; exact List.map_append
 rw [← zw] at col
 rw [ew] at hz hl sm col ⊢
 have e:=col.trans (col_end hz)
 have t:=text_page hz hl col rfl rfl
 rw [e] at t
 refine .mk _ _ _ _ _ _ rfl e (Nat.le_trans sm.l (by decide)) t.1 (Nat.le_trans (accText_le (popped_p sm.p)) (Nat.le_trans (Nat.mul_le_mul_left 18 (popped_n sm.n)) (by decide))) t.2 fun h hh=>?_
 obtain ⟨p,hp⟩:=List.getElem?_of_mem hh
 rw [← hN p h hp,numsAt,nums0,List.length_map,List.length_map,heads_len]
 exact hj
end
end
section
section
variable {c:Nat→Int}{ls:Option (List Nat)}{turn wd p:Nat}{r:List (Int×Int)}{b2:Bool}{al:Nat→Bool→Bool}
theorem fills_at (hr:∀ p∈r,szOk p) (hw:∀ z∈zsR r,z≤wd) (hp:p<r.length):fillsL wd (wsL r) (headsL wd) p=(numsAt wd (zsR r) (nums0 wd) p).map (·.2) :=
 (List.map_map (f:=numAt wd (wsL r) p) (g:=fun q:Int×Int=>q.2)).symm.trans (congrArg (List.map _) (nums_at hr hw hp))
theorem pl_ok {h:Nat×Nat}(hwd:wd≤5) (hr:∀ p∈r,szOk p) (hw:∀ z∈zsR r,z≤wd) (hp:p<r.length) (P:PtOk wd b2 al p h (numsAt wd (zsR r) (nums0 wd) p)) (hb:al p (alikeB (fillsL wd (wsL r) (headsL wd) p))=true→badB ls turn r.length p (fillsL wd (wsL r) (headsL wd) p)=false) (h0:turn=0→b2=true):PlOk wd wd ls turn r.length (wsL r) h p where
 bad:=hb (fills_at hr hw hp▸P.a)
 let_:=let_ok (by rw [heads_len]; omega) (by rw [fillsL,List.length_map,heads_len]; omega) (P.o.trans (by rw [cnts,fills_at hr hw hp]))
 num:=fun e=>(nums_at hr hw hp).trans (P.s (h0 e))
 lt:=P.l
theorem run_ok (hr:∀ p∈r,szOk p) (hw:∀ z∈zsR r,z≤wdN c) (hl:r.length≤200) (hne:r≠[]) (ht:turn≤1) (hls:∀ l,ls=some l→l.length≤900) (hrun:runChk (wdN c) b2 al (zsR r) 0 (tStart (wdN c)) 0 (nums0 (wdN c))=true)
  (hb:∀ p,p<r.length→al p (alikeB (fillsL (wdN c) (wsL r) (headsL (wdN c)) p))=true→badB ls turn r.length p (fillsL (wdN c) (wsL r) (headsL (wdN c)) p)=false) (h0:turn=0→b2=true∧r.length≤6):RunOk c ls turn r:=by
 have F:=run_facts hrun
 have at_:∀ p h,(toldR c r)[p]?=some h→p<r.length∧PtOk (wdN c) b2 al p h (numsAt (wdN c) (zsR r) (nums0 (wdN c)) p):=fun p h e=>⟨(toldR_len (c:=c)).symm▸(List.getElem?_eq_some_iff.mp e).1,(congrArg (fun k=>PtOk (wdN c) b2 al k h (numsAt (wdN c) (zsR r) (nums0 (wdN c)) p)) (Nat.zero_add p)).mp (F.2 p h e)⟩
 exact ⟨hr,hl,hne,ht,hls,F.1,fun p h e=>pl_ok (wd_bd c).2 hr hw (at_ p h e).1 (at_ p h e).2 (hb p (at_ p h e).1) fun e=>(h0 e).1,fun e=>⟨Nat.le_trans (h0 e).2 (by decide),fun j hj=>tx_ok hr hw (h0 e).2 hne (fun p h e'=>(at_ p h e').2.s (h0 e).1) toldR_len hj (by have:=(wd_bd c).2; omega)⟩⟩
end
end
section
section
variable {c:Nat→Int}{x:Int}{ls:Option (List Nat)}{t:List Nat}{p:Nat}
theorem all_chk (c:Nat→Int):tree (wdN c) 4 (tStart (wdN c)) 0 (nums0 (wdN c))=true∧menusChk (wdN c)=true∧inMenus (wdN c)=true:=by
 rcases wd_three c with h | h | h <;> rw [h]
 ·exact ⟨trees.1,menus.1.1,menus.2.1⟩
 ·exact ⟨trees.2.1,menus.1.2.1,menus.2.2.1⟩
 ·exact ⟨trees.2.2,menus.1.2.2,menus.2.2.2⟩
theorem mn_nat (c:Nat→Int) (x:Int):∃ a,a<wdN c∧1+x.fmod (wdN c)=((a+1:Nat):Int):=by
 have h:=mn_in c x
 obtain ⟨a,e⟩:=Int.eq_ofNat_of_zero_le (show 0≤x.fmod (wdN c) by omega)
 exact ⟨a,by rw [e] at h; omega,by rw [e]; omega⟩
theorem menu_in (c:Nat→Int):mnN c∈menusOf (wdN c):=by
 obtain ⟨a1,l1,e1⟩:=mn_nat c (c 1)
 obtain ⟨a2,l2,e2⟩:=mn_nat c (c 2)
 obtain ⟨a3,l3,e3⟩:=mn_nat c (c 3)
 have h:=List.all_eq_true.mp (List.all_eq_true.mp (List.all_eq_true.mp (all_chk c).2.2 a1 (List.mem_range.mpr l1)) a2 (List.mem_range.mpr l2)) a3 (List.mem_range.mpr l3)
 rw [← e1, ← e2, ← e3] at h
 exact List.contains_iff_mem.mp h
structure MnOk (c:Nat→Int):Prop where
 k:menuChk (wdN c) (mnN c)=true
 z:∀ z∈mnN c,1≤z∧z≤wdN c
theorem mn_ok (c:Nat→Int):MnOk c :=
 have h:=Bool.and_eq_true_iff.mp (List.all_eq_true.mp (all_chk c).2.1 _ (menu_in c))
 ⟨h.1,fun z hz=>of_decide_eq_true (List.all_eq_true.mp h.2 z hz)⟩
theorem dr_mem:(drP (mnL c) x).1∈mnL c:=by
 have hp:(0:Int)<(mnL c).length:=Int.ofNat_lt.mpr (mnL_pos c)
 have h1:=Int.fmod_nonneg_of_pos x hp
 have h2:=Int.fmod_lt_of_pos x hp
 have hi:(x.fmod (mnL c).length).toNat<(mnL c).length:=by omega
 show (mnL c).getD _ 0∈_
 rw [List.getD_eq_getElem?_getD,List.getElem?_eq_getElem hi]
 exact List.getElem_mem hi
structure SzIn (c:Nat→Int) (q:Int×Int):Prop where
 s:szOk q
 w:wn q+1≤wdN c
theorem sz_in {q:Int×Int}(h:1≤q.1∧q.1≤wdN c):SzIn c q:=⟨⟨h.1,Int.le_trans h.2 (Int.ofNat_le.mpr (wd_bd c).2)⟩,by unfold wn; omega⟩
theorem dr_size:wn (drP (mnL c) x)+1∈mnN c:=by
 have h:=(mnL_good c).1.ok.bd _ (dr_mem (x:=x))
 exact (show wn (drP (mnL c) x)+1=(drP (mnL c) x).1.toNat by unfold wn; omega)▸List.mem_map.mpr ⟨_,dr_mem,rfl⟩
theorem dr_in:SzIn c (drP (mnL c) x):=⟨(mnL_good c).1.ok.bd _ dr_mem,((mn_ok c).z _ dr_size).2⟩
theorem drawn_in:∀ q∈drawnL c,SzIn c q:=fun q hq=>by
 rcases List.mem_cons.mp hq with rfl | hq
 ·exact dr_in
 rcases List.mem_cons.mp hq with rfl | hq
 ·exact dr_in
 rcases List.mem_cons.mp hq with rfl | hq
 ·exact dr_in
 rcases List.mem_singleton.mp hq with rfl
 exact sz_in (mn_in c _)
theorem zs_in {r:List (Int×Int)}(h:∀ q∈r,SzIn c q):∀ z∈zsR r,z≤wdN c:=fun z hz=>(List.mem_map.mp hz).elim fun q e=>e.2▸(h q e.1).w
theorem drawn_menu {i z:Nat}(hi:i<3) (e:(zsR (drawnL c))[i]?=some z):z∈mnN c:=by
 match i,hi with
 | 0,_=>exact Option.some.inj e▸dr_size
 | 1,_=>exact Option.some.inj e▸dr_size
 | 2,_=>exact Option.some.inj e▸dr_size
theorem drawn_ok (hls:∀ l,ls=some l→l.length≤900) (h:∀ p,p<3→alikeB ((numsAt (wdN c) (zsR (drawnL c)) (nums0 (wdN c)) p).map (·.2))=true→dueB ls p=true):RunOk c ls 0 (drawnL c):=by
 have hr:∀ q∈drawnL c,szOk q:=fun q hq=>(drawn_in q hq).s
 have hw:=zs_in (drawn_in (c:=c))
 refine run_ok hr hw (show (4:Nat)≤200 by decide) (List.cons_ne_nil _ _) (Nat.zero_le _) hls (tree_run (all_chk c).1 rfl fun z hz=>⟨(List.mem_map.mp hz).elim fun q e=>e.2▸Nat.succ_pos _,hw z hz⟩) (fun p hp _=>?_) fun _=>⟨rfl,show (4:Nat)≤6 by decide⟩
 rw [fills_at hr hw hp]
 have h:=h p
 unfold badB
 cases ha:alikeB ((numsAt (wdN c) (zsR (drawnL c)) (nums0 (wdN c)) p).map (·.2)) with
 | false=>rfl
 | true =>
  by_cases h3:p<3
  ·rw [h h3 ha]; rfl
  ·rw [decide_eq_false (p:=(p:Int)<3+((0:Nat):Int)*_) (by rw [Int.natCast_zero,Int.zero_mul]; omega),Bool.false_and,Bool.and_false,Bool.and_false]; rfl
theorem not_alike {m:Nat}(h:tree2 (wdN c) (mnN c) m (nums0 (wdN c))=true) (hm:m≤3) (hp:p<m):¬ alikeB ((numsAt (wdN c) (zsR (drawnL c)) (nums0 (wdN c)) p).map (·.2))=true :=
 fun e=>Bool.noConfusion ((tree2_facts h (fun i z hi=>drawn_menu (Nat.lt_of_lt_of_le hi hm)) hp (Nat.lt_of_lt_of_le hp (Nat.le_trans hm (show (3:Nat)≤4 by decide)))).symm.trans e)
end
end
section
section
variable {c:Nat→Int}{t:List Nat}
theorem short_ok (h1:1≤t.length∧t.length≤30) (h2:∀ z∈t,1≤z∧z≤wdN c) (h3:runChk (wdN c) false (fun p al=>al==decide (p+1=t.length)) t 0 (tStart (wdN c)) 0 (nums0 (wdN c))=true):RunOk c (some t) 1 (shortRun c t):=by
 have hl:(shortRun c t).length=t.length:=(List.length_map ..).trans List.length_zipIdx
 have hi:∀ q∈shortRun c t,SzIn c q:=fun q hq=>by
  obtain ⟨p,hp,rfl⟩:=List.mem_map.mp hq
  have:=h2 p.1 (List.zipIdx_map_fst 0 t▸List.mem_map.mpr ⟨p,hp,rfl⟩)
  exact sz_in ⟨Int.ofNat_le.mpr this.1,Int.ofNat_le.mpr this.2⟩
 have hz:zsR (shortRun c t)=t:=by
  refine (List.map_map ..).trans (Eq.trans (List.map_congr_left fun p hp=>?_) (List.zipIdx_map_fst 0 t))
  have:=h2 p.1 (List.zipIdx_map_fst 0 t▸List.mem_map.mpr ⟨p,hp,rfl⟩)
  show ((p.1:Int) - 1).toNat+1=p.1
  omega
 refine run_ok (al:=fun p al=>al==decide (p+1=t.length)) (fun q hq=>(hi q hq).s) (zs_in hi) (by omega) (fun e=>by rw [e] at hl; exact absurd hl (by show ¬ 0=_; omega)) (Nat.le_refl _) (fun l e=>Option.some.inj e▸Nat.le_trans h1.2 (by decide)) (by rw [hz]; exact h3) (fun p hp ha=>?_) fun e=>nomatch e
 have ha:=eq_of_beq ha
 have hd:dueB (some t) p=decide (p+1=t.length):=decide_eq_decide.mpr (by omega)
 unfold badB
 rw [ha,hd]
 cases decide (p+1=t.length) <;> rfl
theorem plain01 (c:Nat→Int):∃ ls,shortP (wdN c) (mnN c)=some ls∧(∀ t,ls=some t→t.length≤900)∧∀ p∈(runsL c ls).zipIdx,RunOk c ls p.2 p.1:=by
 have k:=(mn_ok c).k
 unfold menuChk at k
 cases e:shortP (wdN c) (mnN c) with
 | none=>rw [e] at k; exact Bool.noConfusion k
 | some o =>
  rw [e] at k
  cases o with
  | none =>
   have k:tree2 (wdN c) (mnN c) 3 (nums0 (wdN c))=true:=k
   have hn:∀ t,(none:Option (List Nat))=some t→t.length≤900:=fun t h=>nomatch h
   exact ⟨none,rfl,hn,fun p hp=>List.mem_singleton.mp hp▸drawn_ok hn fun p hp ha=>(not_alike k (Nat.le_refl _) hp ha).elim⟩
  | some t =>
   have k:=Bool.and_eq_true_iff.mp k
   have k1:=Bool.and_eq_true_iff.mp k.1
   have k2:=Bool.and_eq_true_iff.mp k1.1
   have h1:=of_decide_eq_true k2.1
   have hn:∀ l,some t=some l→l.length≤900:=fun l e=>Option.some.inj e▸Nat.le_trans h1.2 (by decide)
   refine ⟨some t,rfl,hn,fun p hp=>(List.mem_cons.mp hp).elim (fun e=>e▸drawn_ok hn fun p hp ha=>?_) fun hp=>List.mem_singleton.mp hp▸short_ok h1 (fun z hz=>of_decide_eq_true (List.all_eq_true.mp k2.2 z hz)) k1.2⟩
   by_cases hpt:p<min 3 (t.length - 1)
   ·exact (not_alike k.2 (Nat.min_le_left _ _) hpt ha).elim
   ·exact decide_eq_true (by omega)
end
end
section
noncomputable def objK (K:Frag) (a:Addr):Obj:=(K.lookup a).getD default
noncomputable def fdO (o:Obj):FuncData:=match o.data with
 | .func fd=>fd
 | _=>default
noncomputable def vsO (o:Obj):Array Value:=match o.data with
 | .fields vs=>vs
 | _ => #[]
noncomputable def cdO (o:Obj):ClassData:=match o.data with
 | .cls cd=>cd
 | _=>default
noncomputable def adrV (v:Value):Addr:=match v with
 | .ref a=>a
 | _=>0
noncomputable def tokV (v:Value):Tok:=match v with
 | .str _ t=>t
 | _=>default
noncomputable abbrev fdK (K:Frag) (f:Addr):FuncData:=fdO (objK K f)
noncomputable abbrev cdK (K:Frag) (f:Addr):ClassData:=cdO (objK K f)
noncomputable abbrev cvK (K:Frag) (f:Addr):Array Value:=vsO (objK K (adrV (fdK K f).code))
structure FnK (K:Frag) (f:Addr):Prop where
 at_:K.lookup f=some (objK K f)
 dat:(objK K f).data=.func (fdK K f)
 glob:(fdK K f).globals=mainGlobals
 blt:(fdK K f).builtins=builtinsNs
 code:(fdK K f).code=.ref (adrV (fdK K f).code)
 cat:K.lookup (adrV (fdK K f).code)=some (objK K (adrV (fdK K f).code))
 cdat:(objK K (adrV (fdK K f).code)).data=.fields (cvK K f)
 q:((cvK K f)[1]?:Option Value)=some (.str (fdK K f).qualname (tokV ((cvK K f)[1]?.getD .none)))
section
variable {prog:Program}{w:World}{g:Heap}{T:Tabs}{K:Frag}{f:Addr}{mg mb:Str→Option Value}{x:Str}{v:Value}{P:Value→Str→Prop}{sc:Scope}{cl:List (Str×Addr)}{xs:List Str}{body:List Stmt}{o:Obj}{fd:FuncData}
theorem fnO_K (X:K.In g) (lim:g.NoLimit) (h:FnK K f) (hs:(fdK K f).scope=sc) (hb:(fdK K f).body=.stmts body) (hc:(fdK K f).closure=cl) (hbd:∀ vals,vals.length=xs.length→BindO P g (fdK K f) vals (xs.zip vals)) (hp:P (fdK K f).code ((fdK K f).qualname ++ ".<locals>.")):FnO P g f sc cl xs body :=
 ⟨objK K f,fdK K f,X _ _ h.at_,h.dat,hs,hb,hc,h.glob,h.blt,⟨_,_,_,_,h.code,X _ _ h.cat,h.cdat,h.q⟩,hbd,hp,lim⟩
theorem fd_is (X:K.In g) (h:FnK K f) (e:g.get? f=some o) (d:o.data=.func fd):fd=fdK K f:=by
 cases sinj e (X _ _ h.at_)
 cases d.symm.trans h.dat
 rfl
theorem mf_K {C:Addr}{m:Str}{st:Stmt}(fo:FnO P g f (scopeOf st) cl xs (bodyOf st)) (find:findIn K (.ref C) m=some (some (.ref f))) (isf:isFn K (.ref f)=true) (fni:fnIn K f=true) (kee:keepIn K (.ref f)=true) (fs:FnS0 (scopeOf st) xs) (nc:cellNames (scopeOf st).names=[])
  (ce:∀ p∈cl,∃ v,g.IsCell p.2 v) (hfr:((scopeOf st).names.all fun p=>p.2 != .free||(cl.lookup p.1).isSome)=true):MF P K g C m f st cl xs :=
 ⟨find,isf,fni,kee,fo,fs,nc,fun x c e=>ce (x,c) (PySem.mem_of_lookup e),fun x e=>(Bool.or_eq_true_iff.mp (List.all_eq_true.mp hfr (x,.free) (mem_lookup e))).resolve_left (show ¬ (NameKind.free != .free)=true by decide)⟩
theorem supC_K (X:K.In g) (h:FnK K f) (e:((cvK K f)[2]?:Option Value)=some (.str prog.main.file (tokV ((cvK K f)[2]?.getD .none)))) {q:Str}:SupC prog g (fdK K f).code q:=⟨_,_,_,_,_,h.code,X _ _ h.cat,h.cdat,e,beq_self_eq_true _⟩
theorem supP_K (X:K.In g) (h:FnK K f) (e:((fdK K f).params.posonlyargs++(fdK K f).params.args).head?.map (·.arg)=some (Str.ofString "self")):SupP g f:=(Option.map_eq_some_iff.mp e).elim fun ar q=>⟨_,_,ar,X _ _ h.at_,h.dat,q.1,q.2⟩
theorem glb_main (G:g.Ns mainGlobals mg) (hk:okName x=true) (e:mg x=some v):Glb g x v:=.glob hk mg G e
theorem glb_blt (G:g.Ns mainGlobals mg) (H:g.Ns builtinsNs mb) (hk:okName x=true) (e:mg x=none) (e2:mb x=some v):Glb g x v:=.blt hk mg mb G e H e2
theorem all1 {α:Type}{P:List α→Prop}(h:∀ a,P [a]):∀ l:List α,l.length=1→P l:=fun l e=>match l,e with | [a],_=>h a
theorem all2 {α:Type}{P:List α→Prop}(h:∀ a b,P [a,b]):∀ l:List α,l.length=2→P l:=fun l e=>match l,e with | [a,b],_=>h a b
theorem all3 {α:Type}{P:List α→Prop}(h:∀ a b c,P [a,b,c]):∀ l:List α,l.length=3→P l:=fun l e=>match l,e with | [a,b,c],_=>h a b c
theorem all5' {α:Type}{P:List α→Prop}(h:∀ a b c d e,P [a,b,c,d,e]):∀ l:List α,l.length=5→P l:=fun l e=>match l,e with | [a,b,c,d,e],_=>h a b c d e
theorem tab_one:∀ {T:Tabs},(T.map (·.1)).Nodup→∀ {P q q'},(P,q)∈T→(P,q')∈T→q=q':=by
 intro T
 induction T with
 | nil=>exact fun _ _ _ _ h=>nomatch h
 | cons t r ih =>
  intro hn P q q' h1 h2
  rw [List.map_cons,List.nodup_cons] at hn
  rcases List.mem_cons.mp h1 with e1 | m1
  ·rcases List.mem_cons.mp h2 with e2 | m2
   ·exact (Prod.mk.inj (e1.trans e2.symm)).2
   ·exact absurd (List.mem_map.mpr ⟨_,m2,e1▸rfl⟩) hn.1
  ·rcases List.mem_cons.mp h2 with e2 | m2
   ·exact absurd (List.mem_map.mpr ⟨_,m1,e2▸rfl⟩) hn.1
   ·exact ih hn.2 m1 m2
theorem maker_K {cv:Value}{c P:Addr}{q:Str}(X:K.In g) (hc:cv=.ref c) (G:g.Ns mainGlobals mg) (e:codeHdIn K c P=true) (B:g.BuiltinsAt mg P) (hm:(P,q)∈T) (hn:(T.map (·.1)).Nodup):MakerOk g T cv q :=
 ⟨mg,c,P,hc,G,codeHd_of_K X e,B,hm,fun P q q' h1 h2=>tab_one hn h1 h2⟩
end
end
section
noncomputable abbrev KH (w:World):Frag:=hk.heap_1 w.params
noncomputable abbrev qof (w:World) (f:Addr) (sub:Str):Str:=(fdK (KH w) f).qualname ++ ".<locals>." ++ sub
noncomputable def TH (w:World):Tabs:=[(198,qof w 203 "inner"),(205,qof w 210 "inner"),(140,qof w 145 "<genexpr>"),(147,qof w 152 "<genexpr>")]
noncomputable abbrev tabA:List Addr:=[198,205,140,147]
structure Grd (w:World) (g:Heap) (mg mb:Str→Option Value):Prop where
 X:(KH w).In g
 lim:g.NoLimit
 G:g.Ns mainGlobals mg
 H:g.Ns builtinsNs mb
 hb:∀ x:Str,x ≠ "__name__" → mb x=bootBuiltins x
 bt:∀ P∈tabA,g.BuiltinsAt mg P
noncomputable def aF (w:World):AccF:=⟨178,cdK (KH w) 178,[(Str.ofString "__class__",102)],115,122,130,138,145,152,160,167,175⟩
noncomputable def bF (w:World):FmtF:=⟨94,cdK (KH w) 94,35,42,56,91⟩
section
variable {w:World}{g:Heap}{mg mb:Str→Option Value}{x:Str}{v:Value}{f P:Addr}{q:Str}{C:Addr}{m:Str}{st:Stmt}{xs:List Str}{Pr:Value→Str→Prop}{cl:List (Str×Addr)}
theorem gm (R:Grd w g mg mb) (h1:okName x=true) (h2:nsIn (KH w) mainGlobals x=some (some v)):Glb g x v:=glb_main R.G h1 (mg_of R.X R.G h2)
theorem gb (R:Grd w g mg mb) (h1:okName x=true) (h2:nsIn (KH w) mainGlobals x=some none) (h3:x ≠ "__name__") (h4:bootBuiltins x=some v):Glb g x v:=glb_blt R.G R.H h1 (mg_none_of R.X R.G h2) ((R.hb x h3).trans h4)
theorem th_nd:((TH w).map (·.1)).Nodup:=show (tabA:List Nat).Nodup by decide
theorem mk_of (R:Grd w g mg mb) (h:FnK (KH w) f) (e:codeHdIn (KH w) (adrV (fdK (KH w) f).code) P=true) (hP:P∈tabA) (hm:(P,q)∈TH w):MakerOk g (TH w) (fdK (KH w) f).code q:=maker_K R.X h.code R.G e (R.bt P hP) hm th_nd
structure MfK (w:World) (C:Addr) (m:Str) (f:Addr) (st:Stmt) (cl:List (Str×Addr)) (xs:List Str):Prop where
 find:findIn (KH w) (.ref C) m=some (some (.ref f))
 isf:isFn (KH w) (.ref f)=true
 fni:fnIn (KH w) f=true
 kee:keepIn (KH w) (.ref f)=true
 fk:FnK (KH w) f
 sc:(fdK (KH w) f).scope=scopeOf st
 bd:(fdK (KH w) f).body=.stmts (bodyOf st)
 clo:(fdK (KH w) f).closure=cl
 fs:FnS0 (scopeOf st) xs
 nc:cellNames (scopeOf st).names=[]
 fr:((scopeOf st).names.all fun p=>p.2 != .free||(cl.lookup p.1).isSome)=true
theorem MfK.mf (M:MfK w C m f st cl xs) (R:Grd w g mg mb) (hbd:∀ vals,vals.length=xs.length→BindO Pr g (fdK (KH w) f) vals (xs.zip vals)) (hp:Pr (fdK (KH w) f).code ((fdK (KH w) f).qualname ++ ".<locals>.")) (ce:∀ p∈cl,∃ v,g.IsCell p.2 v):MF Pr (KH w) g C m f st cl xs :=
 mf_K (fnO_K R.X R.lim M.fk M.sc M.bd M.clo hbd hp) M.find M.isf M.fni M.kee M.fs M.nc ce M.fr
theorem j_ini:MfK w 178 "__init__" 115 (meth1 "_Accumulator" "__init__") [(Str.ofString "__class__",102)] ["self", "initial_size"]:=by with_reducible exact ⟨by kernel_rfl,by kernel_rfl,by kernel_rfl,by kernel_rfl,by with_reducible exact ⟨by kernel_rfl,by kernel_rfl,by kernel_rfl,by kernel_rfl,by kernel_rfl,by kernel_rfl,by kernel_rfl,by kernel_rfl⟩,by kernel_rfl,by kernel_rfl,by kernel_rfl,⟨by kernel_rfl,by kernel_rfl,by kernel_rfl,by kernel_rfl⟩,by kernel_rfl,by kernel_rfl⟩
theorem j_psh:MfK w 178 "push" 122 (meth1 "_Accumulator" "push") [] ["self", "fws", "string"]:=by with_reducible exact ⟨by kernel_rfl,by kernel_rfl,by kernel_rfl,by kernel_rfl,by with_reducible exact ⟨by kernel_rfl,by kernel_rfl,by kernel_rfl,by kernel_rfl,by kernel_rfl,by kernel_rfl,by kernel_rfl,by kernel_rfl⟩,by kernel_rfl,by kernel_rfl,by kernel_rfl,⟨by kernel_rfl,by kernel_rfl,by kernel_rfl,by kernel_rfl⟩,by kernel_rfl,by kernel_rfl⟩
theorem j_pfr:MfK w 178 "pop_from" 130 (meth1 "_Accumulator" "pop_from") [] ["self", "i"]:=by with_reducible exact ⟨by kernel_rfl,by kernel_rfl,by kernel_rfl,by kernel_rfl,by with_reducible exact ⟨by kernel_rfl,by kernel_rfl,by kernel_rfl,by kernel_rfl,by kernel_rfl,by kernel_rfl,by kernel_rfl,by kernel_rfl⟩,by kernel_rfl,by kernel_rfl,by kernel_rfl,⟨by kernel_rfl,by kernel_rfl,by kernel_rfl,by kernel_rfl⟩,by kernel_rfl,by kernel_rfl⟩
theorem j_pop:MfK w 178 "pop" 138 (meth1 "_Accumulator" "pop") [(Str.ofString "__class__",102)] ["self"]:=by with_reducible exact ⟨by kernel_rfl,by kernel_rfl,by kernel_rfl,by kernel_rfl,by with_reducible exact ⟨by kernel_rfl,by kernel_rfl,by kernel_rfl,by kernel_rfl,by kernel_rfl,by kernel_rfl,by kernel_rfl,by kernel_rfl⟩,by kernel_rfl,by kernel_rfl,by kernel_rfl,⟨by kernel_rfl,by kernel_rfl,by kernel_rfl,by kernel_rfl⟩,by kernel_rfl,by kernel_rfl⟩
theorem j_len:MfK w 178 "__len__" 145 (meth1 "_Accumulator" "__len__") [] ["self"]:=by with_reducible exact ⟨by kernel_rfl,by kernel_rfl,by kernel_rfl,by kernel_rfl,by with_reducible exact ⟨by kernel_rfl,by kernel_rfl,by kernel_rfl,by kernel_rfl,by kernel_rfl,by kernel_rfl,by kernel_rfl,by kernel_rfl⟩,by kernel_rfl,by kernel_rfl,by kernel_rfl,⟨by kernel_rfl,by kernel_rfl,by kernel_rfl,by kernel_rfl⟩,by kernel_rfl,by kernel_rfl⟩
theorem j_str:MfK w 178 "__str__" 152 (meth1 "_Accumulator" "__str__") [] ["self"]:=by with_reducible exact ⟨by kernel_rfl,by kernel_rfl,by kernel_rfl,by kernel_rfl,by with_reducible exact ⟨by kernel_rfl,by kernel_rfl,by kernel_rfl,by kernel_rfl,by kernel_rfl,by kernel_rfl,by kernel_rfl,by kernel_rfl⟩,by kernel_rfl,by kernel_rfl,by kernel_rfl,⟨by kernel_rfl,by kernel_rfl,by kernel_rfl,by kernel_rfl⟩,by kernel_rfl,by kernel_rfl⟩
theorem j_rst:MfK w 178 "reset" 160 (meth1 "_Accumulator" "reset") [] ["self", "startval"]:=by with_reducible exact ⟨by kernel_rfl,by kernel_rfl,by kernel_rfl,by kernel_rfl,by with_reducible exact ⟨by kernel_rfl,by kernel_rfl,by kernel_rfl,by kernel_rfl,by kernel_rfl,by kernel_rfl,by kernel_rfl,by kernel_rfl⟩,by kernel_rfl,by kernel_rfl,by kernel_rfl,⟨by kernel_rfl,by kernel_rfl,by kernel_rfl,by kernel_rfl⟩,by kernel_rfl,by kernel_rfl⟩
theorem j_ows:MfK w 178 "is_onlyws" 167 (meth1 "_Accumulator" "is_onlyws") [] ["self"]:=by with_reducible exact ⟨by kernel_rfl,by kernel_rfl,by kernel_rfl,by kernel_rfl,by with_reducible exact ⟨by kernel_rfl,by kernel_rfl,by kernel_rfl,by kernel_rfl,by kernel_rfl,by kernel_rfl,by kernel_rfl,by kernel_rfl⟩,by kernel_rfl,by kernel_rfl,by kernel_rfl,⟨by kernel_rfl,by kernel_rfl,by kernel_rfl,by kernel_rfl⟩,by kernel_rfl,by kernel_rfl⟩
theorem j_pcn:MfK w 178 "part_count" 175 (meth1 "_Accumulator" "part_count") [(Str.ofString "__class__",102)] ["self"]:=by with_reducible exact ⟨by kernel_rfl,by kernel_rfl,by kernel_rfl,by kernel_rfl,by with_reducible exact ⟨by kernel_rfl,by kernel_rfl,by kernel_rfl,by kernel_rfl,by kernel_rfl,by kernel_rfl,by kernel_rfl,by kernel_rfl⟩,by kernel_rfl,by kernel_rfl,by kernel_rfl,⟨by kernel_rfl,by kernel_rfl,by kernel_rfl,by kernel_rfl⟩,by kernel_rfl,by kernel_rfl⟩
theorem j_vin:MfK w 94 "__init__" 35 (meth1 "_ValueFormatter" "__init__") [] ["self", "headerlen", "maxlen", "continuation_ws", "splitchars"]:=by with_reducible exact ⟨by kernel_rfl,by kernel_rfl,by kernel_rfl,by kernel_rfl,by with_reducible exact ⟨by kernel_rfl,by kernel_rfl,by kernel_rfl,by kernel_rfl,by kernel_rfl,by kernel_rfl,by kernel_rfl,by kernel_rfl⟩,by kernel_rfl,by kernel_rfl,by kernel_rfl,⟨by kernel_rfl,by kernel_rfl,by kernel_rfl,by kernel_rfl⟩,by kernel_rfl,by kernel_rfl⟩
theorem j_vst:MfK w 94 "_str" 42 (meth1 "_ValueFormatter" "_str") [] ["self", "linesep"]:=by with_reducible exact ⟨by kernel_rfl,by kernel_rfl,by kernel_rfl,by kernel_rfl,by with_reducible exact ⟨by kernel_rfl,by kernel_rfl,by kernel_rfl,by kernel_rfl,by kernel_rfl,by kernel_rfl,by kernel_rfl,by kernel_rfl⟩,by kernel_rfl,by kernel_rfl,by kernel_rfl,⟨by kernel_rfl,by kernel_rfl,by kernel_rfl,by kernel_rfl⟩,by kernel_rfl,by kernel_rfl⟩
theorem j_vnl:MfK w 94 "newline" 56 (meth1 "_ValueFormatter" "newline") [] ["self"]:=by with_reducible exact ⟨by kernel_rfl,by kernel_rfl,by kernel_rfl,by kernel_rfl,by with_reducible exact ⟨by kernel_rfl,by kernel_rfl,by kernel_rfl,by kernel_rfl,by kernel_rfl,by kernel_rfl,by kernel_rfl,by kernel_rfl⟩,by kernel_rfl,by kernel_rfl,by kernel_rfl,⟨by kernel_rfl,by kernel_rfl,by kernel_rfl,by kernel_rfl⟩,by kernel_rfl,by kernel_rfl⟩
theorem j_vap:MfK w 94 "_append_chunk" 91 (meth1 "_ValueFormatter" "_append_chunk") [] ["self", "fws", "string"]:=by with_reducible exact ⟨by kernel_rfl,by kernel_rfl,by kernel_rfl,by kernel_rfl,by with_reducible exact ⟨by kernel_rfl,by kernel_rfl,by kernel_rfl,by kernel_rfl,by kernel_rfl,by kernel_rfl,by kernel_rfl,by kernel_rfl⟩,by kernel_rfl,by kernel_rfl,by kernel_rfl,⟨by kernel_rfl,by kernel_rfl,by kernel_rfl,by kernel_rfl⟩,by kernel_rfl,by kernel_rfl⟩
end
end
section
section
variable {w:World}{g:Heap}{mg mb:Str→Option Value}
theorem noCe:∀ p∈([]:List (Str×Addr)),∃ v,g.IsCell p.2 v:=fun _ h=>nomatch h
theorem cls_cell (X:(KH w).In g):g.IsCell 102 (some (.ref 178)):=⟨objK (KH w) 102,X _ _ (by kernel_rfl),by kernel_rfl⟩
theorem clsCe (X:(KH w).In g):∀ p∈[(Str.ofString "__class__",102)],∃ v,g.IsCell p.2 v:=fun p hp=>List.mem_singleton.mp hp▸⟨_,cls_cell X⟩
theorem ncc (c:Value):¬ ∀ (c:Value) (q:Str),SupC prog1 g c q:=fun z=>(z .none Str.empty).rec fun _ _ _ _ _ e=>nomatch e
theorem rst_bd (X:(KH w).In g):∀ vals:List Value,vals.length=2→BindO (fun c _=>c≠.none) g (fdK (KH w) 160) vals ([Str.ofString "self",Str.ofString "startval"].zip vals):=all2 fun _ _=>.look (fun z=>z .none Str.empty rfl) fun _=>by (with_reducible refine Looks.of_peek X ?_); kernel_rfl
theorem pfr_bd (X:(KH w).In g):∀ vals:List Value,vals.length=2→BindO (fun c _=>c≠.none) g (fdK (KH w) 130) vals ([Str.ofString "self",Str.ofString "i"].zip vals):=all2 fun _ _=>.look (fun z=>z .none Str.empty rfl) fun _=>by (with_reducible refine Looks.of_peek X ?_); kernel_rfl
theorem ini_bd (X:(KH w).In g):∀ vals:List Value,vals.length=2→BindO (SupC prog1 g) g (fdK (KH w) 115) vals ([Str.ofString "self",Str.ofString "initial_size"].zip vals):=all2 fun _ _=>.look (ncc .none) fun _=>by (with_reducible refine Looks.of_peek X ?_); kernel_rfl
theorem j_sup (R:Grd w g mg mb):SupG prog1 (KH w) g 178 (cdK (KH w) 178) [(Str.ofString "__class__",102)] where
 top:=by kernel_rfl
 clo:=⟨102,rfl,cls_cell R.X⟩
 cls:=by kernel_rfl
 ob:=⟨objK (KH w) 178,by kernel_rfl,by kernel_rfl⟩
 mro:=by kernel_rfl
 self:=by kernel_rfl
 opq:=by kernel_rfl
 typ:=by kernel_rfl
 modu:=by kernel_rfl
 chk:=fun x=>by kernel_rfl
 gsup:=by with_reducible exact gb (by assumption) (by decide +kernel) (by kernel_rfl) (by decide +kernel) (by decide +kernel)
theorem j_acc (R:Grd w g mg mb):AccFns prog1 w (KH w) g (TH w) (aF w) where
 L:=⟨⟨by kernel_rfl,by kernel_rfl,by kernel_rfl,by kernel_rfl,by kernel_rfl,by kernel_rfl,by kernel_rfl,by kernel_rfl,by kernel_rfl,by kernel_rfl⟩,by kernel_rfl⟩
 X:=R.X
 Y:=⟨by kernel_rfl,by kernel_rfl,by kernel_rfl,by kernel_rfl,by kernel_rfl⟩
 mkL:=⟨⟨(objK (KH w) 178).cls,(objK (KH w) 178).dict,cdK (KH w) 178,(objK (KH w) 178).slots,[.type "list",.type "object"],by kernel_rfl,by kernel_rfl,by kernel_rfl,by kernel_rfl,by kernel_rfl,by kernel_rfl⟩,by kernel_rfl,by kernel_rfl,by kernel_rfl,by kernel_rfl,by kernel_rfl,by kernel_rfl,by kernel_rfl⟩
 S:=j_sup R
 ini:=j_ini.mf R (ini_bd R.X) (supC_K R.X j_ini.fk (by kernel_rfl)) (clsCe R.X)
 psh:=j_psh.mf R (all3 fun _ _ _=>.pure (by kernel_rfl)) trivial noCe
 pfr:=j_pfr.mf R (pfr_bd R.X) (fun e=>nomatch j_pfr.fk.code.symm.trans e) noCe
 pop:=j_pop.mf R (all1 fun _=>.pure (by kernel_rfl)) (supC_K R.X j_pop.fk (by kernel_rfl)) (clsCe R.X)
 len:=j_len.mf R (all1 fun _=>.pure (by kernel_rfl)) (mk_of R j_len.fk (P:=140) (by kernel_rfl) (by decide) (.tail _ (.tail _ (.head _)))) noCe
 str:=j_str.mf R (all1 fun _=>.pure (by kernel_rfl)) (mk_of R j_str.fk (P:=147) (by kernel_rfl) (by decide) (.tail _ (.tail _ (.tail _ (.head _))))) noCe
 rst:=j_rst.mf R (rst_bd R.X) (fun e=>nomatch j_rst.fk.code.symm.trans e) noCe
 ows:=j_ows.mf R (all1 fun _=>.pure (by kernel_rfl)) trivial noCe
 pcn:=j_pcn.mf R (all1 fun _=>.pure (by kernel_rfl)) (supC_K R.X j_pcn.fk (by kernel_rfl)) (clsCe R.X)
 pshG:=by kernel_rfl
 pshT:=by kernel_rfl
 rs0:=fun e d=>by
  cases fd_is R.X j_rst.fk e d
  (with_reducible refine Looks.of_peek R.X ?_)
  kernel_rfl
 iniP:=supP_K R.X j_ini.fk (by kernel_rfl)
 popP:=supP_K R.X j_pop.fk (by kernel_rfl)
 pcnP:=supP_K R.X j_pcn.fk (by kernel_rfl)
 iniA:=by kernel_rfl
 popA:=by kernel_rfl
 lenA:=by kernel_rfl
 gsum:=by with_reducible exact gb (by assumption) (by decide +kernel) (by kernel_rfl) (by decide +kernel) (by decide +kernel)
 glen:=by with_reducible exact gb (by assumption) (by decide +kernel) (by kernel_rfl) (by decide +kernel) (by decide +kernel)
 gstr:=by with_reducible exact gb (by assumption) (by decide +kernel) (by kernel_rfl) (by decide +kernel) (by decide +kernel)
 gemp:=⟨198,by with_reducible exact gm (by assumption) (by decide +kernel) (by kernel_rfl)⟩
theorem pg_all {P:Str→Prop}(h1:P "_maxlen") (h2:P "_continuation_ws") (h3:P "_continuation_ws_len") (h4:P "_splitchars") (h5:P "_lines") (h6:P "_current_line"):∀ x∈pgAttrs,P x:=List.forall_mem_cons.mpr ⟨h1,List.forall_mem_cons.mpr ⟨h2,List.forall_mem_cons.mpr ⟨h3,List.forall_mem_cons.mpr ⟨h4,List.forall_mem_cons.mpr ⟨h5,List.forall_mem_singleton.mpr h6⟩⟩⟩⟩⟩
theorem j_fmt (R:Grd w g mg mb):FmtFns prog1 w (KH w) g (TH w) (aF w) (bF w) where
 A:=j_acc R
 V:=⟨by kernel_rfl,by kernel_rfl,by kernel_rfl,pg_all (by kernel_rfl) (by kernel_rfl) (by kernel_rfl) (by kernel_rfl) (by kernel_rfl) (by kernel_rfl)⟩
 S:=⟨by kernel_rfl,by kernel_rfl,by kernel_rfl,pg_all (by kernel_rfl) (by kernel_rfl) (by kernel_rfl) (by kernel_rfl) (by kernel_rfl) (by kernel_rfl),by kernel_rfl⟩
 mkV:=by kernel_rfl
 gacc:=by with_reducible exact gm (by assumption) (by decide +kernel) (by kernel_rfl)
 kacc:=by kernel_rfl
 gran:=by with_reducible exact gb (by assumption) (by decide +kernel) (by kernel_rfl) (by decide +kernel) (by decide +kernel)
 ini:=j_vin.mf R (all5' fun _ _ _ _ _=>.pure (by kernel_rfl)) trivial noCe
 sfn:=j_vst.mf R (all2 fun _ _=>.pure (by kernel_rfl)) trivial noCe
 nwl:=j_vnl.mf R (all1 fun _=>.pure (by kernel_rfl)) trivial noCe
 apc:=j_vap.mf R (all3 fun _ _ _=>.pure (by kernel_rfl)) trivial noCe
end
end
section
structure FmK (w:World) (f:Addr) (st:Stmt):Prop where
 fk:FnK (KH w) f
 sc:(fdK (KH w) f).scope=scopeOf st
 bd:(fdK (KH w) f).body=.stmts (bodyOf st)
 clo:(fdK (KH w) f).closure=[]
section
variable {w:World}{g:Heap}{mg mb:Str→Option Value}{f P:Addr}{st:Stmt}{xs:List Str}{q:Str}{n:Nat}
theorem FmK.at_ (M:FmK w f st) (R:Grd w g mg mb) (hbd:∀ vals,vals.length=xs.length→BindO (fun _ _=>True) g (fdK (KH w) f) vals (xs.zip vals)):FnAt g f (scopeOf st) xs (bodyOf st):=fnO_K R.X R.lim M.fk M.sc M.bd M.clo hbd trivial
theorem FmK.mk_ {sub:Str}(M:FmK w f st) (R:Grd w g mg mb) (hbd:∀ vals,vals.length=xs.length→BindO (fun c q=>MakerOk g (TH w) c (q++sub)) g (fdK (KH w) f) vals (xs.zip vals)) (e:codeHdIn (KH w) (adrV (fdK (KH w) f).code) P=true) (hP:P∈tabA) (hm:(P,qof w f sub)∈TH w):FnMk g (TH w) f (scopeOf st) xs (bodyOf st) sub:=fnO_K R.X R.lim M.fk M.sc M.bd M.clo hbd (mk_of R M.fk e hP hm)
theorem f_div2:FmK w 189 (fn1 "_div2n1n"):=by with_reducible exact ⟨by with_reducible exact ⟨by kernel_rfl,by kernel_rfl,by kernel_rfl,by kernel_rfl,by kernel_rfl,by kernel_rfl,by kernel_rfl,by kernel_rfl⟩,by kernel_rfl,by kernel_rfl,by kernel_rfl⟩
theorem f_i2d:FmK w 203 (fn1 "_int2digits"):=by with_reducible exact ⟨by with_reducible exact ⟨by kernel_rfl,by kernel_rfl,by kernel_rfl,by kernel_rfl,by kernel_rfl,by kernel_rfl,by kernel_rfl,by kernel_rfl⟩,by kernel_rfl,by kernel_rfl,by kernel_rfl⟩
theorem f_d2i:FmK w 210 (fn1 "_digits2int"):=by with_reducible exact ⟨by with_reducible exact ⟨by kernel_rfl,by kernel_rfl,by kernel_rfl,by kernel_rfl,by kernel_rfl,by kernel_rfl,by kernel_rfl,by kernel_rfl⟩,by kernel_rfl,by kernel_rfl,by kernel_rfl⟩
theorem f_dm:FmK w 217 (fn1 "_divmod_pos"):=by with_reducible exact ⟨by with_reducible exact ⟨by kernel_rfl,by kernel_rfl,by kernel_rfl,by kernel_rfl,by kernel_rfl,by kernel_rfl,by kernel_rfl,by kernel_rfl⟩,by kernel_rfl,by kernel_rfl,by kernel_rfl⟩
theorem f_id:FmK w 224 (fn1 "int_divmod"):=by with_reducible exact ⟨by with_reducible exact ⟨by kernel_rfl,by kernel_rfl,by kernel_rfl,by kernel_rfl,by kernel_rfl,by kernel_rfl,by kernel_rfl,by kernel_rfl⟩,by kernel_rfl,by kernel_rfl,by kernel_rfl⟩
theorem f_ap:FmK w 231 (fn1 "Int2AP"):=by with_reducible exact ⟨by with_reducible exact ⟨by kernel_rfl,by kernel_rfl,by kernel_rfl,by kernel_rfl,by kernel_rfl,by kernel_rfl,by kernel_rfl,by kernel_rfl⟩,by kernel_rfl,by kernel_rfl,by kernel_rfl⟩
theorem f_cells:FmK w 236 (fn1 "_law_cells"):=by with_reducible exact ⟨by with_reducible exact ⟨by kernel_rfl,by kernel_rfl,by kernel_rfl,by kernel_rfl,by kernel_rfl,by kernel_rfl,by kernel_rfl,by kernel_rfl⟩,by kernel_rfl,by kernel_rfl,by kernel_rfl⟩
theorem f_word:FmK w 243 (fn1 "_law_word"):=by with_reducible exact ⟨by with_reducible exact ⟨by kernel_rfl,by kernel_rfl,by kernel_rfl,by kernel_rfl,by kernel_rfl,by kernel_rfl,by kernel_rfl,by kernel_rfl⟩,by kernel_rfl,by kernel_rfl,by kernel_rfl⟩
theorem f_short:FmK w 248 (fn1 "_law_shortest"):=by with_reducible exact ⟨by with_reducible exact ⟨by kernel_rfl,by kernel_rfl,by kernel_rfl,by kernel_rfl,by kernel_rfl,by kernel_rfl,by kernel_rfl,by kernel_rfl⟩,by kernel_rfl,by kernel_rfl,by kernel_rfl⟩
theorem f_page:FmK w 255 (fn1 "_law_page"):=by with_reducible exact ⟨by with_reducible exact ⟨by kernel_rfl,by kernel_rfl,by kernel_rfl,by kernel_rfl,by kernel_rfl,by kernel_rfl,by kernel_rfl,by kernel_rfl⟩,by kernel_rfl,by kernel_rfl,by kernel_rfl⟩
theorem f_torn:FmK w 262 (fn1 "_law_torn"):=by with_reducible exact ⟨by with_reducible exact ⟨by kernel_rfl,by kernel_rfl,by kernel_rfl,by kernel_rfl,by kernel_rfl,by kernel_rfl,by kernel_rfl,by kernel_rfl⟩,by kernel_rfl,by kernel_rfl,by kernel_rfl⟩
theorem f_told:FmK w 267 (fn1 "_law_told"):=by with_reducible exact ⟨by with_reducible exact ⟨by kernel_rfl,by kernel_rfl,by kernel_rfl,by kernel_rfl,by kernel_rfl,by kernel_rfl,by kernel_rfl,by kernel_rfl⟩,by kernel_rfl,by kernel_rfl,by kernel_rfl⟩
theorem f_text:FmK w 272 (fn1 "_law_text"):=by with_reducible exact ⟨by with_reducible exact ⟨by kernel_rfl,by kernel_rfl,by kernel_rfl,by kernel_rfl,by kernel_rfl,by kernel_rfl,by kernel_rfl,by kernel_rfl⟩,by kernel_rfl,by kernel_rfl,by kernel_rfl⟩
theorem f_law:FmK w 277 (fn1 "law"):=by with_reducible exact ⟨by with_reducible exact ⟨by kernel_rfl,by kernel_rfl,by kernel_rfl,by kernel_rfl,by kernel_rfl,by kernel_rfl,by kernel_rfl,by kernel_rfl⟩,by kernel_rfl,by kernel_rfl,by kernel_rfl⟩
theorem j_ap (R:Grd w g mg mb) {i:Int}(hi:i.natAbs<16 ^ 200):ClV prog1 w g (TH w) 31 "Int2AP" [.int i] (.bytes (apB i.natAbs)) :=
 cl_int2ap (n:=30) (by with_reducible exact gb (by assumption) (by decide +kernel) (by kernel_rfl) (by decide +kernel) (by decide +kernel)) (by with_reducible exact gb (by assumption) (by decide +kernel) (by kernel_rfl) (by decide +kernel) (by decide +kernel)) (by with_reducible exact gb (by assumption) (by decide +kernel) (by kernel_rfl) (by decide +kernel) (by decide +kernel)) (f_ap.at_ R (all1 fun _=>.pure (by kernel_rfl))) (by with_reducible exact gm (by assumption) (by decide +kernel) (by kernel_rfl)) hi
theorem j_d2i (R:Grd w g mg mb) {l:List Int}{k:Nat}(h1:1≤k) (h2:k*l.length≤400) (h3:∀ d∈l,0≤d∧d<2 ^ k):ClV prog1 w g (TH w) 13 "_digits2int" [.lst (l.map .int),.int k] (.int (dval k l)) :=
 cl_d2i (by with_reducible exact gb (by assumption) (by decide +kernel) (by kernel_rfl) (by decide +kernel) (by decide +kernel)) (f_d2i.mk_ R (P:=205) (all2 fun _ _=>.pure (by kernel_rfl)) (by kernel_rfl) (by decide) (.tail _ (.head _))) (by with_reducible exact gm (by assumption) (by decide +kernel) (by kernel_rfl)) h1 h2 h3
theorem j_i2d (R:Grd w g mg mb) {x k:Nat}(h1:1≤k) (h2:k≤400) (h3:ndig x k≤400) (h4:k*ndig x k≤450):ClV prog1 w g (TH w) 13 "_int2digits" [.int x,.int k] (.lst (nsD (digs k (ndig x k) x))) :=
 cl_i2d (by with_reducible exact gb (by assumption) (by decide +kernel) (by kernel_rfl) (by decide +kernel) (by decide +kernel)) (f_i2d.mk_ R (P:=198) (all2 fun _ _=>.pure (by kernel_rfl)) (by kernel_rfl) (by decide) (.head _)) (by with_reducible exact gm (by assumption) (by decide +kernel) (by kernel_rfl)) h1 h2 h3 h4
theorem j_div2 (R:Grd w g mg mb):Div2 prog1 w g (TH w) 13:=fun h0 h1 h2=>cl_div2 (n:=11) (tk:=406) (by with_reducible exact gb (by assumption) (by decide +kernel) (by kernel_rfl) (by decide +kernel) (by decide +kernel)) (by with_reducible exact gm (by assumption) (by decide +kernel) (by kernel_rfl)) (f_div2.at_ R (all3 fun _ _ _=>.pure (by kernel_rfl))) (by with_reducible exact gm (by assumption) (by decide +kernel) (by kernel_rfl)) h0 h1 h2
theorem j_id (R:Grd w g mg mb) {a b:Int}(h0:b≠0) (h1:a.natAbs≤2 ^ 148) (h2:b.natAbs<2 ^ 149):ClV prog1 w g (TH w) 17 "int_divmod" [.int a,.int b] (quo a b) :=
 cl_id (n:=13) (f_id.at_ R (all2 fun _ _=>.pure (by kernel_rfl))) (by with_reducible exact gm (by assumption) (by decide +kernel) (by kernel_rfl)) (fun hx h1 hy=>cl_dm (j_div2 R) (j_i2d R) (j_d2i R) (by with_reducible exact gb (by assumption) (by decide +kernel) (by kernel_rfl) (by decide +kernel) (by decide +kernel)) (f_dm.at_ R (all2 fun _ _=>.pure (by kernel_rfl))) (by with_reducible exact gm (by assumption) (by decide +kernel) (by kernel_rfl)) hx h1 hy) h0 h1 h2
theorem j_tdk (R:Grd w g mg mb):TdK prog1 w g (TH w) 31 where
 len:=by with_reducible exact gb (by assumption) (by decide +kernel) (by kernel_rfl) (by decide +kernel) (by decide +kernel)
 sum:=by with_reducible exact gb (by assumption) (by decide +kernel) (by kernel_rfl) (by decide +kernel) (by decide +kernel)
 dm:=by with_reducible exact gb (by assumption) (by decide +kernel) (by kernel_rfl) (by decide +kernel) (by decide +kernel)
 int:=by with_reducible exact gb (by assumption) (by decide +kernel) (by kernel_rfl) (by decide +kernel) (by decide +kernel)
 enum:=by with_reducible exact gb (by assumption) (by decide +kernel) (by kernel_rfl) (by decide +kernel) (by decide +kernel)
 ran:=by with_reducible exact gb (by assumption) (by decide +kernel) (by kernel_rfl) (by decide +kernel) (by decide +kernel)
 torn:=fun h1 h2 h3 h4=>(cl_torn (j_id R) (f_torn.at_ R (all3 fun _ _ _=>.pure (by kernel_rfl))) (by with_reducible exact gm (by assumption) (by decide +kernel) (by kernel_rfl)) h1 h2 h3 h4).mono (by decide)
 id:=fun h0 h1 h2=>(j_id R h0 h1 h2).mono (by decide)
 i2d:=fun h3 h4=>(j_i2d R (by decide) (by decide) h3 h4).mono (by decide)
theorem j_lwk (R:Grd w g mg mb):LwK prog1 w g (TH w) 69 where
 cells:=fun h=>(cl_cells (n:=30) (by with_reducible exact gb (by assumption) (by decide +kernel) (by kernel_rfl) (by decide +kernel) (by decide +kernel)) (by with_reducible exact gb (by assumption) (by decide +kernel) (by kernel_rfl) (by decide +kernel) (by decide +kernel)) (by with_reducible exact gb (by assumption) (by decide +kernel) (by kernel_rfl) (by decide +kernel) (by decide +kernel)) (f_cells.at_ R (all2 fun _ _=>.pure (by kernel_rfl))) (by with_reducible exact gm (by assumption) (by decide +kernel) (by kernel_rfl)) h (by decide) (by decide)).mono (by decide)
 word:=fun h1 h2=>(cl_word (n:=30) (fun i hi=>j_ap R hi) (f_word.at_ R (all2 fun _ _=>.pure (by kernel_rfl))) (by with_reducible exact gm (by assumption) (by decide +kernel) (by kernel_rfl)) h1 h2).mono (by decide)
 short:=fun h1 h2 h3=>(cl_short (n:=30) (by with_reducible exact gb (by assumption) (by decide +kernel) (by kernel_rfl) (by decide +kernel) (by decide +kernel)) (by with_reducible exact gb (by assumption) (by decide +kernel) (by kernel_rfl) (by decide +kernel) (by decide +kernel)) (f_short.at_ R (all2 fun _ _=>.pure (by kernel_rfl))) (by with_reducible exact gm (by assumption) (by decide +kernel) (by kernel_rfl)) h1 h2 h3).mono (by decide)
 told:=fun h1 h2 h3=>(cl_told (n:=30) (j_tdk R) (f_told.at_ R (all2 fun _ _=>.pure (by kernel_rfl))) (by with_reducible exact gm (by assumption) (by decide +kernel) (by kernel_rfl)) h1 h2 h3).mono (by decide)
 ap:=fun h=>(j_ap R h).mono (by decide)
 d2i:=fun h1 h2=>(j_d2i R (by decide) h1 h2).mono (by decide)
 len:=by with_reducible exact gb (by assumption) (by decide +kernel) (by kernel_rfl) (by decide +kernel) (by decide +kernel)
 ord:=by with_reducible exact gb (by assumption) (by decide +kernel) (by kernel_rfl) (by decide +kernel) (by decide +kernel)
 sorted:=by with_reducible exact gb (by assumption) (by decide +kernel) (by kernel_rfl) (by decide +kernel) (by decide +kernel)
 set:=by with_reducible exact gb (by assumption) (by decide +kernel) (by kernel_rfl) (by decide +kernel) (by decide +kernel)
 enum:=by with_reducible exact gb (by assumption) (by decide +kernel) (by kernel_rfl) (by decide +kernel) (by decide +kernel)
 ran:=by with_reducible exact gb (by assumption) (by decide +kernel) (by kernel_rfl) (by decide +kernel) (by decide +kernel)
 zip:=by with_reducible exact gb (by assumption) (by decide +kernel) (by kernel_rfl) (by decide +kernel) (by decide +kernel)
theorem j_lwp (R:Grd w g mg mb):LwP prog1 w (KH w) g (TH w) (aF w) (bF w) 69 where
 B:=j_fmt R
 k:=j_lwk R
 text:=fun h1 h2 h3 h4 h5 h6=>(cl_text (n:=30) (by with_reducible exact gb (by assumption) (by decide +kernel) (by kernel_rfl) (by decide +kernel) (by decide +kernel)) (by with_reducible exact gb (by assumption) (by decide +kernel) (by kernel_rfl) (by decide +kernel) (by decide +kernel)) (by with_reducible exact gb (by assumption) (by decide +kernel) (by kernel_rfl) (by decide +kernel) (by decide +kernel)) (f_text.at_ R (all2 fun _ _=>.pure (by kernel_rfl))) (by with_reducible exact gm (by assumption) (by decide +kernel) (by kernel_rfl)) h1 h2 h3 h4 h5 h6).mono (by decide)
 gfmt:=by with_reducible exact gm (by assumption) (by decide +kernel) (by kernel_rfl)
 kfmt:=by kernel_rfl
 pg:=⟨255,f_page.at_ R (all3 fun _ _ _=>.pure (by kernel_rfl)),by with_reducible exact gm (by assumption) (by decide +kernel) (by kernel_rfl)⟩
end
end
section
noncomputable abbrev tabsH:List (Addr×Addr):=[(202,198),(209,205),(144,140),(151,147)]
section
variable {w:World}{s₁ s':Shared}{mg mb:Str→Option Value}{p:Program}{loose:List Str}{mean:ExcName→Option Value}{P:Addr}
theorem tabs_at (X:(KH w).In s₁.heap) (hT:∀ P∈tabA,s₁.heap.get? P=some (tabObj #[])):TabsAt tabsH s₁.heap :=
 List.forall_mem_cons.mpr ⟨⟨codeHd_of_K X (by kernel_rfl),hT 198 (by decide)⟩,List.forall_mem_cons.mpr ⟨⟨codeHd_of_K X (by kernel_rfl),hT 205 (by decide)⟩,List.forall_mem_cons.mpr ⟨⟨codeHd_of_K X (by kernel_rfl),hT 140 (by decide)⟩,List.forall_mem_singleton.mpr ⟨codeHd_of_K X (by kernel_rfl),hT 147 (by decide)⟩⟩⟩⟩
variable (hT:∀ P∈tabA,s₁.heap.get? P=some (tabObj #[])) (hA:TabsAt tabsH s₁.heap)
include hT hA
theorem grd_of (X:(KH w).In s₁.heap) (T:Top p loose mean mg mb s₁.heap):Grd w (ghostOf s₁.heap tabsH) mg mb where
 X:=ghost_K hA X (by kernel_rfl)
 lim:=let ⟨mc,a,r⟩:=T.nolimit; ⟨mc,ghost_ns hA a,r⟩
 G:=ghost_ns hA T.g
 H:=ghost_ns hA T.b
 hb:=T.builtins
 bt:=fun P hP=>by
  obtain ⟨bm,ob,a1,a2,a3,a4,a5,a6⟩:=T.bmain
  have hg:=ghost_get hA a3 (fun q=>by rw [q] at a4; cases a4)
  refine ⟨bm,ob,a1,a2,fun e=>?_,fun e=>?_,hg,a4,a5,a6⟩
  ·obtain ⟨o,es,ep,ho,hd,_⟩:=T.g
   cases sinj (e▸a3) ho
   cases a6.symm.trans hd
  ·cases sinj (e▸a3) (hT P hP)
   cases a4
theorem gk_of (hg:s₁.gens = #[]):GK (ghostOf s₁.heap tabsH) (TH w) s₁ where
 keep:=fun b o e=>of_hideAll _ e
 tabs:=fun q hq=>⟨#[],hT _ (List.mem_map.mpr ⟨q,hq,rfl⟩:q.1∈(TH w).map (·.1)),trivial,fun pos cv e=>nomatch e⟩
 off:=fun q hq=>hideAll_none _ (show q.1∈(TH w).map (·.1) from List.mem_map.mpr ⟨q,hq,rfl⟩)
 bare:=by rw [hg]; exact .of_eq rfl
theorem old_of (hg:s₁.gens = #[]) (x:Ext (ghostOf s₁.heap tabsH) (TH w) s₁ s'):OldK s₁.heap s'.heap∧s'.os=s₁.os∧AllBare s'.gens:=by
 have G':=x.gk (gk_of (w:=w) hT hA hg)
 have grown:∀ b o,s₁.heap.get? b=some o→¬ Off (TH w) b→isCodeTable s₁.heap b∧o=tabObj #[]∧∃ ps,s'.heap.get? b=some (tabObj ps):=fun b o e hn=>by
  have hP:∃ p∈TH w,p.1=b:=Decidable.byContradiction fun h=>hn fun p hp he=>h ⟨p,hp,he⟩
  obtain ⟨p,hp,rfl⟩:=hP
  have hm:p.1∈tabsH.map (·.2):=show p.1∈(TH w).map (·.1) from List.mem_map.mpr ⟨p,hp,rfl⟩
  obtain ⟨r,hr,e1⟩:=List.mem_map.mp hm
  have hr:=hA r hr
  rw [e1] at hr
  exact ⟨(hr.1.tab hr.2).isCodeTable,sinj e hr.2,(G'.tabs p hp).imp fun _ q=>q.1⟩
 refine ⟨⟨fun b o e=>?_,fun b o e=>?_⟩,x.os,G'.bare⟩
 ·by_cases hb:Off (TH w) b
  ·exact .inl (x.keep b o e hb)
  ·obtain ⟨ht,rfl,ps,hP⟩:=grown b o e hb
   exact .inr (.inl ⟨ht,rfl, #[],ps,rfl,by rw [Array.empty_append]; exact hP⟩)
 ·by_cases hb:Off (TH w) b
  ·exact ⟨o,x.keep b o e hb⟩
  ·exact (grown b o e hb).2.2.elim fun _ q=>⟨_,q⟩
end
end
section
section
variable {w:World}{s₁ s':Shared}{mg mb:Str→Option Value}{p:Program}{loose:List Str}{mean:ExcName→Option Value}{P:Addr}
theorem rm_caller:Rm (60+10) callerA:=⟨by decide +kernel,by decide +kernel,rfl⟩
theorem law_join {fa l:Addr}{vs:List Value}{script:List Int}{Q:Value→Shared→Prop}{E:Value→Shared→Prop}(X:(KH w).In s₁.heap) (hT:∀ P∈tabA,s₁.heap.get? P=some (tabObj #[])) (T:Top p loose mean mg mb s₁.heap) (hg:s₁.gens = #[])
  (hm:mg (Str.ofString "law")=some (.ref fa)) (hl:s₁.heap.get? l=some (lstO vs 0)) (hI:IntsAre vs script) (h63:script.length≤63)
  (hQ:∀ s',OldK s₁.heap s'.heap∧s'.os=s₁.os∧AllBare s'.gens→Q (.bool true) s'):wpAny (model prog1 w) callerA (call (.ref fa) [.ref l]) Q E s₁:=by
 have hA:=tabs_at X hT
 have R:=grd_of hT hA X T
 cases hm.symm.trans (mg_of X T.g (by kernel_rfl):mg (Str.ofString "law")=some (.ref 277))
 obtain ⟨ls,h1,h2,h3⟩:=plain01 (cel script)
 refine wpAny_mono (lw_call (n:=60) (j_lwp R) (f_law.at_ R (all1 fun _=>.pure (by kernel_rfl))) rm_caller (gk_of hT hA hg) (.cons (.lst List.not_mem_nil hl (VDs.ints hI)) .nil) (Nat.le_trans h63 (by decide)) h1 h2 h3) (fun v s' h=>?_) fun _ _ f=>f.elim
 cases h.2.i3
 exact hQ s' (old_of hT hA hg h.1)
end
set_option maxHeartbeats 8000000 in
theorem law01:PySem.Challenge.rw_wz0031_01.Holds:=by
 refine hk (PySem.W.holds_open (q:=view) (loose:=[Str.ofString "_Accumulator"]) (Xt:=fun s=>xlAt view [] s&&recOk (RowW.records PySem.Challenge.rw_wz0031_01.row.toRowW) s) (XP:=XL view []) (Yf:=hook.obs) (Ya:=hook.val) (YP:=hook.says) (N:=3254) left1 hook.of hook.keeps (fun s e=>xl_of s (Bool.and_eq_true_iff.mp e).1) XL.keeps (by rfl) (by rfl) (by rfl) (fun s e=>recFacts_of (Bool.and_eq_true_iff.mp e).2) (by rfl) (row_said lwS) (by kernel_rfl) ⟨rfl,rfl,rfl,rfl,rfl,by decide +kernel⟩ (by w_witness2) ?_)
 k_fill
 intro w s₀ s₁ mg mb G Y fa o pm cd doc dV kV ho hd' hcd hD hmg hg args vals as hpre hlay hrd hwl hlo
 have KX:=km_in_of Y
 have hT8:=km_tabs_of Y
 refine Ground.open G ?_
 intro T B D TE TW
 wrow_args hpre hlay hrd hwl hlo
 rename_i script _ _ _ _ _ _ _ l vs _ hL ra w1 r0 hI hr hcnd hcnd'
 have hl:s₁.heap.get? l=some (lstO vs 0):=by
  obtain ⟨o,ho,hc,n,hd2⟩:=hL
  have w2:Well w.params s₁.heap (Value.ref l) (.list (ofPys (List.map PyData.int script))):=w1
  cases w2 with
  | list h1 h2 =>
   rw [ho] at h1
   cases h1
   cases hd2
   exact ho
 refine law_join KX hT8 T hg hmg hl hI (by omega) fun s' hs'=>⟨.inl ⟨.bool true,.bool true,[],rfl,fun _=>rfl,.bool true,by wrow_post,fun h=>⟨List.nodup_nil,fun a ha=>by cases ha⟩⟩,hs'⟩
end
end
end Mine
theorem PySem.Challenge.cw_wz0031_01_holds : PySem.Challenge.rw_wz0031_01.Holds := by
 exact Mine.law01
