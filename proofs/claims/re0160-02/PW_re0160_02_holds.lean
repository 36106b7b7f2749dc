import PyProof.Rows.All
import PyProof.GenCompT
import PyProof.IsiH_list
import PyProof.ListNew
import KE.KCallOwn
import KE.KRevSl
import KE.KStar
import KE.KSuperObj
import Wide.FinOn
import OpenK.AllK
import Wide.All
import PySem.Challenge.RW_re0160_02
set_option linter.all false
set_option linter.unusedVariables false
set_option linter.unusedSimpArgs false
set_option bootstrap.genMatcherCode false
set_option genSizeOf false
namespace Mine
theorem no1 {α:Type}{a:α}{P:Prop}(h:none=some a):P:=nomatch h
theorem no2 {α:Type}{a:α}{P:Prop}(h:some a=none):P:=nomatch h
theorem no3 {P:Prop}(h:false=true):P:=nomatch h
theorem no4 {P:Prop}(h:true=false):P:=nomatch h
theorem aB {α β:Type}{o:Option α}{k:α->Option β}{v:β}{P:Prop}(h:o.bind k=some v)(q:∀x,o=some x->k x=some v->P):P:=by
 rcases o with _ | x
 ·exact no1 h
 ·exact q x rfl h
theorem gJ {α β:Type}{o:Option α}{k:α->β}{v:β}{P:Prop}(h:o.map k=some v)(q:∀x,o=some x->k x=v->P):P:=by
 rcases o with _ | x
 ·exact no1 h
 ·exact q x rfl (Option.some.inj h)
theorem bK {α:Type}{c:Prop} [Decidable c] {a:Option α}{v:α}{P:Prop}(h:(if c then a else none)=some v)(q:c->a=some v->P):P:=by
 by_cases e:c
 ·rw [if_pos e] at h;exact q e h
 ·rw [if_neg e] at h;exact no1 h
theorem aNp {α:Type}{c:Prop} [Decidable c] {a:Option α}{v:α}{P:Prop}(h:(if c then none else a)=some v)(q:¬c->a=some v->P):P:=by
 by_cases e:c
 ·rw [if_pos e] at h;exact no1 h
 ·rw [if_neg e] at h;exact q e h
theorem iC {α:Type}{c:Prop} [Decidable c] {a b:Option α}{v:α}{P:Prop}(h:(if c then a else b)=some v)(q1:c->a=some v->P)(q2:¬c->b=some v->P):P:=by
 by_cases e:c
 ·rw [if_pos e] at h;exact q1 e h
 ·rw [if_neg e] at h;exact q2 e h
theorem aLi {α:Type}{P:α->Prop}{a:α}(h1:P a):∀x∈[a],P x:=List.forall_mem_singleton.mpr h1
theorem aIx {α:Type}{P:α->Prop}{a b:α}(h1:P a)(h2:P b):∀x∈[a,b],P x:=List.forall_mem_cons.mpr ⟨h1,aLi h2⟩
theorem aM5 {α:Type}{P:α->Prop}{a b c:α}(h1:P a)(h2:P b)(h3:P c):∀x∈[a,b,c],P x:=List.forall_mem_cons.mpr ⟨h1,aIx h2 h3⟩
open PySem in
theorem rI {M:Model}{A:Around}{α:Type}{X Y:Sem α}{Q:α->Shared->Prop}{E:Value->Shared->Prop}{s:Shared}(h:wpAny M A Y Q E s):wpAny M A (if false=true then X else Y) Q E s:=h
open PySem in
theorem yG {M:Model}{A:Around}{α:Type}{X Y:Sem α}{Q:α->Shared->Prop}{E:Value->Shared->Prop}{s:Shared}(h:wpAny M A X Q E s):wpAny M A (if true=true then X else Y) Q E s:=h
open PySem in
theorem bM {M:Model}{A:Around}{α:Type}{c:Prop}{dc:Decidable c}{X Y:Sem α}{Q:α->Shared->Prop}{E:Value->Shared->Prop}{s:Shared}(hc:¬c)(h:wpAny M A Y Q E s):wpAny M A (@ite _ c dc X Y) Q E s:=by rw [if_neg hc]; exact h
open PySem in
theorem iV {M:Model}{A:Around}{α:Type}{c:Prop}{dc:Decidable c}{X Y:Sem α}{Q:α->Shared->Prop}{E:Value->Shared->Prop}{s:Shared}(hc:c)(h:wpAny M A X Q E s):wpAny M A (@ite _ c dc X Y) Q E s:=by rw [if_pos hc]; exact h
theorem lit {a b c:Nat}(h:a<=b)(e:b.ble c=true):a<=c:=Nat.le_trans h (Nat.le_of_ble_eq_true e)
theorem lef {a b c:Nat}(h:a=b)(e:b.ble c=true):a<=c:=h▸Nat.le_of_ble_eq_true e
theorem sll {a b c:Nat}(h:a<=b)(e:(b+1).ble c=true):a<c:=Nat.lt_of_le_of_lt h (Nat.le_of_ble_eq_true e)
theorem ngl {n:Nat}{k:Int}(e:decide (k<=0)=true):k<=(n:Int):=Int.le_trans (of_decide_eq_true e) (Int.natCast_nonneg n)
theorem jil {a b c:Int}(h:b<=c)(e:decide (a<=b)=true):a<=c:=Int.le_trans (of_decide_eq_true e) h
theorem ijt {a b c:Int}(h:a<=b)(e:decide (b<c)=true):a<c:=Int.lt_of_le_of_lt h (of_decide_eq_true e)
theorem sal {a b c:Nat}(h:a+(b+1)<=c):a+1+b<=c:=by rw [Nat.succ_add]; exact h
theorem bsl {a b c:Nat}(h:a+(b+1)<=c):a<c:=Nat.lt_of_lt_of_le (Nat.lt_succ_of_le (Nat.le_add_right a b)) h
theorem aL1 {a b c:Nat}(h:a+b<=c):a<=c:=Nat.le_trans (Nat.le_add_right a b) h
theorem aL2 {a b c:Nat}(h:a+b<=c):b<=c:=Nat.le_trans (Nat.le_add_left b a) h
end Mine
section
open PySem PySem.Calls PyProof.Rows PySem.W PySem.W.X
set_option maxRecDepth 100000
namespace Mine
set_option genInjectivity false in
structure CR where
 nm:Str
 q:Str
 bs:List Value
 sn:List Str
 sub:List Value
 col:Option Bool
 dd:Option Addr
 k0:Option Value
 k1:Option Value
 k2:Option Value
 k3:Option Value
 k5:Option Value
noncomputable abbrev aCt (r:CR)(C N:Addr)(bm:List Value)(ab:Bool)(ni:String):Obj:=excClassObj r.nm r.q C N r.bs bm true r.sn r.sub ab r.col r.dd r.k0 r.k1 r.k2 r.k3 r.k5 ni
noncomputable def findCls (n:Str):List Stmt->List Stmt
 | []=>[]
 | .ClassDef m _ _ b _ _ _ _ _ _ _::r=>if m==n then b else findCls n r
 | _::r=>findCls n r
structure Txt0 where
 params:Arguments
 body:List Stmt
 scope:Scope
noncomputable def vT (n:Str):List Stmt->Txt0
 | []=>⟨default,[],default⟩
 | .FunctionDef m a b _ _ _ sc _ _ _::r=>if m==n then ⟨a,b,sc⟩ else vT n r
 | _::r=>vT n r
noncomputable def vU:List Stmt:=PySem.Challenge.pw_re0160_02.main.body
noncomputable def txF (n:Str):Txt0:=vT n vU
noncomputable def txW (n:Str):Txt0:=vT n (Mine.findCls "Whitespace" vU)
noncomputable def txV (n:Str):Txt0:=vT n (Mine.findCls "_ValueFormatter" vU)
noncomputable def txA (n:Str):Txt0:=vT n (Mine.findCls "_Accumulator" vU)
set_option genInjectivity false in
structure FR where
 nm:Str
 q:Str
 doc:Value
 pm:Value
 an:Option Addr
 ct:Value
noncomputable abbrev aCo (r:FR)(T:Txt0)(clo:List (Str × Addr))(dV:Value)(cc:Addr):FuncData:=
 {name:=r.nm,qualname:=r.q,params:=T.params,body:= .stmts T.body,scope:=T.scope,globals:=mainGlobals,closure:=clo,defaults:=dV,kwdefaults:= .none,doc:=r.doc,pyModule:=r.pm,annotations:=r.an,code:= .ref cc,closureTuple:=r.ct,builtins:=builtinsNs}
noncomputable def fnD:Data->Option FuncData
 | .func f=>some f
 | _=>none
theorem fnE {d:Data}{f:FuncData}(h:fnD d=some f):d= .func f:=by cases d <;> first | exact no1 h | exact congrArg _ (Option.some.inj h)
noncomputable def clD:Data->Option ClassData
 | .cls f=>some f
 | _=>none
theorem clE {d:Data}{f:ClassData}(h:clD d=some f):d= .cls f:=by cases d <;> first | exact no1 h | exact congrArg _ (Option.some.inj h)
noncomputable def fiD:Data->Option (Array Value)
 | .fields f=>some f
 | _=>none
theorem fiE {d:Data}{f:Array Value}(h:fiD d=some f):d= .fields f:=by cases d <;> first | exact no1 h | exact congrArg _ (Option.some.inj h)
noncomputable def ceD:Data->Option (Option Value)
 | .cell f=>some f
 | _=>none
theorem ceE {d:Data}{f:Option Value}(h:ceD d=some f):d= .cell f:=by cases d <;> first | exact no1 h | exact congrArg _ (Option.some.inj h)
noncomputable def sqD:Data->Option (Array Value × Nat)
 | .seq f n=>some (f,n)
 | _=>none
theorem sqE {d:Data}{f:Array Value × Nat}(h:sqD d=some f):d= .seq f.1 f.2:=by cases d <;> first | exact no1 h | exact Option.some.inj h▸rfl
noncomputable def diD:Data->Option (Array DictEntry × Nat)
 | .dict f n=>some (f,n)
 | _=>none
theorem diE {d:Data}{f:Array DictEntry × Nat}(h:diD d=some f):d= .dict f.1 f.2:=by cases d <;> first | exact no1 h | exact Option.some.inj h▸rfl
theorem obE {o:Obj}{d:Data}(h:o.data=d):o=⟨o.cls,o.dict,d,o.slots⟩:=h▸rfl
noncomputable def reV:Value->Option Addr
 | .ref a=>some a
 | _=>none
theorem reE {v:Value}{a:Addr}(h:reV v=some a):v= .ref a:=by cases v <;> first | exact no1 h | exact congrArg _ (Option.some.inj h)
noncomputable def stV:Value->Option (Str × Tok)
 | .str s t=>some (s,t)
 | _=>none
theorem stE {v:Value}{a:Str × Tok}(h:stV v=some a):v= .str a.1 a.2:=by cases v <;> first | exact no1 h | exact Option.some.inj h▸rfl
noncomputable def inV:Value->Option (Int × Tok)
 | .int s t=>some (s,t)
 | _=>none
theorem inE {v:Value}{a:Int × Tok}(h:inV v=some a):v= .int a.1 a.2:=by cases v <;> first | exact no1 h | exact Option.some.inj h▸rfl
noncomputable def boV:Value->Option Bool
 | .bool b=>some b
 | _=>none
theorem boE {v:Value}{a:Bool}(h:boV v=some a):v= .bool a:=by cases v <;> first | exact no1 h | exact congrArg _ (Option.some.inj h)
theorem aIy {α:Type}{o:Option α}{p:α->Bool}{P:Prop}(h:o.any p=true)(q:∀x,o=some x->p x=true->P):P:=by
 cases o
 ·exact no3 h
 ·exact q _ rfl h
noncomputable def pB (K:Frag)(cc:Addr)(f:Str):Bool:=((((K.lookup cc).bind fun o=>fiD o.data).bind fun vs=>vs.toList[2]?).bind stV).any fun s=>f==s.1
theorem aLj {K:Frag}{cc:Addr}{f:Str}{P:Prop}(h:pB K cc f=true)(q:∀o vs g t,K.lookup cc=some o->o.data= .fields vs->vs[2]? =some (.str g t)->(f==g)=true->P):P:=by
 refine aIy h fun s hs e=>aB hs fun v hv h3=>aB hv fun vs hvs h2=>aB hvs fun o ho h1=>q o vs s.1 s.2 ho (fiE h1) ?_ e
 rw [<- Array.getElem?_toList,h2,stE h3]
def aCp (K:Frag)(a:Addr)(T:Txt0)(clo:List (Str × Addr))(dV:Value)(cc:Addr):Prop:=
 ∃r,K.lookup a=some ⟨.type "function",none,.func (aCo r T clo dV cc), #[]⟩/\codeIn K (.ref cc) r.q=true/\pB K cc PySem.Challenge.rw_re0160_02.row.prog.main.file=true
noncomputable def mOf (K:Frag)(a:Addr)(n:Str):Option Value:=((K.lookup a).bind fun o=>diD o.data).bind fun e=>nsFind e.1 n
noncomputable def aCu (K:Frag)(a:Addr):Bool:=((K.lookup a).bind fun o=>diD o.data).any fun e=>e.1.toList.all fun e=>(stV e.key).isSome
noncomputable def aIz (v:Option Value)(b:Addr):Bool:=(v.bind reV).any fun a=>a==b
noncomputable def jQ:List Str:=[Str.ofString "len",Str.ofString "chr",Str.ofString "ord",Str.ofString "min",Str.ofString "max",Str.ofString "sum",Str.ofString "range",Str.ofString "tuple",Str.ofString "list",Str.ofString "str",Str.ofString "super"]
noncomputable def aI0:List (Str × Addr):=[(Str.ofString "Whitespace",278),(Str.ofString "_ValueFormatter",128),(Str.ofString "_Accumulator",212),(Str.ofString "quotedata",55),(Str.ofString "_law_heaps",289),(Str.ofString "_law_rows",294),(Str.ofString "_law_filled",301),(Str.ofString "_law_order",306),(Str.ofString "_law_lead",313),
 (Str.ofString "_law_counts",318),(Str.ofString "_law_renamed",325),(Str.ofString "_law_column",330),(Str.ofString "_twin_re_1",43),(Str.ofString "_twin_re_2",48),(Str.ofString "law",335),(Str.ofString "__builtins__",4)]
noncomputable def aLk:List (Str × Addr):=[(Str.ofString "__init__",233),(Str.ofString "longest_run_of_spaces",240),(Str.ofString "indent_level",247),(Str.ofString "equal",254),(Str.ofString "not_equal_witness",261),(Str.ofString "less",268)]
noncomputable def aI1:List Str:=[Str.ofString "__getattribute__",Str.ofString "__getattr__",Str.ofString "__setattr__",Str.ofString "raw",Str.ofString "n",Str.ofString "nt",Str.ofString "norm",Str.ofString "is_simple"]
noncomputable def aLl:List (Str × Addr):=[(Str.ofString "__init__",69),(Str.ofString "_str",76),(Str.ofString "newline",90),(Str.ofString "_append_chunk",125)]
noncomputable def aI2:List Str:=[Str.ofString "__getattribute__",Str.ofString "__getattr__",Str.ofString "__setattr__",Str.ofString "_maxlen",Str.ofString "_continuation_ws",Str.ofString "_continuation_ws_len",Str.ofString "_splitchars",Str.ofString "_lines",Str.ofString "_current_line"]
noncomputable def aLm:List (Str × Addr):=[(Str.ofString "__init__",149),(Str.ofString "push",156),(Str.ofString "pop_from",164),(Str.ofString "pop",172),(Str.ofString "__len__",179),(Str.ofString "__str__",186),(Str.ofString "reset",194),(Str.ofString "is_onlyws",201),(Str.ofString "part_count",209)]
noncomputable def aI3:List Str:=[Str.ofString "__getattribute__",Str.ofString "__getattr__",Str.ofString "__setattr__",Str.ofString "__getitem__",Str.ofString "__setitem__",Str.ofString "__iter__",Str.ofString "_initial_size",Str.ofString "append",Str.ofString "__bool__"]
noncomputable def nQ (K:Frag)(a:Addr)(l:List (Str × Addr)):Bool:=l.all fun p=>aIz (mOf K a p.1) p.2
noncomputable def gK (K:Frag)(a:Addr)(l:List Str):Bool:=l.all fun p=>(mOf K a p).isNone
def aCv (K:Frag)(C N:Addr)(bm:List Value)(newId:String):Prop:=∃r,K.lookup C=some (aCt r C N bm false newId)
def aCw (K:Frag)(a:Addr)(code:Array Nat):Prop:=
 ∃f ca oc ci n,K.lookup a=some ⟨.type "re.Pattern",none,.fields f, #[]⟩/\f.getD 2 .none= .int 0 0/\f.getD 5 .none= .ref ca/\f.getD 6 .none= .int 0 0/\K.lookup ca=some oc/\oc.data= .seq ci n/\(ci.map PySem.Builtin.Re.reRawOf).map (·.toNat)=code
def tM (K:Frag)(T:Addr)(v:Value):Prop:=∃c d n sl,K.lookup T=some ⟨c,d,.seq #[v] n,sl⟩
def aLn (h:Heap)(c P:Addr):Prop:=∃ps,h.IsCode c P ps/\h.TableAt c P ps
noncomputable def fnV (K:Frag)(a:Addr):Option (Value × Option Addr × FuncData × Array (Option Value) × Bool):=(K.lookup a).bind fun o=>(fnD o.data).map fun f=>
 (o.cls,o.dict,{f with name:= .empty,qualname:= .empty,doc:= .none,pyModule:= .none,annotations:=none,closureTuple:= .none},o.slots,codeIn K f.code f.qualname&&(reV f.code).any fun cc=>pB K cc PySem.Challenge.rw_re0160_02.row.prog.main.file)
noncomputable abbrev fr0:FR:=⟨.empty,.empty,.none,.none,none,.none⟩
theorem aLo {K:Frag}{a cc:Addr}{T:Txt0}{clo:List (Str × Addr)}{dV:Value}(e:fnV K a=some (.type "function",none,aCo fr0 T clo dV cc, #[],true)):aCp K a T clo dV cc:=
 aB e fun o ho e=>gJ e fun f hf e=>by
  have e1:(⟨o.cls,o.dict,.func f,o.slots⟩:Obj)=⟨.type "function",none,.func (aCo ⟨f.name,f.qualname,f.doc,f.pyModule,f.annotations,f.closureTuple⟩ T clo dV cc), #[]⟩:=
   congrArg (fun t:Value × Option Addr × FuncData × Array (Option Value) × Bool=>(⟨t.1,t.2.1,.func {t.2.2.1 with name:=f.name,qualname:=f.qualname,doc:=f.doc,pyModule:=f.pyModule,annotations:=f.annotations,closureTuple:=f.closureTuple},t.2.2.2.1⟩:Obj)) e
  have e2:f.code= .ref cc:=congrArg (fun t:Value × Option Addr × FuncData × Array (Option Value) × Bool=>t.2.2.1.code) e;have e3:=congrArg (fun t:Value × Option Addr × FuncData × Array (Option Value) × Bool=>t.2.2.2.2) e;obtain ⟨q1,q2⟩:=Bool.and_eq_true_iff.mp e3;rw [e2] at q1 q2;exact ⟨_,ho.trans (congrArg some ((obE (fnE hf)).trans e1)),q1,q2⟩
noncomputable def clsV (K:Frag)(C:Addr):Option (Value × ClassData × Nat × Option Value):=(K.lookup C).bind fun o=>(clD o.data).map fun d=>
 (o.cls,{d with name:= .empty,bases:=[],qualname:= .empty,slotNames:=[],subclasses:=[],collection:=none},o.slots.toList.length,o.slots.toList.getD 4 none)
theorem six {α:Type}{l:List α}{x:α}(h:l.length=6):l=[l.getD 0 x,l.getD 1 x,l.getD 2 x,l.getD 3 x,l.getD 4 x,l.getD 5 x]:=by
 obtain ⟨a,l,rfl⟩:=List.exists_cons_of_length_eq_add_one h;obtain ⟨b,l,rfl⟩:=List.exists_cons_of_length_eq_add_one (Nat.succ.inj h);obtain ⟨c,l,rfl⟩:=List.exists_cons_of_length_eq_add_one (Nat.succ.inj (Nat.succ.inj h));obtain ⟨d,l,rfl⟩:=List.exists_cons_of_length_eq_add_one (Nat.succ.inj (Nat.succ.inj (Nat.succ.inj h)));obtain ⟨e,l,rfl⟩:=List.exists_cons_of_length_eq_add_one (Nat.succ.inj (Nat.succ.inj (Nat.succ.inj (Nat.succ.inj h))));obtain ⟨f,l,rfl⟩:=List.exists_cons_of_length_eq_add_one (Nat.succ.inj (Nat.succ.inj (Nat.succ.inj (Nat.succ.inj (Nat.succ.inj h)))));rw [List.eq_nil_of_length_eq_zero (Nat.succ.inj (Nat.succ.inj (Nat.succ.inj (Nat.succ.inj (Nat.succ.inj (Nat.succ.inj h))))))]; rfl
theorem yH {K:Frag}{C N:Addr}{bm:List Value}{newId:String}(e:clsV K C=some (.type "type",{name:= .empty,bases:=[],mro:= .ref C::bm,ns:=N,qualname:= .empty,hasDict:=true,slotNames:=[],subclasses:=[],abstract:=false,collection:=none,hasDel:=false},6,some (.builtin newId))):aCv K C N bm newId:=
 aB e fun o ho e=>gJ e fun f hf e=>by
  have e1:=congrArg (fun t:Value × ClassData × Nat × Option Value=>(⟨t.1,o.dict,.cls {t.2.1 with name:=f.name,bases:=f.bases,qualname:=f.qualname,slotNames:=f.slotNames,subclasses:=f.subclasses,collection:=f.collection}, #[o.slots.toList.getD 0 none,o.slots.toList.getD 1 none,o.slots.toList.getD 2 none,o.slots.toList.getD 3 none,t.2.2.2,o.slots.toList.getD 5 none]⟩:Obj)) e;have e2:o.slots=⟨_⟩:=congrArg Array.mk (six (x:=none) (congrArg (fun t:Value × ClassData × Nat × Option Value=>t.2.2.1) e));have e3:o=⟨o.cls,o.dict,.cls f,⟨_⟩⟩:=(obE (clE hf)).trans (congrArg (Obj.mk _ _ _) e2);exact ⟨⟨f.name,f.qualname,f.bases,f.slotNames,f.subclasses,f.collection,o.dict,_,_,_,_,_⟩,ho.trans (congrArg some (e3.trans e1))⟩
noncomputable def aM6 (K:Frag)(a:Addr):Option (Value × Option Addr × Array (Option Value) × Value × Value × Array Nat):=(K.lookup a).bind fun o=>(fiD o.data).bind fun f=>(reV (f.getD 5 .none)).bind fun ca=>
 ((K.lookup ca).bind fun o=>sqD o.data).map fun c=>(o.cls,o.dict,o.slots,f.getD 2 .none,f.getD 6 .none,(c.1.map PySem.Builtin.Re.reRawOf).map (·.toNat))
theorem aFc {K:Frag}{a:Addr}{code:Array Nat}(e:aM6 K a=some (.type "re.Pattern",none, #[],.int 0 0,.int 0 0,code)):aCw K a code:=
 aB e fun o ho e=>aB e fun f hf e=>aB e fun ca h5 e=>gJ e fun c hc e=>aB hc fun o' ho' hc=>by
  have e1:=congrArg (fun t:Value × Option Addr × Array (Option Value) × Value × Value × Array Nat=>(⟨t.1,t.2.1,.fields f,t.2.2.1⟩:Obj)) e;exact ⟨f,ca,o',c.1,c.2,ho.trans (congrArg some ((obE (fiE hf)).trans e1)),congrArg (fun t:Value × Option Addr × Array (Option Value) × Value × Value × Array Nat=>t.2.2.2.1) e,reE h5,congrArg (fun t:Value × Option Addr × Array (Option Value) × Value × Value × Array Nat=>t.2.2.2.2.1) e,ho',sqE hc,congrArg (fun t:Value × Option Addr × Array (Option Value) × Value × Value × Array Nat=>t.2.2.2.2.2) e⟩
noncomputable def aI4 (K:Frag)(a:Addr):Option (Option Value):=(K.lookup a).bind fun o=>ceD o.data
theorem aGe {K:Frag}{a:Addr}{v:Option Value}(e:aI4 K a=some v):∃c d sl,K.lookup a=some ⟨c,d,.cell v,sl⟩:=
 aB e fun o ho e=>⟨_,_,_,ho.trans (congrArg some (obE (ceE e)))⟩
noncomputable def vV (v:Value):Value:=(inV v).elim v fun i=> .int i.1 0
noncomputable def aCx (K:Frag)(a:Addr):Option (Nat × Value):=((K.lookup a).bind fun o=>sqD o.data).map fun s=>(s.1.toList.length,vV (s.1.toList.getD 0 .none))
theorem rJ {K:Frag}{a:Addr}{u:Value}(e:aCx K a=some (1,u)):∃v,tM K a v/\vV v=u:=
 gJ e fun s hs e=>aB hs fun o ho hs=>by
  obtain ⟨v,hv⟩:=List.length_eq_one_iff.mp (congrArg Prod.fst e);have e2:=congrArg Prod.snd e;dsimp only at e2;rw [hv] at e2;exact ⟨v,⟨_,_,_,_,ho.trans (congrArg some ((obE (sqE hs)).trans (congrArg (fun x=>Obj.mk o.cls o.dict (.seq x s.2) o.slots) (congrArg Array.mk hv))))⟩,e2⟩
theorem yI {v:Value}{i:Int}(e:vV v=Value.int i 0):∃t,v= .int i t:=by
 unfold vV at e
 cases h:inV v with
 | some a=>rw [h] at e;exact ⟨a.2,(inE h).trans (congrArg (fun x=>Value.int x a.2) (Value.int.inj e).1)⟩
 | none=>rw [h] at e;exact ⟨0,e⟩
theorem aGf {v:Value}(e:vV v=Value.none):v= .none:=by
 unfold vV at e
 cases h:inV v with
 | some a=>rw [h] at e;nomatch e
 | none=>rw [h] at e;exact e
end Mine
end
section
open PySem
set_option maxRecDepth 100000
namespace Mine
open Sre
noncomputable def bY:Array Nat:= #[14,9,4,1,2,16,10,16,13,0,7,7,16,13,16,10,15,18,5,16,10,15,13,11,16,13,5,5,0,16,10,1,15,2,0,1]
noncomputable def jR:Array Nat:= #[14,4,0,1,1,6,1,16,46,1]
theorem rf {n:Nat}{m:M}(h:m.outcome=none):m.runFor (n+1)=m.step.runFor n:=by
 show (if m.outcome.isSome=true then m else m.step.runFor n)=_;rw [h]; rfl
theorem gL {m:M}(h1:m.outcome=none)(h2:m.answer=none)(h3:m.pc<m.code.size):m.step=m.exec:=by
 unfold M.step;rw [h1,h2];simp only [Option.isSome_none,Bool.false_eq_true,if_false];rw [if_pos h3]
theorem tN {m:M}(hop:ops[m.word 0]? =some .LITERAL)(hop':ops[m.code.getD m.pc 0]? =some .LITERAL)(hpos:m.pos<m.lim)(hc:(m.text.getD m.pos 0==m.code.getD (m.pc+1) 0)=true):
  m.exec={m with seen:=m.seen.add (m.word 0),pc:=m.pc+2,pos:=m.pos+1}:=by
 unfold M.exec;rw [hop];dsimp only;rw [if_neg (Nat.not_le.mpr hpos)];unfold accepts itemWidth;rw [hop'];dsimp only;rw [hc]
theorem jS {m:M}(hop:ops[m.word 0]? =some .LITERAL)(hop':ops[m.code.getD m.pc 0]? =some .LITERAL)(hc:¬m.pos<m.lim\/(m.text.getD m.pos 0==m.code.getD (m.pc+1) 0)=false):
  m.exec={m with seen:=m.seen.add (m.word 0),answer:=some false}:=by
 unfold M.exec;rw [hop];dsimp only
 by_cases hpos:m.pos<m.lim
 ·rw [if_neg (Nat.not_le.mpr hpos)];have hc:=hc.resolve_left (fun h=>h hpos);unfold accepts;rw [hop'];dsimp only;rw [hc];rfl
 ·rw [if_pos (Nat.not_lt.mp hpos)];rfl
noncomputable def st2 (text:Array Nat)(s:Nat)(seen:Seen)(pc pos:Nat)(fr:List Sre.Frame)(wt:Nat)(ans:Option Bool)(handed:Nat)(outer:Bool):M:=
 {code:=bY,text,lim:=text.size,start:=s,lastStart:=text.size,pc,pos,handed,outermost:=outer,marks:= #[],lastmark:= -1,lastindex:= -1,frames:=fr,weight:=wt,answer:=ans,seen}
noncomputable def ns (s:Nat):Sre.Frame:={wait:= .nextStart,pc:=10,pos:=s,outermost:=true}
noncomputable def nb (pc s:Nat):Sre.Frame:={wait:= .nextBranch,pc:=pc,pos:=s,outermost:=true,kept:={lastmark:= -1,lastindex:= -1,whole:=false,marks:= #[]}}
noncomputable def ln (s:Nat):Sre.Frame:={wait:= .lookNot,pc:=26,pos:=s,outermost:=true,kept:={lastmark:= -1,lastindex:= -1,whole:=false,marks:= #[]}}
section
variable {text:Array Nat}{s pos:Nat}{seen:Seen}{fr:List Sre.Frame}{wt handed:Nat}{outer:Bool}
theorem jT {pc c:Nat}(h1:bY.getD pc 0=16)(h2:bY.getD (pc+1) 0=c)(h3:pc<36)(hp:pos<text.size)(hc:text.getD pos 0=c):
  ∃se,(st2 text s seen pc pos fr wt none handed outer).step=st2 text s se (pc+2) (pos+1) fr wt none handed outer:=by
 have hw:(st2 text s seen pc pos fr wt none handed outer).word 0=16:=h1;refine ⟨_,(gL rfl rfl h3).trans ((tN (by rw [hw]; rfl) (by show ops[bY.getD pc 0]? =_;rw [h1]; rfl) hp (by show (text.getD pos 0==bY.getD (pc+1) 0)=true;rw [hc,h2]; simp)).trans rfl)⟩
theorem tO {pc c:Nat}(h1:bY.getD pc 0=16)(h2:bY.getD (pc+1) 0=c)(h3:pc<36)(hc:¬pos<text.size\/text.getD pos 0≠c):
  ∃se,(st2 text s seen pc pos fr wt none handed outer).step=st2 text s se pc pos fr wt (some false) handed outer:=by
 have hw:(st2 text s seen pc pos fr wt none handed outer).word 0=16:=h1;refine ⟨_,(gL rfl rfl h3).trans ((jS (by rw [hw]; rfl) (by show ops[bY.getD pc 0]? =_;rw [h1]; rfl) (hc.imp id fun hc=>by show (text.getD pos 0==bY.getD (pc+1) 0)=false;rw [h2]; simpa using hc)).trans rfl)⟩
def Hit (m:M)(s e n:Nat):Prop:=(m.runFor n).outcome=some .matched/\(m.runFor n).start=s/\(m.runFor n).handed=e
theorem Hit.back {m m':M}{s e n:Nat}(h:Hit m' s e n)(e1:m.step=m')(h0:m.outcome=none):Hit m s e (n+1):=by
 subst e1;unfold Hit;rw [rf h0];exact h
theorem aGg (e:Nat):Hit (st2 text s seen 35 e [nb pos s,ns s] wt none handed true) s e 4:=by
 refine ⟨rfl,rfl,rfl⟩
theorem aI5 (hs:s<text.size)(h:text.getD s 0=10):Hit (st2 text s seen 10 s [ns s] 1 none s true) s (s+1) 9:=by
 obtain ⟨se1,e1⟩:∃se,(st2 text s seen 10 s [ns s] 1 none s true).step=st2 text s se 12 s [nb 11 s,ns s] 2 none s true:=⟨_,rfl⟩;obtain ⟨se2,e2⟩:=tO (text:=text) (s:=s) (pos:=s) (seen:=se1) (fr:=[nb 11 s,ns s]) (wt:=2) (handed:=s) (outer:=true) (pc:=12) rfl rfl (by decide) (.inr (by rw [h]; decide));obtain ⟨se3,e3⟩:∃se,(st2 text s se2 12 s [nb 11 s,ns s] 2 (some false) s true).step=st2 text s se 19 s [nb 18 s,ns s] 2 none s true:=⟨_,rfl⟩;obtain ⟨se4,e4⟩:=jT (text:=text) (s:=s) (pos:=s) (seen:=se3) (fr:=[nb 18 s,ns s]) (wt:=2) (handed:=s) (outer:=true) (pc:=19) rfl rfl (by decide) hs h;obtain ⟨se5,e5⟩:∃se,(st2 text s se4 21 (s+1) [nb 18 s,ns s] 2 none s true).step=st2 text s se 35 (s+1) [nb 18 s,ns s] 2 none s true:=⟨_,rfl⟩;exact (((((aGg (s+1)).back e5 rfl).back e4 rfl).back e3 rfl).back e2 rfl).back e1 rfl
theorem aCy (hs:s+1<text.size)(h:text.getD s 0=13)(h':text.getD (s+1) 0=10):Hit (st2 text s seen 10 s [ns s] 1 none s true) s (s+2) 8:=by
 obtain ⟨se1,e1⟩:∃se,(st2 text s seen 10 s [ns s] 1 none s true).step=st2 text s se 12 s [nb 11 s,ns s] 2 none s true:=⟨_,rfl⟩;obtain ⟨se2,e2⟩:=jT (text:=text) (s:=s) (pos:=s) (seen:=se1) (fr:=[nb 11 s,ns s]) (wt:=2) (handed:=s) (outer:=true) (pc:=12) rfl rfl (by decide) (by lia) h;obtain ⟨se3,e3⟩:=jT (text:=text) (s:=s) (pos:=s+1) (seen:=se2) (fr:=[nb 11 s,ns s]) (wt:=2) (handed:=s) (outer:=true) (pc:=14) rfl rfl (by decide) hs h';obtain ⟨se4,e4⟩:∃se,(st2 text s se3 16 (s+2) [nb 11 s,ns s] 2 none s true).step=st2 text s se 35 (s+2) [nb 11 s,ns s] 2 none s true:=⟨_,rfl⟩;exact ((((aGg (s+2)).back e4 rfl).back e3 rfl).back e2 rfl).back e1 rfl
theorem aI6 (hs:s<text.size)(h:text.getD s 0=13)(h':¬s+1<text.size\/text.getD (s+1) 0≠10):Hit (st2 text s seen 10 s [ns s] 1 none s true) s (s+1) 15:=by
 obtain ⟨se1,e1⟩:∃se,(st2 text s seen 10 s [ns s] 1 none s true).step=st2 text s se 12 s [nb 11 s,ns s] 2 none s true:=⟨_,rfl⟩;obtain ⟨se2,e2⟩:=jT (text:=text) (s:=s) (pos:=s) (seen:=se1) (fr:=[nb 11 s,ns s]) (wt:=2) (handed:=s) (outer:=true) (pc:=12) rfl rfl (by decide) hs h;obtain ⟨se3,e3⟩:=tO (text:=text) (s:=s) (pos:=s+1) (seen:=se2) (fr:=[nb 11 s,ns s]) (wt:=2) (handed:=s) (outer:=true) (pc:=14) rfl rfl (by decide) h';obtain ⟨se4,e4⟩:∃se,(st2 text s se3 14 (s+1) [nb 11 s,ns s] 2 (some false) s true).step=st2 text s se 19 s [nb 18 s,ns s] 2 none s true:=⟨_,rfl⟩;obtain ⟨se5,e5⟩:=tO (text:=text) (s:=s) (pos:=s) (seen:=se4) (fr:=[nb 18 s,ns s]) (wt:=2) (handed:=s) (outer:=true) (pc:=19) rfl rfl (by decide) (.inr (by rw [h]; decide));obtain ⟨se6,e6⟩:∃se,(st2 text s se5 19 s [nb 18 s,ns s] 2 (some false) s true).step=st2 text s se 24 s [nb 23 s,ns s] 2 none s true:=⟨_,rfl⟩;obtain ⟨se7,e7⟩:=jT (text:=text) (s:=s) (pos:=s) (seen:=se6) (fr:=[nb 23 s,ns s]) (wt:=2) (handed:=s) (outer:=true) (pc:=24) rfl rfl (by decide) hs h;obtain ⟨se8,e8⟩:∃se,(st2 text s se7 26 (s+1) [nb 23 s,ns s] 2 none s true).step=st2 text s se 29 (s+1) [ln (s+1),nb 23 s,ns s] 3 none (s+1) false:=⟨_,rfl⟩;obtain ⟨se9,e9⟩:=tO (text:=text) (s:=s) (pos:=s+1) (seen:=se8) (fr:=[ln (s+1),nb 23 s,ns s]) (wt:=3) (handed:=s+1) (outer:=false) (pc:=29) rfl rfl (by decide) h';obtain ⟨se10,e10⟩:∃se,(st2 text s se9 29 (s+1) [ln (s+1),nb 23 s,ns s] 3 (some false) (s+1) false).step=st2 text s se 32 (s+1) [nb 23 s,ns s] 2 none (s+1) true:=⟨_,rfl⟩;obtain ⟨se11,e11⟩:∃se,(st2 text s se10 32 (s+1) [nb 23 s,ns s] 2 none (s+1) true).step=st2 text s se 35 (s+1) [nb 23 s,ns s] 2 none (s+1) true:=⟨_,rfl⟩;exact (((((((((((aGg (s+1)).back e11 rfl).back e10 rfl).back e9 rfl).back e8 rfl).back e7 rfl).back e6 rfl).back e5 rfl).back e4 rfl).back e3 rfl).back e2 rfl).back e1 rfl
end
end Mine
end
section
open PySem PySem.Calls PyProof.Rows PySem.W PySem.W.X
set_option maxRecDepth 100000
namespace Mine
noncomputable def jU:List Addr:=[2,3,277,278,127,128,136,141,157,187,211,212,42,43,47,48,178,185,233,240,247,254,261,268,69,76,90,125,149,156,164,172,179,186,194,201,209,55,289,294,301,306,313,318,325,330,335,
 232,239,246,253,260,267,68,75,89,124,148,155,163,171,193,200,208,54,288,293,300,305,312,317,324,329,334]
noncomputable def KA (l:List Addr)(h:Heap):Frag:=l.map fun a=>(a,(h.get? a).getD default)
noncomputable def aGh (K:Frag)(n x:Str):Bool:=((mOf K 3 n).bind stV).any fun y=>x==y.1
noncomputable def aI7:PySem.W.CFound->Option Value
 | .val a=>some a
 | _=>none
theorem aNq {c:PySem.W.CFound}{a:Value}(h:aI7 c=some a):c= .val a:=by cases c <;> first | exact no1 h | exact congrArg _ (Option.some.inj h)
noncomputable def yJ (K:Frag)(n x:Str):Bool:=(((PySem.W.findCls K (.ref 278) (.type "type") n).bind aI7).bind stV).any fun y=>x==y.1
noncomputable def okB (K:Frag):Bool:=aCu K 3&&(aCu K 277&&(aCu K 127&&(aCu K 211&&(gK K 3 jQ&&(nQ K 3 aI0&&(nQ K 277 aLk&&(gK K 277 aI1&&(nQ K 127 aLl&&(gK K 127 aI2&&(nQ K 211 aLm&&(gK K 211 aI3&&
 (aGh K "EMPTYSTRING" ""&&(aGh K "CRLF" "\r\n"&&(readsIn K 278 (.type "type")&&(yJ K "S" " "&&yJ K "T" "\t")))))))))))))))
noncomputable def aLp (K:Frag)(h:Heap)(c P:Addr):Option (Value × Value × Obj):=(K.lookup c).bind fun o=>(fiD o.data).bind fun vs=>vs[11]?.bind fun p=>(stV (vs.getD 18 .none)).bind fun _=>(inV (vs.getD 7 .none)).bind fun _=>(boV (vs.getD 9 .none)).bind fun _=>(inV (vs.getD 10 .none)).bind fun _=>(h.get? P).map fun q=>(o.cls,p,q)
noncomputable def yK:List (Addr × Txt0 × List (Str × Addr) × Value × Addr):=[(233,txW "__init__",[],.none,232),(240,txW "longest_run_of_spaces",[],.none,239),(247,txW "indent_level",[],.none,246),(254,txW "equal",[],.none,253),(261,txW "not_equal_witness",[],.none,260),(268,txW "less",[],.none,267),
 (69,txV "__init__",[],.none,68),(76,txV "_str",[],.none,75),(90,txV "newline",[],.none,89),(125,txV "_append_chunk",[],.none,124),(149,txA "__init__",[("__class__",136)],.ref 141,148),(156,txA "push",[],.none,155),(164,txA "pop_from",[],.ref 157,163),(172,txA "pop",[("__class__",136)],.none,171),
 (179,txA "__len__",[],.none,178),(186,txA "__str__",[],.none,185),(194,txA "reset",[],.ref 187,193),(201,txA "is_onlyws",[],.none,200),(209,txA "part_count",[("__class__",136)],.none,208),(55,txF "quotedata",[],.none,54),(289,txF "_law_heaps",[],.none,288),(294,txF "_law_rows",[],.none,293),
 (301,txF "_law_filled",[],.none,300),(306,txF "_law_order",[],.none,305),(313,txF "_law_lead",[],.none,312),(318,txF "_law_counts",[],.none,317),(325,txF "_law_renamed",[],.none,324),(330,txF "_law_column",[],.none,329),(335,txF "law",[],.none,334)]
noncomputable def aGi (t:Addr × Txt0 × List (Str × Addr) × Value × Addr):Option (Value × Option Addr × FuncData × Array (Option Value) × Bool):=some (.type "function",none,aCo fr0 t.2.1 t.2.2.1 t.2.2.2.1 t.2.2.2.2, #[],true)
noncomputable def aFd:List (Addr × Addr × List Value × String):=[(278,277,[.type "object"],"object.__new__"),(128,127,[.type "object"],"object.__new__"),(212,211,[.type "list",.type "object"],"list.__new__")]
noncomputable def aI8 (t:Addr × Addr × List Value × String):Option (Value × ClassData × Nat × Option Value):=some (.type "type",{name:= .empty,bases:=[],mro:= .ref t.1::t.2.2.1,ns:=t.2.1,qualname:= .empty,hasDict:=true,slotNames:=[],subclasses:=[],abstract:=false,collection:=none,hasDel:=false},6,some (.builtin t.2.2.2))
noncomputable def aFe:List (Addr × Array Nat):=[(43,jR),(48,bY)]
noncomputable def aI9 (c:Array Nat):Option (Value × Option Addr × Array (Option Value) × Value × Value × Array Nat):=some (.type "re.Pattern",none, #[],.int 0 0,.int 0 0,c)
noncomputable abbrev Seen1:Type:=Bool × Bool × List (Option (Value × Option Addr × FuncData × Array (Option Value) × Bool)) × List (Option (Value × ClassData × Nat × Option Value)) × List (Option (Value × Value × Obj)) × Option (Option Value) × Option (Option Value) × List (Option (Nat × Value)) × List (Option (Value × Option Addr × Array (Option Value) × Value × Value × Array Nat)) × Bool
noncomputable def aCz (K:Frag)(h:Heap)(tk:Nat):Seen1:=
 (okB K,jU.all fun a=>(h.get? a).isSome,yK.map fun t=>fnV K t.1,aFd.map fun t=>clsV K t.1,[aLp K h 178 174,aLp K h 185 181],aI4 K 136,nsIn K cStatics "thirdparty.any",[aCx K 141,aCx K 157,aCx K 187],aFe.map fun t=>aM6 K t.1,Nat.blt 0 tk)
noncomputable def nS:Seen1:=(true,true,yK.map aGi,aFd.map aI8,[some (.type "code",.ref 174,⟨.none,none,.fields #[], #[]⟩),some (.type "code",.ref 181,⟨.none,none,.fields #[], #[]⟩)],some (some (.ref 212)),some none,[some (1,.int 0 0),some (1,.int 0 0),some (1,.none)],aFe.map fun t=>aI9 t.2,true)
noncomputable def aLq:List Stmt:=[0,23].filterMap fun i=>PySem.Challenge.rw_re0160_02.row.prog.main.body[i]?
noncomputable def yL:Program:={PySem.Challenge.rw_re0160_02.row.prog with main:={PySem.Challenge.rw_re0160_02.row.prog.main with body:=aLq}}
noncomputable def yM:List Str:=[Str.ofString "_wall",Str.ofString "NL",Str.ofString "EMPTYSTRING",Str.ofString "Whitespace",Str.ofString "_ValueFormatter",Str.ofString "_Accumulator",Str.ofString "_twin_re_1",Str.ofString "_twin_re_2",Str.ofString "CRLF",Str.ofString "quotedata",Str.ofString "_law_heaps",Str.ofString "_law_rows",Str.ofString "_law_filled",Str.ofString "_law_order",Str.ofString "_law_lead",Str.ofString "_law_counts",Str.ofString "_law_renamed",Str.ofString "_law_column"]
noncomputable def Xt1 (s:Shared):Bool:=xlAt yL [] s&&recOk PySem.Challenge.rw_re0160_02.row.records s
section
noncomputable def goT (st:SharedT->Thread->Option (SharedT × Thread))(ok:Thread->Bool)(n:Nat):SharedT->Thread->Option SharedT:=
 @Nat.rec (fun _=>SharedT->Thread->Option SharedT) (fun _ _=>none) (fun _ ih s t=>bif through t then some s else bif ok t then (st s t).bind fun r=>ih r.1 r.2 else none) n
theorem tP {tb:String->Option Builtin}{p:Program}{w:World}{n'0:Nat}{ann:Option Value}{n:Nat}{s:Shared}{t:Thread}:topRun tb p w n'0 ann (n+1) s t= @Bool.rec (fun _=>Option Shared) (@Bool.rec (fun _=>Option Shared) none (@Step.rec (fun _=>Option Shared) (fun s' t'=>topRun tb p w n'0 ann n s' t') (fun _ _=>none) (step (denote tb) p w s t)) (stepOk n'0 ann t)) (some s) (through t):=by kernel_rfl
theorem aLr {tb:String->Option Builtin}{p:Program}{w:World}{n'0:Nat}{ann:Option Value}{n:Nat}{s':SharedT}:∀{s:SharedT} {t:Thread},goT (stepT (denote tb) p w) (stepOk n'0 ann) n s t=some s'->topRun tb p w n'0 ann n s.abs t=some s'.abs:=by
 induction n with
 | zero=>exact fun h=>no1 h
 | succ n ih=>
  intro s t h
  replace h:(bif through t then some s else bif stepOk n'0 ann t then (stepT (denote tb) p w s t).bind fun r=>goT (stepT (denote tb) p w) (stepOk n'0 ann) n r.1 r.2 else none)=some s':=h
  cases he:through t with
  | true=>rw [he] at h;rw [tP,he]; exact congrArg (Option.map SharedT.abs) h
  | false=>
   rw [he] at h
   cases hk:stepOk n'0 ann t with
   | false=>rw [hk] at h;exact no1 h
   | true=>
    rw [hk] at h;obtain ⟨r,hs,h⟩:=Option.bind_eq_some_iff.mp h;rw [tP,he,hk,stepT_spec hs]; exact ih h
noncomputable def yN (l:List Obj):Nat->BT->Option BT:=
 @List.rec Obj (fun _=>Nat->BT->Option BT) (fun _ t=>some t) (fun o _ ih n t=>bif ((t.ins n o).get n).isSome then ih (n+1) (t.ins n o) else none) l
theorem yO {life:Life}{t':BT}{l:List Obj}:∀{n:Nat} {t:BT},yN l n t=some t'->absHeap t' (n+l.length) life=⟨(absHeap t n life).objs++l.toArray,life⟩:=by
 induction l with
 | nil=>intro n t h;obtain rfl:=Option.some.inj h;rw [Array.append_empty]; rfl
 | cons o l ih=>
  intro n t h
  replace h:(bif ((t.ins n o).get n).isSome then yN l (n+1) (t.ins n o) else none)=some t':=h
  cases e:((t.ins n o).get n).isSome with
  | false=>rw [e] at h;exact no1 h
  | true=>
   rw [e] at h;refine (congrArg (fun k=>absHeap t' k life) (Nat.succ_add_eq_add_succ n l.length).symm).trans ((ih h).trans ?_);rw [absHeap_ins e];exact congrArg (fun x=>(⟨x,life⟩:Heap)) (by show (absHeap t n life).objs.push o++l.toArray=_;rw [<- Array.append_singleton,Array.append_assoc,List.append_toArray [o] l]; rfl)
noncomputable def toT (s:Shared):Option SharedT:=(yN s.heap.objs.toList 0 .nil).map fun t=>⟨t,s.heap.objs.size,s.heap.life,s.gens,s.drawn,s.toks,s.os⟩
theorem aJa {s:Shared}{t:SharedT}(h:toT s=some t):t.abs=s:=by
 obtain ⟨b,hb,rfl⟩:=Option.map_eq_some_iff.mp h;obtain ⟨⟨o,li⟩,g,d,k,os⟩:=s;have e:=yO (life:=li) hb;rw [Nat.zero_add] at e;refine (congrArg (fun h=>(⟨h,g,d,k,os⟩:Shared)) e).trans ?_;show (⟨⟨#[]++o.toList.toArray,li⟩,g,d,k,os⟩:Shared)=_;rw [Array.empty_append]
noncomputable abbrev CT (σ:Type):Type:=(String->Option Builtin) × ((String->Option Builtin)->Program->World->Nat->Shared->Thread->Option Shared) × (Program->Shared->Option Shared) × (Program->Shared × Thread) × ((String->Option Builtin)->Code->Sem Fin) ×
 ((Code->Sem Fin)->Program->World->SharedT->Thread->Option (SharedT × Thread)) × (Nat->Option Value->Thread->Bool) × (Heap->Addr->Str->Option Value) × (List Stmt->List Str) × (Program->List Str->List Str->(Shared->Bool)->Bool->Shared->σ)
theorem aLs:(PySem.W.Fast.tw14364793385576792824,PySem.W.Fast.tw10274390034422433532,PySem.W.Fast.tw14289696077712309145,PySem.W.Fast.tw1435165496053646825,PySem.W.Fast.tw11892475500146522536,PySem.W.Fast.tw10156331382660048174,PySem.W.Fast.tw6613529449190102663,PySem.W.Fast.tw8920871248978507458,PySem.W.Fast.tw5923862056798008813,PySem.W.Fast.tw4187177175401517315)=
  (treeTable,importEnds,fenceModules?,start,denote,stepT,stepOk,Heap.nsMap,importedModules,openSeen):=by
 rw [<- PySem.W.Fast.te14364793385576792824,<-PySem.W.Fast.te10274390034422433532,<-PySem.W.Fast.te14289696077712309145,<-PySem.W.Fast.te1435165496053646825,<-PySem.W.Fast.te11892475500146522536,<-PySem.W.Fast.te10156331382660048174,<-PySem.W.Fast.te6613529449190102663,<-PySem.W.Fast.te8920871248978507458,<-PySem.W.Fast.te5923862056798008813,<-PySem.W.Fast.te4187177175401517315]
def aC0 {σ α:Type}(c:CT σ)(P q:Program)(loose:List Str)(Xt:Shared->Bool)(Yf:Shared->α)(ya:α)(good:σ)(b:Bool):Prop:=
 ∀w:World,((c.2.1 c.1 (opening P) w 4182 (c.2.2.2.1 (opening P)).1 (c.2.2.2.1 (opening P)).2).bind (c.2.2.1 P)).bind (fun s'0=>(toT s'0).map fun t'0=>(s'0.heap.isNs mainGlobals&&s'0.gens.size==0,
  (goT (c.2.2.2.2.2.1 (c.2.2.2.2.1 c.1) P (w.withFollow "special-get-raises" b)) (c.2.2.2.2.2.2.1 s'0.heap.objs.size (c.2.2.2.2.2.2.2.1 s'0.heap mainGlobals "__annotations__")) 4182 t'0 (topStub P)).map fun s=>
   (staticsOk (c.2.2.2.2.2.2.2.2.1 P.main.body) s'0.heap s.abs.heap&&namesBound P s.abs.heap&&gensDone s.abs&&laidKept s'0.heap s.abs.heap,c.2.2.2.2.2.2.2.2.2 q loose (c.2.2.2.2.2.2.2.2.1 P.main.body) Xt true s.abs,Yf s.abs)))=some (true,some (true,good,ya))
theorem yP {P:Program}{w:World}{s'0:Shared}:topFrom treeTable P w 4182 s'0= @Bool.rec (fun _=>Option Shared) none ((topRun treeTable P w s'0.heap.objs.size (s'0.heap.nsMap mainGlobals "__annotations__") 4182 s'0 (topStub P)).bind fun s=>
  @Bool.rec (fun _=>Option Shared) none (some s) (staticsOk (importedModules P.main.body) s'0.heap s.heap&&namesBound P s.heap&&gensDone s&&laidKept s'0.heap s.heap)) (s'0.heap.isNs mainGlobals&&s'0.gens.size==0):=by kernel_rfl
variable {α:Type}{P q:Program}{loose:List Str}{Xt:Shared->Bool}{Yf:Shared->α}{ya:α}
theorem aFf {b:Bool}(h:aC0 (treeTable,importEnds,fenceModules?,start,denote,stepT,stepOk,Heap.nsMap,importedModules,openSeen) P q loose Xt Yf ya (openGood q loose) b)(w:World){Q:Prop}
  (k:∀s'0,fencedOpening treeTable P w 4182=some s'0->(topFrom treeTable P (w.withFollow "special-get-raises" b) 4182 s'0).map (fun s=>(openSeen q loose (importedModules P.main.body) Xt true s,Yf s))=some (openGood q loose,ya)->Q):Q:=by
 unfold aC0 at h;dsimp only at h;exact aB (h w) fun s'0 h1 h2=>gJ h2 fun t'0 h3 h4=>gJ (Prod.mk.inj h4).2 fun s hs e=>k s'0 h1 (by
  have r:=aLr hs;rw [aJa h3] at r;rw [yP,(Prod.mk.inj h4).1,r];exact (congrArg (fun b=>Option.map _ (@Bool.rec (fun _=>Option Shared) none (some s.abs) b)) (Prod.mk.inj e).1).trans (congrArg some (Prod.mk.inj e).2))
theorem aGj (h:∀b,aC0 (PySem.W.Fast.tw14364793385576792824,PySem.W.Fast.tw10274390034422433532,PySem.W.Fast.tw14289696077712309145,PySem.W.Fast.tw1435165496053646825,PySem.W.Fast.tw11892475500146522536,PySem.W.Fast.tw10156331382660048174,PySem.W.Fast.tw6613529449190102663,PySem.W.Fast.tw8920871248978507458,PySem.W.Fast.tw5923862056798008813,PySem.W.Fast.tw4187177175401517315) P q loose Xt Yf ya (openGood q loose) b):
  LeftO P q loose Xt Yf (fun _=>ya) 4182:=by
 rw [aLs] at h;exact LeftO.of_split "special-get-raises" fun w=>aFf (h false) w fun s'0 a b=>aFf (h true) w fun s0' a' b'=>by
  obtain rfl:=Option.some.inj (a.symm.trans a');rw [a];exact congrArg some (congr (congrArg Prod.mk b) b')
end
end Mine
end
section
open PySem PySem.Calls PyProof.Rows PySem.W PySem.W.X
set_option maxRecDepth 100000
set_option maxHeartbeats 0
namespace Mine
def aJb (b:Bool):Prop:=aC0 (PySem.W.Fast.tw14364793385576792824,PySem.W.Fast.tw10274390034422433532,PySem.W.Fast.tw14289696077712309145,PySem.W.Fast.tw1435165496053646825,PySem.W.Fast.tw11892475500146522536,PySem.W.Fast.tw10156331382660048174,PySem.W.Fast.tw6613529449190102663,PySem.W.Fast.tw8920871248978507458,PySem.W.Fast.tw5923862056798008813,PySem.W.Fast.tw4187177175401517315)
 PySem.Challenge.rw_re0160_02.row.prog yL yM Xt1 (fun s=>aCz (KA jU s.heap) s.heap s.toks) nS (openGood yL yM) b
theorem aGk:aJb false:=fun w=>by kernel_rfl
theorem aGl:aJb true:=fun w=>by kernel_rfl
theorem aLt:LeftO PySem.Challenge.rw_re0160_02.row.prog yL yM Xt1 (fun s=>aCz (KA jU s.heap) s.heap s.toks) (fun _=>nS) 4182:=aGj fun b=>by
 cases b
 ·exact aGk
 ·exact aGl
end Mine
end
section
open PySem PySem.Builtin.Re
set_option maxRecDepth 100000
namespace Mine
open Sre
theorem aJc (c:Nat)(seen:Seen):∃se,inSet bY c bY.size 5 true seen= .ok (c==10||c==13,se):=by
 have e:bY.size=36:=rfl;rw [e];have st1:inSet bY c 36 5 true seen=if c==10 then .ok (true,seen.add 16) else inSet bY c 35 7 true (seen.add 16):=rfl;have st2:∀se,inSet bY c 35 7 true se=if c==13 then .ok (true,se.add 16) else inSet bY c 34 9 true (se.add 16):=fun _=>rfl
 have st3:∀se,inSet bY c 34 9 true se= .ok (false,se.add 0):=fun _=>rfl
 rw [st1]
 rcases h:c==10 with _ | _
 ·rw [if_neg Bool.false_ne_true,st2]
  rcases h2:c==13 with _ | _
  ·rw [if_neg Bool.false_ne_true,st3]; exact ⟨_,rfl⟩
  ·rw [if_pos rfl]; exact ⟨_,rfl⟩
 ·rw [if_pos rfl]; exact ⟨_,rfl⟩
noncomputable def jV (c:Nat):Bool:=c==10||c==13
noncomputable def gD (text:Array Nat):(fuel s:Nat)->Option Nat
 | 0,_=>none
 | n+1,s=>if s>=text.size then none else if jV (text.getD s 0) then some s else gD text n (s+1)
theorem jW:∀(text:Array Nat) (x n:Nat),gD text (n+1) x=if x>=Array.size text then none else if jV (Array.getD text x 0)=true then some x else gD text n (x+1):=fun _ _ _=>rfl
theorem pC (m:M)(hc:m.code=bY)(text:Array Nat)(ht:m.text=text)(hl:m.lim=text.size):∀(fuel s:Nat) (seen:Seen), ∃se,M.admitted m fuel s seen= .ok (gD text fuel s,se)
 | 0,s,seen=>⟨_,rfl⟩
 | n+1,s,seen=>by
  by_cases hs:s>=text.size
  ·exact ⟨seen,(if_pos (hl▸hs)).trans (congrArg (fun z=>Except.ok (z,seen)) (if_pos hs).symm)⟩
  ·obtain ⟨se,e⟩:=aJc (text.getD s 0) seen;rw [jW,if_neg hs];have key:M.admitted m (n+1) s seen=(match inSet m.code (m.text.getD s 0) m.code.size 5 true seen with
    | .ok (true,seen)=> .ok (some s,seen)
    | .ok (false,seen)=>M.admitted m n (s+1) seen
    | .error why=> .error why):=if_neg (hl▸hs)
   rw [key,hc,ht,e];unfold jV
   rcases h:(text.getD s 0==10||text.getD s 0==13) with _ | _
   ·exact pC m hc text ht hl n (s+1) se
   ·exact ⟨_,rfl⟩
noncomputable def nT (text:Array Nat)(s:Nat):Nat:=if text.getD s 0=13/\s+1<text.size/\text.getD (s+1) 0=10 then s+2 else s+1
def pD (m:M)(n:Nat):Prop:=(m.runFor n).outcome=some .failed
theorem bZ {m:M}(h:m.outcome.isSome=true):∀n,m.runFor n=m
 | 0=>rfl
 | n+1=>by show (if m.outcome.isSome=true then m else m.step.runFor n)=m;rw [if_pos h]
theorem cC {m:M}:∀(n k:Nat),(m.runFor n).outcome.isSome=true->n<=k->m.runFor k=m.runFor n
 | 0,k,h,_=>(bZ h k)
 | n+1,0,_,hk=>by exact absurd hk (Nat.not_lt_zero _)
 | n+1,k+1,h,hk=>by
  by_cases h0:m.outcome.isSome=true
  ·rw [bZ h0,bZ h0]
  ·have e:∀j,m.runFor (j+1)=m.step.runFor j:=fun j=>by
    show (if m.outcome.isSome=true then m else m.step.runFor j)=_;rw [if_neg h0]
   rw [e] at h ⊢;rw [e];exact cC n k h (by exact Nat.le_of_lt_succ hk)
theorem vW (m:M):∀(a b:Nat),(m.runFor a).runFor b=m.runFor (a+b):=by
 intro a
 induction a generalizing m with
 | zero=>intro b;rw [Nat.zero_add]; rfl
 | succ a ih=>
  intro b
  by_cases h0:m.outcome.isSome=true
  ·rw [bZ h0,bZ h0,bZ h0]
  ·have e:∀j,m.runFor (j+1)=m.step.runFor j:=fun j=>by
    show (if m.outcome.isSome=true then m else m.step.runFor j)=_;rw [if_neg h0]
   rw [e,Nat.succ_add,e,ih]
theorem jL {text:Array Nat}:∀{fuel p s:Nat},gD text fuel p=some s->s<text.size/\jV (text.getD s 0)=true
 | 0,_,_,h=>no1 h
 | n+1,p,s,h=>by
  rw [jW] at h
  split at h
  ·exact no1 h
  ·split at h
   ·rename_i h1 h2
    (replace h:=Option.some.inj h;subst h)
    exact ⟨by exact Nat.lt_of_not_le h1,h2⟩
   ·exact jL h
theorem nU {text:Array Nat}:∀{fuel p s:Nat},gD text fuel p=some s->p<=s
 | 0,_,_,h=>no1 h
 | n+1,p,s,h=>by
  rw [jW] at h
  split at h
  ·exact no1 h
  ·split at h
   ·(replace h:=Option.some.inj h;subst h); exact Nat.le_refl _
   ·have:=nU h;exact Nat.le_of_lt this
noncomputable def m0 (text:Array Nat)(p:Nat):M:={code:=bY,text,lim:=text.size,start:=p,pc:=10,pos:=p,handed:=p,marks:= #[],mustAdvance:=false,seen:=({}:Seen).add 14}
theorem yQ (text:Array Nat)(p:Nat)(hp:p<=text.size):
  (gD text (text.size+1- p) p=none->pD (forSearch bY text 0 p text.size false) 16)/\
  (∀ s,gD text (text.size+1- p) p=some s->Hit (forSearch bY text 0 p text.size false) s (nT text s) 16):=by
 have hit16:∀{m:M} {s e n:Nat},Hit m s e n->n<=16->Hit m s e 16:=fun {m s e n} h hn=>by
  unfold Hit at h ⊢;rw [cC n 16 (by rw [h.1]; rfl) hn]; exact h
 have e0:forSearch bY text 0 p text.size false=if (decide (p>text.size)||decide (text.size- p<1))=true then (m0 text p).say false else M.attemptFrom {m0 text p with lastStart:=text.size} p true:=rfl;rw [e0]
 by_cases hlt:p<text.size
 ·rw [if_neg (by simp;lia)];have e1:M.attemptFrom {m0 text p with lastStart:=text.size} p true=match M.admitted {m0 text p with lastStart:=text.size} (text.size+1- p) p (m0 text p).seen with
   | .ok (some s,seen)=>M.attemptAt {m0 text p with lastStart:=text.size,mustAdvance:=false,seen} s true
   | .ok (none,seen)=>M.say {m0 text p with lastStart:=text.size,seen} false
   | .error why=>M.stick {m0 text p with lastStart:=text.size} why:=rfl
  rw [e1];obtain ⟨se,e2⟩:=pC {m0 text p with lastStart:=text.size} rfl text rfl rfl (text.size+1- p) p (m0 text p).seen;rw [e2]
  constructor
  ·intro h;rw [h];exact rfl
  ·intro s h;rw [h];show Hit (st2 text s se 10 s [ns s] 1 none s true) s (nT text s) 16;obtain ⟨hs,hc⟩:=jL h;unfold jV at hc;rw [Bool.or_eq_true,beq_iff_eq,beq_iff_eq] at hc
   rcases hc with hc | hc
   ·have:nT text s=s+1:=by unfold nT;rw [if_neg]; intro q;rw [hc] at q;exact absurd q.1 (by decide)
    rw [this];exact hit16 (aI5 hs hc) (by decide)
   ·by_cases h':s+1<text.size/\text.getD (s+1) 0=10
    ·have:nT text s=s+2:=by unfold nT;rw [if_pos ⟨hc,h'⟩]
     rw [this];exact hit16 (aCy h'.1 hc h'.2) (by decide)
    ·have:nT text s=s+1:=by unfold nT;rw [if_neg]; intro q;exact h' q.2
     rw [this];refine hit16 (aI6 hs hc ?_) (by decide)
     by_cases q:s+1<text.size
     ·exact .inr fun z=>h' ⟨q,z⟩
     ·exact .inl q
 ·have hpe:p=text.size:=by lia
  rw [if_pos (by simp;lia)]
  constructor
  ·intro _;exact rfl
  ·intro s h
   exfalso
   obtain ⟨hs,_⟩:=jL h;have:=nU h
   lia
open Sre
noncomputable def st1 (text:Array Nat)(s:Nat)(seen:Seen)(pc pos:Nat)(fr:List Sre.Frame)(wt:Nat)(ans:Option Bool)(handed:Nat)(outer:Bool):M:=
 {code:=jR,text,lim:=text.size,start:=s,lastStart:=text.size,pc,pos,handed,outermost:=outer,marks:= #[],lastmark:= -1,lastindex:= -1,frames:=fr,weight:=wt,answer:=ans,seen}
noncomputable def ns1 (s:Nat)(b:Bool):Sre.Frame:={wait:= .nextStart,pc:=5,pos:=s,outermost:=b}
noncomputable def bol (text:Array Nat)(s:Nat):Bool:=s==0||text.getD (s- 1) 0==10
noncomputable def fQ (text:Array Nat)(s:Nat):Bool:=bol text s&&decide (s<text.size)&&text.getD s 0==46
noncomputable def dI (text:Array Nat):(fuel s:Nat)->Option Nat
 | 0,_=>none
 | n+1,s=>if fQ text s then some s else if s<text.size then dI text n (s+1) else none
theorem eG:∀(text:Array Nat) (x n:Nat),dI text (n+1) x=if fQ text x=true then some x else if x<Array.size text then dI text n (x+1) else none:=fun _ _ _=>rfl
section
variable {text:Array Nat}{s pos:Nat}{seen:Seen}{fr:List Sre.Frame}{wt handed:Nat}{outer:Bool}
theorem yR (h:bol text pos=true):∃se,(st1 text s seen 5 pos fr wt none handed outer).step=st1 text s se 7 pos fr wt none handed outer:=by
 have e1:(st1 text s seen 5 pos fr wt none handed outer).step=(match (Except.ok (bol text pos):Except String Bool) with
  | .error why=>({st1 text s seen 5 pos fr wt none handed outer with seen:=seen.add 6}:M).stick why
  | .ok yes=>let m:M:={st1 text s seen 5 pos fr wt none handed outer with seen:=(seen.add 6).add 44}; if yes then {m with pc:=m.pc+2} else m.say false):=rfl
 rw [e1,h];exact ⟨_,rfl⟩
theorem aJd (h:bol text pos=false):∃se,(st1 text s seen 5 pos fr wt none handed outer).step=st1 text s se 5 pos fr wt (some false) handed outer:=by
 have e1:(st1 text s seen 5 pos fr wt none handed outer).step=(match (Except.ok (bol text pos):Except String Bool) with
  | .error why=>({st1 text s seen 5 pos fr wt none handed outer with seen:=seen.add 6}:M).stick why
  | .ok yes=>let m:M:={st1 text s seen 5 pos fr wt none handed outer with seen:=(seen.add 6).add 44}; if yes then {m with pc:=m.pc+2} else m.say false):=rfl
 rw [e1,h];exact ⟨_,rfl⟩
theorem aGm (hp:pos<text.size)(hc:text.getD pos 0=46):∃se,(st1 text s seen 7 pos fr wt none handed outer).step=st1 text s se 9 (pos+1) fr wt none handed outer:=by
 have hw:(st1 text s seen 7 pos fr wt none handed outer).word 0=16:=rfl;exact ⟨_,(gL rfl rfl (by show 7<jR.size;decide)).trans ((tN (by rw [hw]; rfl) rfl hp (by show (text.getD pos 0==46)=true;rw [hc]; rfl)).trans rfl)⟩
theorem aFg (hc:¬pos<text.size\/text.getD pos 0≠46):∃se,(st1 text s seen 7 pos fr wt none handed outer).step=st1 text s se 7 pos fr wt (some false) handed outer:=by
 have hw:(st1 text s seen 7 pos fr wt none handed outer).word 0=16:=rfl;exact ⟨_,(gL rfl rfl (by show 7<jR.size;decide)).trans ((jS (by rw [hw]; rfl) rfl (hc.imp id fun hc=>by show (text.getD pos 0==46)=false;simpa using hc)).trans rfl)⟩
theorem aLu (b:Bool)(e:Nat):Hit (st1 text s seen 9 e [ns1 s b] 1 none handed b) s e 3:=by
 rcases b with _ | _ <;> exact ⟨rfl,rfl,rfl⟩
theorem aJe (pc:Nat)(b:Bool)(hs:s<text.size):(st1 text s seen pc s [ns1 s b] 1 (some false) s b).step=st1 text (s+1) seen 5 (s+1) [ns1 (s+1) false] 1 none (s+1) false:=by
 have e1:(st1 text s seen pc s [ns1 s b] 1 (some false) s b).step=if s<text.size then st1 text (s+1) seen 5 (s+1) [ns1 (s+1) false] 1 none (s+1) false else ({st1 text s seen 5 s [] 0 none s b with answer:=some false}:M):=rfl;rw [e1,if_pos hs]
theorem aJf (pc:Nat)(b:Bool)(hs:¬s<text.size):pD (st1 text s seen pc s [ns1 s b] 1 (some false) s b) 2:=by
 have e1:(st1 text s seen pc s [ns1 s b] 1 (some false) s b).step=if s<text.size then st1 text (s+1) seen 5 (s+1) [ns1 (s+1) false] 1 none (s+1) false else ({st1 text s seen 5 s [] 0 none s b with answer:=some false}:M):=rfl;unfold pD;rw [rf rfl,e1,if_neg hs];rfl
theorem pD.back {m m':M}{n:Nat}(h:pD m' n)(e1:m.step=m')(h0:m.outcome=none):pD m (n+1):=by
 subst e1;unfold pD;rw [rf h0];exact h
theorem Hit.more {m:M}{s e n k:Nat}(h:Hit m s e n)(hn:n<=k):Hit m s e k:=by
 unfold Hit at h ⊢;rw [cC n k (by rw [h.1]; rfl) hn]; exact h
theorem pD.more {m:M}{n k:Nat}(h:pD m n)(hn:n<=k):pD m k:=by
 unfold pD at h ⊢;rw [cC n k (by rw [h]; rfl) hn]; exact h
theorem aLv (text:Array Nat):∀(d s:Nat) (seen:Seen) (b:Bool),text.size- s=d->s<=text.size->
  (dI text (d+1) s=none->pD (st1 text s seen 5 s [ns1 s b] 1 none s b) (3*d+5))/\
  (∀ e,dI text (d+1) s=some e->Hit (st1 text s seen 5 s [ns1 s b] 1 none s b) e (e+1) (3*d+5)):=by
 intro d
 induction d with
 | zero=>
  intro s seen b hd hle;have hs:¬s<text.size:=by lia
  have hnd:fQ text s=false:=by unfold fQ;simp [hs]
  have hf:dI text (0+1) s=none:=by rw [eG]; rw [hnd]; simp [hs]
  refine ⟨fun _=> ?_,fun e h=>by rw [hf] at h;exact no1 h⟩
  rcases hb:bol text s with _ | _
  ·obtain ⟨se,e1⟩:=aJd (s:=s) (seen:=seen) (fr:=[ns1 s b]) (wt:=1) (handed:=s) (outer:=b) hb;exact ((aJf 5 b hs).back e1 rfl).more (by decide)
  ·obtain ⟨se,e1⟩:=yR (s:=s) (seen:=seen) (fr:=[ns1 s b]) (wt:=1) (handed:=s) (outer:=b) hb;obtain ⟨se2,e2⟩:=aFg (text:=text) (s:=s) (pos:=s) (seen:=se) (fr:=[ns1 s b]) (wt:=1) (handed:=s) (outer:=b) (.inl hs);exact (((aJf 7 b hs).back e2 rfl).back e1 rfl).more (by decide)
 | succ d ih=>
  intro s seen b hd hle;have hs:s<text.size:=by lia
  rcases hdot:fQ text s with _ | _
  ·have hf:dI text (d+1+1) s=dI text (d+1) (s+1):=by rw [eG,hdot]; simp [hs]
   rw [hf];have key:∃k se,k<=3/\∀j,(st1 text s seen 5 s [ns1 s b] 1 none s b).runFor (j+k)=(st1 text (s+1) se 5 (s+1) [ns1 (s+1) false] 1 none (s+1) false).runFor j:=by
    rcases hb:bol text s with _ | _
    ·obtain ⟨se,e1⟩:=aJd (s:=s) (seen:=seen) (fr:=[ns1 s b]) (wt:=1) (handed:=s) (outer:=b) hb;refine ⟨2,se,by decide,fun j=> ?_⟩;rw [show j+2=(j+1)+1 from rfl,rf rfl,e1,rf rfl,aJe 5 b hs]
    ·obtain ⟨se,e1⟩:=yR (s:=s) (seen:=seen) (fr:=[ns1 s b]) (wt:=1) (handed:=s) (outer:=b) hb;have hc:text.getD s 0≠46:=by
      intro q;unfold fQ at hdot;rw [hb,q] at hdot;simp [hs] at hdot
     obtain ⟨se2,e2⟩:=aFg (text:=text) (s:=s) (pos:=s) (seen:=se) (fr:=[ns1 s b]) (wt:=1) (handed:=s) (outer:=b) (.inr hc);refine ⟨3,se2,by decide,fun j=> ?_⟩;rw [show j+3=((j+1)+1)+1 from rfl,rf rfl,e1,rf rfl,e2,rf rfl,aJe 7 b hs]
   obtain ⟨k,se,hk,hrun⟩:=key;obtain ⟨i1,i2⟩:=ih (s+1) se false (by lia) (by exact hs)
   constructor
   ·intro h;have:=i1 h;have h2:pD (st1 text s seen 5 s [ns1 s b] 1 none s b) (3*d+5+k):=by unfold pD at this ⊢; rw [hrun]; exact this
    exact h2.more (by exact Nat.add_le_add_left hk _)
   ·intro e h;have:=i2 e h;have h2:Hit (st1 text s seen 5 s [ns1 s b] 1 none s b) e (e+1) (3*d+5+k):=by unfold Hit at this ⊢; rw [hrun]; exact this
    exact h2.more (by exact Nat.add_le_add_left hk _)
  ·have hf:dI text (d+1+1) s=some s:=by rw [eG,hdot]; simp
   rw [hf];refine ⟨fun h=>(by exact no2 h),fun e h=> ?_⟩
   (replace h:=Option.some.inj h;subst h)
   unfold fQ at hdot;simp only [Bool.and_eq_true,decide_eq_true_eq,beq_iff_eq] at hdot;obtain ⟨se,e1⟩:=yR (s:=s) (seen:=seen) (fr:=[ns1 s b]) (wt:=1) (handed:=s) (outer:=b) hdot.1.1;obtain ⟨se2,e2⟩:=aGm (text:=text) (s:=s) (pos:=s) (seen:=se) (fr:=[ns1 s b]) (wt:=1) (handed:=s) (outer:=b) hs hdot.2;exact (((aLu b (s+1)).back e2 rfl).back e1 rfl).more (by exact Nat.le_add_left _ _)
theorem yS (text:Array Nat)(p:Nat)(hp:p<=text.size):
  (dI text (text.size- p+1) p=none->pD (forSearch jR text 0 p text.size false) (3*text.size+5))/\
  (∀ s,dI text (text.size- p+1) p=some s->Hit (forSearch jR text 0 p text.size false) s (s+1) (3*text.size+5)):=by
 have e0:forSearch jR text 0 p text.size false=if (decide (p>text.size)||decide (text.size- p<1))=true then ({st1 text p (({}:Seen).add 14) 5 p [] 0 (some false) p true with lastStart:=0}:M)
  else st1 text p (({}:Seen).add 14) 5 p [ns1 p true] 1 none p true:=rfl
 rw [e0]
 by_cases hlt:p<text.size
 ·rw [if_neg (by simp;lia)];obtain ⟨h1,h2⟩:=aLv text (text.size- p) p (({}:Seen).add 14) true rfl hp;exact ⟨fun h=>(h1 h).more (by lia),fun s h=>(h2 s h).more (by lia)⟩
 ·have hnd:fQ text p=false:=by unfold fQ;simp [hlt]
  have hf:dI text (text.size- p+1) p=none:=by rw [eG,hnd]; simp [hlt]
  rw [if_pos (by simp;lia)];refine ⟨fun _=> ?_,fun s h=>by rw [hf] at h;exact no1 h⟩;have:pD ({st1 text p (({}:Seen).add 14) 5 p [] 0 (some false) p true with lastStart:=0}:M) 1:=rfl;exact this.more (by exact Nat.succ_pos _)
end
end Mine
end
section
open PySem PySem.Builtin PySem.Builtin.Re PyProof.Rows
set_option maxRecDepth 100000
namespace Mine
section
open Sre
section
variable {Mo:Model}{A:Around}{E:Value->Shared->Prop}{s:Shared}
theorem aC1 {Q:M->Shared->Prop}:∀(k t:Nat) (m:M),1<=k->k<=t->(m.runFor (4*k)).outcome.isSome=true->Q (m.runFor (4*k)) s->wpAny Mo A (reDrive t m) Q E s:=by
 intro k
 induction k with
 | zero=>intro t m h;exact absurd h (Nat.not_lt_zero _)
 | succ k ih=>
  intro t m _ hkt h hq
  cases t with
  | zero=>exact absurd hkt (Nat.not_lt_zero _)
  | succ t=>
   show wpAny Mo A (if (m.runFor reTurnSteps).outcome.isSome=true then pure (m.runFor reTurnSteps) else do rule "sre.turn";reDrive t (m.runFor reTurnSteps)) Q E s;have e4:reTurnSteps=4:=rfl;rw [e4]
   by_cases h4:(m.runFor 4).outcome.isSome=true
   ·rw [if_pos h4];rw [cC 4 (4*(k+1)) h4 (by exact Nat.le_add_left _ _)] at hq;exact wpAny_pure hq
   ·rw [if_neg h4];have hk:1<=k:=by
     rcases k with _ | k
     ·exact absurd h h4
     ·exact Nat.succ_pos _
    have e5:(m.runFor 4).runFor (4*k)=m.runFor (4*(k+1)):=by rw [vW]; congr 1;exact Nat.add_comm _ _
    exact wpAny_bind (wpAny_rule (ih t (m.runFor 4) hk (by exact Nat.le_of_lt_succ hkt) (by rw [e5]; exact h) (by rw [e5]; exact hq)))
theorem nV {Q:PUnit->Shared->Prop}(p:Nat->Bool)(f:Nat->String):∀l:List Nat,Q ⟨⟩ s->wpAny Mo A (forIn l PUnit.unit fun i (_:PUnit)=>if p i=true then (do rule (f i); pure (ForInStep.yield PUnit.unit):Sem (ForInStep PUnit)) else pure (ForInStep.yield PUnit.unit)) Q E s
 | [],h=>by rw [List.forIn_nil]; exact wpAny_pure h
 | i::r,h=>by
  rw [List.forIn_cons];refine wpAny_bind ?_
  split
  ·exact wpAny_bind (wpAny_rule (wpAny_pure (nV p f r h)))
  ·exact wpAny_pure (nV p f r h)
theorem tQ {Q:Option M->Shared->Prop}{m:M}{n:Nat}(hn:n<=2^30)(h:(m.runFor n).outcome=some .matched/\Q (some (m.runFor n)) s\/(m.runFor n).outcome=some .failed/\Q none s):wpAny Mo A (reRunToEnd m) Q E s:=by
 have ho:(m.runFor n).outcome.isSome=true:=by rcases h with h | h <;> (rw [h.1]; rfl)
 have e:m.runFor (4*(n+1))=m.runFor n:=cC n _ ho (by lia);unfold reRunToEnd;refine wpAny_bind (aC1 (n+1) _ m (by exact Nat.succ_pos _) (by exact sll hn rfl) (by rw [e]; exact ho) ?_);rw [e];refine wpAny_bind (nV _ _ _ ?_)
 rcases h with h | h
 ·rw [h.1]; exact wpAny_pure h.2
 ·rw [h.1]; exact wpAny_pure h.2
end
structure lU (code:Array Nat)(text:Array Nat)(F:Nat->Option Nat)(G:Nat->Nat):Prop where
 miss:∀p,p<=text.size->F p=none->∃n,n<=2^30/\pD (forSearch code text 0 p text.size false) n
 hit:∀p s,p<=text.size->F p=some s->p<=s/\s<G s/\G s<=text.size/\∃n,n<=2^30/\Hit (forSearch code text 0 p text.size false) s (G s) n
noncomputable def bA (text:Array Nat)(r:Str)(F:Nat->Option Nat)(G:Nat->Nat):(fuel p:Nat)->List Str
 | 0,_=>[]
 | n+1,p=>match F p with
  | some s=>(if p<s then [⟨text.extract p s⟩] else [])++r::bA text r F G n (G s)
  | none=>if p<text.size then [⟨text.extract p text.size⟩] else []
theorem bN {text:Array Nat}{r:Str}{F:Nat->Option Nat}{G:Nat->Nat}{n p s:Nat}(h:F p=some s):bA text r F G (n+1) p=(if p<s then [⟨text.extract p s⟩] else [])++r::bA text r F G n (G s):=by
 show (match F p with | some s=>(if p<s then [(⟨text.extract p s⟩:Str)] else [])++r::bA text r F G n (G s) | none=>if p<text.size then [(⟨text.extract p text.size⟩:Str)] else [])=_;rw [h]
theorem bO {text:Array Nat}{r:Str}{F:Nat->Option Nat}{G:Nat->Nat}{n p:Nat}(h:F p=none):bA text r F G (n+1) p=if p<text.size then [⟨text.extract p text.size⟩] else []:=by
 show (match F p with | some s=>(if p<s then [(⟨text.extract p s⟩:Str)] else [])++r::bA text r F G n (G s) | none=>if p<text.size then [(⟨text.extract p text.size⟩:Str)] else [])=_;rw [h]
set_option genInjectivity false in
structure PQ where
 o:Obj
 f:Array Value
 ca:Addr
 oc:Obj
 ci:Array Value
 n:Nat
structure aNr (q:PQ)(code:Array Nat):Prop where
 cls:q.o.cls= .type "re.Pattern"
 dict:q.o.dict=none
 data:q.o.data= .fields q.f
 groups:q.f.getD 2 .none= .int 0 0
 codes:q.f.getD 5 .none= .ref q.ca
 kind:q.f.getD 6 .none= .int 0 0
 seq:q.oc.data= .seq q.ci q.n
 code:(q.ci.map reRawOf).map (·.toNat)=code
def jX (h:Heap)(a:Addr)(code:Array Nat):Prop:=∃q:PQ,(h.get? a=some q.o/\h.get? q.ca=some q.oc)/\aNr q code
theorem jX.keeps {h h':Heap}{a:Addr}{code:Array Nat}(x:jX h a code)(k:∀b o,h.get? b=some o->h'.get? b=some o):jX h' a code:=
 x.imp fun _ y=>⟨⟨k _ _ y.1.1,k _ _ y.1.2⟩,y.2⟩
theorem lV:entryFor table "re.Pattern.sub.loop"=some Builtin.«re.Pattern.sub.loop» :=entryFor_of_tree (by kernel_rfl)
theorem dJ:plainId "re.Pattern.sub.loop"=true:=by decide+kernel
section
variable {prog:Program}{w:World}{A:Around}{E:Value->Shared->Prop}{s:Shared}
theorem pE {a:Addr}{code:Array Nat}{x:Str}{t:Tok}{Q:ReTarget->Shared->Prop}(hp:jX s.heap a code)
  (h:Q {pattern:= .ref a,string:= .str x t,code,text:=x.cps,kind:=0,groups:=0,pos:=0,lim:=x.cps.size} s):wpAny (model prog w) A (reWholeTarget (.ref a) (.str x t)) Q E s:=by
 obtain ⟨q,⟨h1,h8⟩,k⟩:=hp;unfold reWholeTarget;refine wpAny_bind (wpAny_fieldsOf h1 k.data ?_);refine wpAny_bind (wpAny_of_eq (show reTextOf (.str x t)=pure (x.cps,0) from rfl) ?_);rw [k.kind];show wpAny _ A (if (0==0&&0==1)=true then _ else _) Q E s;rw [if_neg (by decide)];refine wpAny_bind ?_;refine wpAny_pure ?_;refine wpAny_bind ?_;rw [k.codes];unfold reRawItems;refine wpAny_bind (wpAny_seqItems h8 k.seq (wpAny_pure ?_));refine wpAny_pure ?_;show Q {pattern:= .ref a,string:= .str x t,code:=Array.map (fun x=>x.toNat) (q.ci.map reRawOf),text:=x.cps,kind:=0,groups:=reRawNat (q.f.getD 2 Value.none),pos:=0,lim:=x.cps.size} s;rw [k.code,k.groups];exact h
theorem lW {vs ws:List Value}{xs ys:List Str}(h:StrsAre vs xs)(h2:StrsAre ws ys):StrsAre (vs++ws) (xs++ys):=by
 induction h with
 | nil=>exact h2
 | cons y t _ ih=>exact .cons y t ih
theorem aGn {L:Addr}{items:Array Value}{v:Value}{Q:Unit->Shared->Prop}(hl:s.heap.PlainList L items)(hsz:items.size<=2^20)
  (h:∀h',h'.PlainList L (items.push v)->Heap.SameBut L s.heap h'->Q () {s with heap:=h'}):wpAny (model prog w) A (updateSeq L (·.push v)) Q E s:=by
 obtain ⟨n,ho⟩:=hl;refine wpAny_updateSeq (hz:=by rw [sizeLine_eq]; exact lit hsz rfl) (_hz':=by rw [sizeLine_eq]; simp;exact lit hsz rfl) ho rfl (h _ ⟨n+1,?_⟩ (Heap.SameBut.update ..));rw [Heap.get?_update_self _ ho (by rw [Obj.mapSeq_push_plain]; rfl),Obj.mapSeq_push_plain]
theorem eH {code text:Array Nat}{r:Str}{F:Nat->Option Nat}{G:Nat->Nat}(hF:lU code text F G):∀(a b p:Nat),p<=text.size->text.size- p<a->text.size- p<b->bA text r F G a p=bA text r F G b p:=by
 intro a
 induction a with
 | zero=>intro b p _ h;exact absurd h (Nat.not_lt_zero _)
 | succ a ih=>
  intro b p hp ha hb
  cases b with
  | zero=>exact absurd hb (Nat.not_lt_zero _)
  | succ b=>
   rcases hf:F p with _ | s
   ·rw [bO hf,bO hf]
   ·obtain ⟨h1,h2,h3,_⟩:=hF.hit p s hp hf;have e:text.size- G s<text.size- p:=Nat.sub_lt_sub_left (Nat.lt_of_le_of_lt h1 (Nat.lt_of_lt_of_le h2 h3)) (Nat.lt_of_le_of_lt h1 h2);rw [bN hf,bN hf,ih b (G s) h3 (Nat.lt_of_lt_of_le e (Nat.le_of_lt_succ ha)) (Nat.lt_of_lt_of_le e (Nat.le_of_lt_succ hb))]
theorem jY {vs:List Value}{zs:List Str}(h:StrsAre vs zs):vs.length=zs.length:=by
 induction h with
 | nil=>rfl
 | cons _ _ _ ih=>exact congrArg Nat.succ ih
end
set_option genInjectivity false in
structure aC2 where
 prog:Program
 w:World
 h:Heap
 a:Addr
 L:Addr
 code:Array Nat
 x:Str
 r:Str
 t:Tok
 u:Tok
 F:Nat->Option Nat
 G:Nat->Nat
namespace aC2
structure Ok (X:aC2):Prop where
 F:lU X.code X.x.cps X.F X.G
 x:X.x.cps.size<=2^14
 r:X.r.length<=2
 pat:jX X.h X.a X.code
 L0:X.h.get? X.L=none
structure Hp (X:aC2)(s:Shared)(ys:List Str):Prop where
 keep:∀b o,X.h.get? b=some o->s.heap.get? b=some o
 lay:∃items:Array Value,s.heap.PlainList X.L items/\StrsAre items.toList ys
structure Bd (p:Nat)(ys:List Str):Prop where
 len:∀y∈ys,y.length<=2^14
 cnt:ys.length<=2*p
 sum:(ys.map (·.length)).sum<=3*p
def Ret (X:aC2)(s:Shared)(zs:List Str)(R:Result->Shared->Prop):Prop:=∀h' t' tk,(∀ b o,b≠X.L->s.heap.get? b=some o->h'.get? b=some o)->R (.ok (.ret (.str (Txt.join ⟨#[]⟩ zs) t'))) {s with heap:=h',toks:=tk}
noncomputable abbrev turn (X:aC2)(n p:Nat)(b:Bool):Code:= .builtin "re.Pattern.sub.loop" ⟨[.ref X.a,.str X.x X.t,.str X.r X.u,rawInt 0,rawInt 0,rawInt n,rawInt p,rawInt p,.bool b,.ref X.L,.bool false],[]⟩
theorem nW (ys:List Str)(y:Str):((ys++[y]).map (·.length)).sum=(ys.map (·.length)).sum+y.length:=by rw [List.map_append,List.sum_append]; rfl
theorem Bd.snoc {p q:Nat}{ys:List Str}{y:Str}(B:Bd p ys)(h1:y.length<=2^14)(h2:ys.length+1<=2*q)(h3:(ys.map (·.length)).sum+y.length<=3*q):Bd q (ys++[y]):=
 ⟨fun z hz=>(List.mem_append.mp hz).elim (B.len z) fun e=>List.mem_singleton.mp e▸h1,by rw [List.length_append]; exact h2,by rw [nW]; exact h3⟩
variable {X:aC2}{A:Around}{E:Value->Shared->Prop}{s:Shared}{ys zs:List Str}
theorem push (O:Ok X)(H:Hp X s ys){y:Str}{t:Tok}{Q:Unit->Shared->Prop}(hn:ys.length<=2^20)(h:∀h',(∀ b o,b≠X.L->s.heap.get? b=some o->h'.get? b=some o)->Hp X {s with heap:=h'} (ys++[y])->Q () {s with heap:=h'}):
  wpAny (model X.prog X.w) A (updateSeq X.L (·.push (.str y t))) Q E s:=by
 obtain ⟨its,hl,hz⟩:=H.lay;have e:its.size=ys.length:=jY hz;refine aGn hl (e▸hn) fun h' hl' hs'=>h h' (fun b o hb e=>hs'.extBut b o hb e) ⟨fun b o e=>hs'.extBut b o (fun q=> ?_) (H.keep b o e),_,hl',by rw [Array.toList_push]; exact lW hz (.cons _ _ .nil)⟩
 rw [q,O.L0] at e;exact no1 e
theorem tR (O:Ok X){p e:Nat}:(⟨X.x.cps.extract p e⟩:Str).length<=2^14:=Nat.le_trans (by show (X.x.cps.extract p e).size<=X.x.cps.size;rw [Array.size_extract]; exact Nat.le_trans (Nat.sub_le _ _) (Nat.min_le_right _ _)) O.x
theorem aJg (O:Ok X)(H:Hp X s ys){p e:Nat}{α:Type}{K:Sem α}{Q:α->Shared->Prop}(hn:ys.length<=2^20)(h:∀h' tk,(∀ b o,b≠X.L->s.heap.get? b=some o->h'.get? b=some o)->Hp X {s with heap:=h',toks:=tk} (ys++[⟨X.x.cps.extract p e⟩])->wpAny (model X.prog X.w) A K Q E {s with heap:=h',toks:=tk}):
  wpAny (model X.prog X.w) A (do let v <-mkStr ⟨X.x.cps.extract p e⟩; updateSeq X.L (·.push v); K) Q E s:=by
 have hel:=tR O (p:=p) (e:=e);exact wpAny_bind (wpAny_mkStr (wpAny_bind (push (s:={s with toks:=s.toks+1}) O ⟨H.keep,H.lay⟩ hn fun h' k H'=>h h' _ k H')) (by rw [sizeLine_eq]; exact lit hel rfl))
theorem fin {n:Nat}{P:Fin->Shared->Prop}(H:Hp X s zs)(hs:(zs.map (·.length)).sum<=2^20)(hP:∀t' tk,P (.done (.ret (.str (Txt.join ⟨#[]⟩ zs) t'))) {s with toks:=tk}):
  wpAny (model X.prog X.w) A (do
   let joiner <-reSlice X.x.cps 0 0 0
   let __do_lift <-seqItems? (.ref X.L)
   let __do_jp:=fun text=>(if false=true then do let __do_lift <-holding [text] (do let __do_lift <-mkInt n;newTuple [text,__do_lift]); ret __do_lift else ret text:Sem Fin)
   if (__do_lift.getD #[]).isEmpty=true then do let text <-pure joiner;__do_jp text
   else do let text <-call (.builtin (if (0==0)=true then "str.join" else "bytes.join")) [joiner,.ref X.L]; __do_jp text) P E s:=by
 obtain ⟨its,hl,hz⟩:=H.lay;have hemp:(⟨X.x.cps.extract 0 0⟩:Str)=⟨#[]⟩:=by simp
 refine wpAny_bind ?_;show wpAny _ _ (mkStr ⟨X.x.cps.extract 0 0⟩) _ _ _;rw [hemp];refine wpAny_mkStr ?_ (by show 0<=sizeLine;exact Nat.zero_le _);obtain ⟨k,ho⟩:=id hl;refine wpAny_bind (wpAny_seqItems (s:={s with toks:=s.toks+1}) ho rfl ?_);show wpAny _ _ (if its.isEmpty=true then _ else _) _ _ _
 by_cases he:its.isEmpty=true
 ·rw [if_pos he];have hzs:zs=[]:=List.eq_nil_of_length_eq_zero ((jY hz).symm.trans (by simpa using he));have h:=hP s.toks (s.toks+1);rw [hzs] at h;exact wpAny_bind (wpAny_pure (wpAny_pure h))
 ·rw [if_neg he];exact wpAny_bind (PyProof.Rows.join_list (s:={s with toks:=s.toks+1}) hl.isList hz (by show _+_*0<=_;exact lit hs rfl) fun t' k=>wpAny_pure (hP _ _))
def aLw (X:aC2)(A:Around)(d:Nat):Prop:=∀(p n:Nat) (b:Bool) (s:Shared) (ys:List Str) (R:Result->Shared->Prop),b=false->X.x.cps.size- p=d->p<=X.x.cps.size->Hp X s ys->Bd p ys->Ret X s (ys++bA X.x.cps X.r X.F X.G (d+1) p) R->codeAny (model X.prog X.w) A (turn X n p b) R s
theorem next (O:Ok X){d n e q:Nat}{R:Result->Shared->Prop}(ih:∀d',d'<d->aLw X A d')(hd:X.x.cps.size- e<d)(he:e<=X.x.cps.size)(hq:q<e)(H:Hp X s zs)(B:Bd q zs)(h1:zs.length+1<=2*e)(h2:(zs.map (·.length)).sum+2<=3*e)(hR:Ret X s (zs++X.r::bA X.x.cps X.r X.F X.G (X.x.cps.size- e+1) e) R):
  wpAny (model X.prog X.w) A.in1 (do
   updateSeq X.L (·.push (.str X.r X.u))
   again (turn X n e (e==q))) (fun fin s'=>match fin with | .done f=>R (.ok f) s' | .again c'=>c'.quiet=true/\codeAny (model X.prog X.w) A c' R s') (fun e s'=>R (.error e) s') s:=by
 have hr:=O.r;refine wpAny_bind (push O H (Nat.le_trans B.cnt (Nat.le_trans (Nat.mul_le_mul_left 2 (Nat.le_trans (Nat.le_of_lt hq) (Nat.le_trans he O.x))) (by decide))) fun h' k H'=>wpAny_pure ⟨plainId_quiet dJ _,ih _ hd e n _ _ _ R (beq_eq_false_iff_ne.mpr (Nat.ne_of_gt hq)) rfl he H' (B.snoc (Nat.le_trans hr (by decide)) h1 (Nat.le_trans (Nat.add_le_add_left hr _) h2)) fun h'' t' tk k'=> ?_⟩);have:=hR h'' t' tk fun b o hb e=>k' b o hb (k b o hb e)
 rw [List.append_assoc];exact this
theorem yT (O:Ok X){p:Nat}{R:Result->Shared->Prop}{P:Fin->Shared->Prop}{d:Nat}(hf:X.F p=none)(H:Hp X s ys)(B:Bd p ys)(hp:p<=X.x.cps.size)(hP:∀f s',R (.ok f) s'->P (.done f) s')(hR:Ret X s (ys++bA X.x.cps X.r X.F X.G (d+1) p) R){K:Sem Fin}
  (hK:∀s'2 zs,Hp X s'2 zs->(zs.map (·.length)).sum<=2^20->(∀ t' tk,P (.done (.ret (.str (Txt.join ⟨#[]⟩ zs) t'))) {s'2 with toks:=tk})->wpAny (model X.prog X.w) A K P E s'2):
  wpAny (model X.prog X.w) A (if p<X.x.cps.size then do let v <-mkStr ⟨X.x.cps.extract p X.x.cps.size⟩; updateSeq X.L (·.push v); K else K) P E s:=by
 have hn:ys.length<=2^20:=Nat.le_trans B.cnt (Nat.le_trans (Nat.mul_le_mul_left 2 (Nat.le_trans hp O.x)) (by decide));have hs:(ys.map (·.length)).sum+2^14<=2^20:=Nat.le_trans (Nat.add_le_add_right (Nat.le_trans B.sum (Nat.mul_le_mul_left 3 (Nat.le_trans hp O.x))) _) (by decide);rw [bO hf] at hR
 by_cases hlt:p<X.x.cps.size
 ·rw [if_pos hlt];rw [if_pos hlt] at hR;refine aJg O H hn fun h' tk k H'=>hK _ _ H' (by rw [nW]; exact Nat.le_trans (Nat.add_le_add_left (tR O) _) hs) fun t' tk'=>hP _ _ (hR h' t' tk' k)
 ·rw [if_neg hlt];rw [if_neg hlt,List.append_nil] at hR;exact hK _ _ H (Nat.le_trans (Nat.le_add_right _ _) hs) fun t' tk=>hP _ _ (hR s.heap t' tk fun _ _ _ e=>e)
theorem aGo {p st g sz d:Nat}(h1:p<=st)(h2:st<g)(hp:p<=sz)(hd:sz- p=d)(h3:g<=sz):sz- g<d:=by lia
theorem aGp {p st g l m e:Nat}(h1:p<st)(h2:st<g)(hc:l<=2*p)(hs:m<=3*p)(he:e<=st- p):(l+1<=2*st/\m+e<=3*st)/\l+1+1<=2*g/\m+e+2<=3*g:=by lia
theorem aGq {p g l m:Nat}(h2:p<g)(hc:l<=2*p)(hs:m<=3*p):l+1<=2*g/\m+2<=3*g:=by lia
theorem aC3 (O:Ok X){p n q st hn:Nat}(e1:st=q)(e2:hn=X.G q){R:Result->Shared->Prop}{d:Nat}(ih:∀d',d'<d->aLw X A d')(hd:X.x.cps.size- p=d)(hf:X.F p=some q)(H:Hp X s ys)(B:Bd p ys)(hp:p<=X.x.cps.size)(hR:Ret X s (ys++bA X.x.cps X.r X.F X.G (d+1) p) R):
  wpAny (model X.prog X.w) A.in1 (if p<st then do let v <-mkStr ⟨X.x.cps.extract p st⟩; updateSeq X.L (·.push v); (do
    updateSeq X.L (·.push (.str X.r X.u))
    again (turn X n hn (hn==st)))
   else do
    updateSeq X.L (·.push (.str X.r X.u))
    again (turn X n hn (hn==st))) (fun fin s'=>match fin with | .done f=>R (.ok f) s' | .again c'=>c'.quiet=true/\codeAny (model X.prog X.w) A c' R s') (fun e s'=>R (.error e) s') s:=by
 subst e1 e2;obtain ⟨h1,h2,h3,_⟩:=O.F.hit p st hp hf;have hg:=aGo h1 h2 hp hd h3;rw [bN hf] at hR;rw [eH O.F d (X.x.cps.size- X.G st+1) _ h3 hg (Nat.lt_succ_self _)] at hR;have hn:ys.length<=2^20:=Nat.le_trans B.cnt (Nat.le_trans (Nat.mul_le_mul_left 2 (Nat.le_trans hp O.x)) (by decide))
 by_cases hlt:p<st
 ·rw [if_pos hlt];rw [if_pos hlt] at hR;have hel:(X.x.cps.extract p st).size<=st- p:=by rw [Array.size_extract]; exact Nat.sub_le_sub_right (Nat.min_le_left _ _) _
  obtain ⟨a1,a2,a3⟩:=aGp (l:=ys.length) hlt h2 B.cnt B.sum hel;refine aJg O H hn fun h' tk k H'=>next O ih hg h3 h2 H' (B.snoc (Nat.le_trans hel (Nat.le_trans (Nat.sub_le _ _) (Nat.le_trans (Nat.le_of_lt (Nat.lt_of_lt_of_le h2 h3)) O.x))) a1.1 a1.2) (by rw [List.length_append]; exact a2) (by rw [nW]; exact a3) fun h'' t' tk' k'=> ?_
  have:=hR h'' t' tk' fun b o hb e=>k' b o hb (k b o hb e)
  rw [List.append_assoc];exact this
 ·rw [if_neg hlt];rw [if_neg hlt] at hR;have e:p=st:=Nat.le_antisymm h1 (Nat.le_of_not_lt hlt);have B':Bd st ys:=e▸B;obtain ⟨a1,a2⟩:=aGq h2 B'.cnt B'.sum;exact next O ih hg h3 h2 H B' a1 a2 hR
theorem loop (O:Ok X)(d:Nat):aLw X A d:=by
 induction d using Nat.strongRecOn with
 | ind d ih=>
  intro p n b s ys R hb hd hp H B hR;subst hb;refine codeAny_builtin lV ?_;rw [Around.under_plainId dJ _];unfold «re.Pattern.sub.loop»;refine wpAny_bind (pE (O.pat.keeps H.keep) ?_);refine wpAny_bind (wpAny_of_eq (show (if ((0:Int)==0)=true then reLiteralCannotBeTurned (.str X.r X.u) else pure PUnit.unit)=pure PUnit.unit from rfl) ?_);refine wpAny_bind ?_;show wpAny _ _ (reRunToEnd (forSearch X.code X.x.cps 0 p X.x.cps.size false)) _ _ _
  cases hf:X.F p with
  | none=>
   obtain ⟨N,hN,hm⟩:=O.F.miss p hp hf;refine tQ hN (.inr ⟨hm,?_⟩);exact yT (R:=R) O hf H B hp (fun _ _ q=>q) hR fun s'2 zs H2 h1 h2=>fin H2 h1 h2
  | some q=>
   obtain ⟨h1,h2,h3,N,hN,hm⟩:=O.F.hit p q hp hf;refine tQ hN (.inl ⟨hm.1,?_⟩);exact aC3 (n:=n+1) O hm.2.1 hm.2.2 ih hd hf H B hp hR
end aC2
end
open Sre
theorem tU:Slot "re.Pattern" "sub" "re.Pattern.sub":=
 .of (owner:="re.Pattern") (n:="sub") (by rw [typeLookup_type,builtinLookup_eq_fast]; kernel_rfl) (by decide+kernel) (by decide+kernel) (by decide+kernel)
  (by first | exact .inl (by decide+kernel) | exact .inr (by decide+kernel)) (by rw [isSubtype_type]; kernel_rfl)
theorem aC4:typeOf (.builtin "re.Pattern.sub")=pure (.type "method_descriptor"):=by show builtinType _=_;rw [builtinType_eq_fast]; kernel_rfl
theorem yU:entryFor table "re.Pattern.sub"=some Builtin.«re.Pattern.sub» :=entryFor_of_tree (by kernel_rfl)
theorem lX:PlainAttrs "re.Pattern":=
 ⟨⟨"object.__getattribute__",by rw [typeLookup_type,builtinLookup_eq_fast]; kernel_rfl,by decide+kernel⟩,by rw [typeLookup_type,builtinLookup_eq_fast]; kernel_rfl⟩
theorem aC5 (a b c:Value):argsOk "re.Pattern.sub" ⟨[a,b,c],[]⟩:=by unfold argsOk;kernel_rfl
theorem rK:typeLookup (.type "str") "__call__"=pure none:=by rw [typeLookup_type,builtinLookup_eq_fast]; kernel_rfl
section
variable {prog:Program}{w:World}{A:Around}{E:Value->Shared->Prop}{s:Shared}
theorem yV {a:Addr}{code:Array Nat}{x r:Str}{t u:Tok}{F:Nat->Option Nat}{G:Nat->Nat}(hF:lU code x.cps F G)(hx:x.cps.size<=2^14)(hr:r.length<=2)(hb:r.cps.contains 92=false):
  MeetsIn prog w (Builtin.«re.Pattern.sub» ⟨[.ref a,.str r u,.str x t],[]⟩) (fun A R s=>jX s.heap a code/\
   ∀h' t' tk,(∀ b o,s.heap.get? b=some o->h'.get? b=some o)->R (.ok (.ret (.str (Txt.join ⟨#[]⟩ (bA x.cps r F G (x.cps.size+1) 0)) t'))) {s with heap:=h',toks:=tk}):=by
 intro A R s ⟨hp,h⟩;unfold «re.Pattern.sub» reSubstitute;refine wpAny_bind (wpAny_of_eq (show reNamed "re.Pattern.sub" "sub" ["repl","string","count"] 2 [.str r u,.str x t] []=pure [some (.str r u),some (.str x t),none] from rfl) ?_);refine wpAny_bind (wpAny_pure ?_);refine wpAny_bind (wpAny_specialOf (typeIs_str s r u) rK ?_);refine bM (by decide) ?_;refine wpAny_bind (wpAny_of_eq (show asStr? (.str r u)=pure (some r) from rfl) ?_);refine wpAny_bind (wpAny_pure ?_);refine bM (by decide) (iV (by rw [hb]; rfl) ?_);refine wpAny_bind (wpAny_pure ?_);refine wpAny_bind (wpAny_holding (pE hp ?_));show wpAny _ _ (if ((0:Int)==1)=true then _ else _) _ _ _;refine bM (by decide) ?_;refine wpAny_bind (wpAny_newObj_type ?_);have hL0:s.heap.get? s.heap.objs.size=none:=by
  rcases e:s.heap.get? s.heap.objs.size with _ | o
  ·rfl
  ·exact absurd (Heap.lt_size e) (Nat.lt_irrefl _)
 refine wpAny_pure ⟨plainId_quiet dJ _,aC2.loop (X:=⟨prog,w,s.heap,a,s.heap.objs.size,code,x,r,t,u,F,G⟩) ⟨hF,hx,hr,hp,hL0⟩ x.cps.size 0 0 false _ [] _ rfl rfl (Nat.zero_le _) ⟨fun b o e=>Heap.get?_push_of_some _ e,_,⟨0,Heap.get?_push_size _ rfl⟩,.nil⟩ ⟨fun _ h=>(nomatch h),Nat.zero_le _,Nat.zero_le _⟩ fun h' t' tk hk=> ?_⟩;exact h h' t' tk fun b o e=>hk b o (Nat.ne_of_lt (Heap.lt_size e)) (Heap.get?_push_of_some _ e)
theorem aC6 {a:Addr}{code:Array Nat}{x r:Str}{t u:Tok}{F:Nat->Option Nat}{G:Nat->Nat}{Q:Value->Shared->Prop}(hF:lU code x.cps F G)(hx:x.cps.size<=2^14)(hr:r.length<=2)(hb:r.cps.contains 92=false)(hp:jX s.heap a code)
  (h:∀h' t' tk,(∀ b o,s.heap.get? b=some o->h'.get? b=some o)->Q (.str (Txt.join ⟨#[]⟩ (bA x.cps r F G (x.cps.size+1) 0)) t') {s with heap:=h',toks:=tk}):
  wpAny (model prog w) A (call (.builtin "re.Pattern.sub") [.ref a,.str r u,.str x t]) Q E s:=
 call_meetsIn tU (by obtain ⟨q,h,k⟩:=hp;exact ⟨_,h.1,k.cls⟩) yU (aC5 _ _ _) (yV hF hx hr hb) ⟨hp,h⟩
theorem tV (text:Array Nat):lU bY text (fun p=>gD text (text.size+1- p) p) (nT text) where
 miss:=fun p hp h=>⟨16,by decide,(yQ text p hp).1 h⟩
 hit:=fun p s hp h=>by
  obtain ⟨h1,h2⟩:=jL h;have he:nT text s=s+1\/(nT text s=s+2/\s+1<text.size):=by
   unfold nT
   by_cases hc:text.getD s 0=13/\s+1<text.size/\text.getD (s+1) 0=10
   ·rw [if_pos hc]; exact .inr ⟨rfl,hc.2.1⟩
   ·rw [if_neg hc]; exact .inl rfl
  refine ⟨nU h,?_,?_,16,by decide,(yQ text p hp).2 s h⟩
  ·rcases he with q | q <;> lia
  ·rcases he with q | q <;> lia
theorem tX {text:Array Nat}:∀{fuel p s:Nat},dI text fuel p=some s->fQ text s=true
 | 0,_,_,h=>no1 h
 | n+1,p,s,h=>by
  rw [eG] at h
  split at h
  ·rename_i h1;(replace h:=Option.some.inj h;subst h); exact h1
  ·split at h
   ·exact tX h
   ·exact no1 h
theorem tY {text:Array Nat}:∀{fuel p s:Nat},dI text fuel p=some s->p<=s
 | 0,_,_,h=>no1 h
 | n+1,p,s,h=>by
  rw [eG] at h
  split at h
  ·(replace h:=Option.some.inj h;subst h); exact Nat.le_refl _
  ·split at h
   ·have:=tY h;exact Nat.le_of_lt this
   ·exact no1 h
theorem tZ (text:Array Nat)(hx:text.size<=2^14):lU jR text (fun p=>dI text (text.size- p+1) p) (fun s=>s+1) where
 miss:=fun p hp h=>⟨3*text.size+5,by lia,(yS text p hp).1 h⟩
 hit:=fun p s hp h=>by
  have h1:=tX h;unfold fQ at h1;simp only [Bool.and_eq_true,decide_eq_true_eq] at h1;exact ⟨tY h,by exact Nat.le_refl _,by lia,3*text.size+5,by lia,(yS text p hp).2 s h⟩
end
end Mine
end
open PySem PySem.Calls PyProof.Rows PySem.W
open PySem.Expr (Name Constant)
open PySem.Str (ofString)
set_option maxRecDepth 100000
namespace Mine
inductive AV where
 | none
 | bool (b:Bool)
 | int (i:Int)
 | str (s:Str)
 | list (l:List AV)
 | tup (l:List AV)
 | alt (l:List Str)
 | inst (c:Nat) (f:List (Str × AV))
 | addr (a:Nat)
 | range (a b c:Int)
mutual
noncomputable def AV.toData:AV->Option PyData
 | .none=>some .none
 | .bool b=>some (.bool b)
 | .int i=>some (.int i)
 | .str s=>some (.str s)
 | .list l=>(AV.toDataL l).map .list
 | .tup l=>(AV.toDataL l).map .tuple
 | .alt _=>Option.none
 | .inst _ _=>Option.none
 | .addr _=>Option.none
 | .range _ _ _=>Option.none
noncomputable def AV.toDataL:List AV->Option (List PyData)
 | []=>some []
 | a::r=>match AV.toData a,AV.toDataL r with
  | some x,some y=>some (x::y)
  | _,_=>Option.none
end
theorem iW {P:Prop}{a:AV}{r:List AV}{ps:List PyData}(e:AV.toDataL (a::r)=some ps)(q:∀x z,a.toData=some x->AV.toDataL r=some z->x::z=ps->P):P:=by
 replace e:(match AV.toData a,AV.toDataL r with
  | some x,some y=>some (x::y)
  | _,_=>Option.none)=some ps:=e
 rcases ha:a.toData with _ | x
 ·rw [ha] at e;exact no1 e
 ·rcases hr:AV.toDataL r with _ | z
  ·rw [ha,hr] at e;exact no1 e
  ·rw [ha,hr] at e;exact q x z ha hr (Option.some.inj e)
theorem vX {a:AV}{r:List AV}{x:PyData}{xs:List PyData}(h:a.toData=some x)(g:AV.toDataL r=some xs):AV.toDataL (a::r)=some (x::xs):=by
 show (match AV.toData a,AV.toDataL r with
  | some x,some y=>some (x::y)
  | _,_=>Option.none)=_
 rw [h,g]
theorem jZ {l:List AV}{xs:List PyData}(g:AV.toDataL l=some xs):(AV.list l).toData=some (.list xs):=congrArg (Option.map PyData.list) g
noncomputable def hide (h:Heap)(M:List Addr):Heap:=M.foldl (fun h a=>h.update a fun _=>{cls:= .none,data:= .freed}) h
theorem rL (h:Heap)(a b:Addr):(h.update a fun _=>{cls:= .none,data:= .freed}).get? b=if b=a then Option.none else h.get? b:=by
 by_cases e:b=a
 ·subst e;rw [if_pos rfl]
  cases hq:(h.update b fun _=>{cls:= .none,data:= .freed}).get? b with
  | none=>rfl
  | some o=>
   obtain ⟨e1,e2⟩:=Heap.get?_some_iff.mp hq;rw [show (h.update b fun _=>{cls:= .none,data:= .freed}).objs[b]? =(h.objs[b]?).map fun _=>{cls:= .none,data:= .freed} from (Array.getElem?_modify ..).trans (if_pos rfl)] at e1;obtain ⟨_,_,e3⟩:=Option.map_eq_some_iff.mp e1;rw [<- e3] at e2;exact nomatch e2
 ·rw [if_neg e];exact Heap.get?_update_other h _ fun q=>e q.symm
theorem pF:∀(M:List Addr) (h:Heap) (b:Addr),(hide h M).get? b=if b∈M then Option.none else h.get? b
 | [],h,b=>(if_neg List.not_mem_nil).symm
 | a::M,h,b=>by
  show (hide (h.update a _) M).get? b=_;rw [pF M,rL]
  by_cases e:b=a
  ·subst e;simp
  ·by_cases q:b∈M <;> simp [e,q]
theorem aA {h:Heap}{M:List Addr}{b:Addr}{o:Obj}:(hide h M).get? b=some o↔b∉M/\h.get? b=some o:=by
 rw [pF]
 by_cases q:b∈M <;> simp [q]
theorem aH {h h':Heap}{M M':List Addr}(hs:∀b,b∈M'->b∉M->h.get? b=Option.none)(k:∀b o,b∉M->h.get? b=some o->h'.get? b=some o):
  ∀b o,(hide h M).get? b=some o->(hide h' M').get? b=some o:=by
 intro b o e;obtain ⟨hb,e⟩:=aA.mp e;refine aA.mpr ⟨fun q=> ?_,k b o hb e⟩;have:=hs b q hb;rw [this] at e;exact no1 e
inductive Den (V:Heap):Value->AV->Prop
 | none:Den V .none .none
 | bool (b:Bool):Den V (.bool b) (.bool b)
 | int (i:Int) (t:Tok):Den V (.int i t) (.int i)
 | str (s:Str) (t:Tok):Den V (.str s t) (.str s)
 | list {a:Addr} {vs:Array Value} {l:List AV}:V.PlainList a vs->(hl:vs.size=l.length)->(∀ (i:Nat) (h:i<l.length),Den V (vs[i]'(hl▸h)) l[i])->Den V (.ref a) (.list l)
 | tup {a:Addr} {vs:Array Value} {l:List AV}:V.IsTuple a vs->(hl:vs.size=l.length)->(∀ (i:Nat) (h:i<l.length),Den V (vs[i]'(hl▸h)) l[i])->Den V (.ref a) (.tup l)
 | range {r:Addr} {a b c:Int} {t u v:Tok}:IsRange V r a b c t u v->Den V (.ref r) (.range a b c)
 | alt (s:Str) (t:Tok) (l:List Str):s∈l->Den V (.str s t) (.alt l)
 | inst {x c:Addr} {mA:Str->Option Value} {fs:List (Str × AV)}:V.Inst x c mA->(∀ n,(mA n).isSome=(fs.lookup n).isSome)->(∀ n u v,mA n=some u->fs.lookup n=some v->Den V u v)->Den V (.ref x) (.inst c fs)
 | addr (a:Addr):Den V (.ref a) (.addr a)
theorem Den.keeps {V V':Heap}(k:∀b o,V.get? b=some o->V'.get? b=some o){v:Value}{d:AV}(h:Den V v d):Den V' v d:=by
 induction h with
 | none=>exact .none
 | bool b=>exact .bool b
 | int i t=>exact .int i t
 | str s t=>exact .str s t
 | list hl hn _ ih=>exact .list (hl.at fun o e=>k _ o e) hn ih
 | tup hl hn _ ih=>exact .tup (by obtain ⟨o,e,r⟩:=hl;exact ⟨o,k _ _ e,r⟩) hn ih
 | range h=>exact .range (k _ _ h)
 | alt s t l h=>exact .alt s t l h
 | inst h hs _ ih=>exact .inst (h.keeps k) hs fun n u v h1 h2=>ih n u v h1 h2
 | addr a=>exact .addr a
def aO (V:Heap)(vs:List Value)(l:List AV):Prop:=vs.length=l.length/\∀(i:Nat) (y:Value) (v:AV),vs[i]? =some y->l[i]? =some v->Den V y v
theorem aO.nil {V:Heap}:aO V [] []:=⟨rfl,fun _ _ _ h=>by simp at h⟩
theorem aO.cons {V:Heap}{y:Value}{v:AV}{vs:List Value}{l:List AV}(h:Den V y v)(r:aO V vs l):aO V (y::vs) (v::l):=by
 refine ⟨by simp [r.1],fun i y' v' h1 h2=> ?_⟩
 rcases i with _ | i
 ·simp at h1 h2;subst h1 h2;exact h
 ·simp at h1 h2;exact r.2 i y' v' h1 h2
theorem aO.head {V:Heap}{y:Value}{v:AV}{vs:List Value}{l:List AV}(r:aO V (y::vs) (v::l)):Den V y v:=r.2 0 y v rfl rfl
theorem aO.tail {V:Heap}{y:Value}{v:AV}{vs:List Value}{l:List AV}(r:aO V (y::vs) (v::l)):aO V vs l:=
 ⟨by simpa using r.1,fun i y' v' h1 h2=>r.2 (i+1) y' v' (by simpa using h1) (by simpa using h2)⟩
theorem aO.nil_inv {V:Heap}{vs:List Value}(r:aO V vs []):vs=[]:=List.eq_nil_of_length_eq_zero (by simpa using r.1)
theorem aO.cons_inv {V:Heap}{vs:List Value}{v:AV}{l:List AV}(r:aO V vs (v::l)):∃y ys,vs=y::ys/\Den V y v/\aO V ys l:=by
 rcases vs with _ | ⟨y,ys⟩
 ·have:=r.1;simp at this
 ·exact ⟨y,ys,rfl,r.head,r.tail⟩
theorem aO.append {V:Heap}:∀{vs ws:List Value} {l k:List AV},aO V vs l->aO V ws k->aO V (vs++ws) (l++k)
 | [],ws,l,k,h,h'=>by
  have:l=[]:=List.eq_nil_of_length_eq_zero (by simpa using h.1.symm);subst this;exact h'
 | y::ys,ws,[],k,h,h'=>by have:=h.1;simp at this
 | y::ys,ws,v::l,k,h,h'=> .cons h.head (h.tail.append h')
theorem aO.keeps {V V':Heap}(k:∀b o,V.get? b=some o->V'.get? b=some o){vs:List Value}{l:List AV}(h:aO V vs l):aO V' vs l:=⟨h.1,fun i y v h1 h2=>(h.2 i y v h1 h2).keeps k⟩
theorem aO.rep {V:Heap}{vs:List Value}{l:List AV}(h:aO V vs l):∀n:Nat,aO V (List.replicate n vs).flatten (List.replicate n l).flatten
 | 0=> .nil
 | n+1=>by rw [List.replicate_succ,List.replicate_succ,List.flatten_cons,List.flatten_cons]; exact h.append (h.rep n)
theorem aO.get {V:Heap}{vs:List Value}{l:List AV}(h:aO V vs l){i:Nat}{v:AV}(e:l[i]? =some v):∃y,vs[i]? =some y/\Den V y v:=by
 have hi:i<l.length:=by
  rcases Nat.lt_or_ge i l.length with q | q
  ·exact q
  ·rw [List.getElem?_eq_none q] at e;exact no1 e
 have:vs[i]? =some (vs[i]'(h.1▸hi)):=List.getElem?_eq_getElem _;exact ⟨_,this,h.2 i _ v this e⟩
theorem aO.take {V:Heap}{vs:List Value}{l:List AV}(h:aO V vs l)(n:Nat):aO V (vs.take n) (l.take n):=by
 refine ⟨by simp [h.1],fun i y v h1 h2=> ?_⟩
 by_cases q:i<n
 ·rw [List.getElem?_take_of_lt q] at h1 h2;exact h.2 i y v h1 h2
 ·rw [List.getElem?_take,if_neg q] at h1;exact no1 h1
theorem Den.mkList {V:Heap}{a:Addr}{vs:Array Value}{l:List AV}(h:V.PlainList a vs)(r:aO V vs.toList l):Den V (.ref a) (.list l):=by
 have hl:vs.size=l.length:=by simpa using r.1
 exact .list h hl fun i hi=>r.2 i _ _ (by rw [Array.getElem?_toList]; exact Array.getElem?_eq_getElem _) (List.getElem?_eq_getElem _)
theorem Den.mkTup {V:Heap}{a:Addr}{vs:Array Value}{l:List AV}(h:V.IsTuple a vs)(r:aO V vs.toList l):Den V (.ref a) (.tup l):=by
 have hl:vs.size=l.length:=by simpa using r.1
 exact .tup h hl fun i hi=>r.2 i _ _ (by rw [Array.getElem?_toList]; exact Array.getElem?_eq_getElem _) (List.getElem?_eq_getElem _)
theorem yW {V:Heap}{vs:Array Value}{l:List AV}(hl:vs.size=l.length)(h:∀(i:Nat)(h:i<l.length),Den V (vs[i]'(hl▸h)) l[i]):aO V vs.toList l:=by
 refine ⟨by simpa using hl,fun i y v h1 h2=> ?_⟩;obtain ⟨hi,rfl⟩:=List.getElem?_eq_some_iff.mp h2;have:vs.toList[i]? =some (vs[i]'(hl▸hi)):=by rw [Array.getElem?_toList]; exact Array.getElem?_eq_getElem _
 rw [this] at h1;(replace h1:=Option.some.inj h1;subst h1);exact h i hi
theorem Den.list_inv {V:Heap}{y:Value}{l:List AV}(h:Den V y (.list l)):∃a vs,y= .ref a/\V.PlainList a vs/\aO V vs.toList l:=by
 cases h with
 | list h1 h2 h3=>exact ⟨_,_,rfl,h1,yW h2 h3⟩
theorem Den.tup_inv {V:Heap}{y:Value}{l:List AV}(h:Den V y (.tup l)):∃a vs,y= .ref a/\V.IsTuple a vs/\aO V vs.toList l:=by
 cases h with
 | tup h1 h2 h3=>exact ⟨_,_,rfl,h1,yW h2 h3⟩
noncomputable abbrev Loc:=Str->Option AV
noncomputable def rM:List AV->Option (List Int)
 | []=>some []
 | .int i::r=>(rM r).map (i:: ·)
 | _::_=>Option.none
noncomputable def aJh:List AV->Option (List Str)
 | []=>some []
 | .str i::r=>(aJh r).map (i:: ·)
 | _::_=>Option.none
noncomputable def bP (i:Int):Bool:=decide (-(2^32)<=i/\i<=2^32)
noncomputable def pG:Operator->AV->AV->Option AV
 | .Add,.int a,.int b=>some (.int (a+b))
 | .Add,.str a,.str b=>if a.length+b.length<=2^20 then some (.str (a++b)) else Option.none
 | .Add,.str a,.alt l=>if l.all fun b=>a.length+b.length<=2^20 then some (.alt (l.map fun b=>a++b)) else Option.none
 | .Add,.list a,.list b=>if a.length+b.length<=2^20 then some (.list (a++b)) else Option.none
 | .Sub,.int a,.int b=>some (.int (a- b))
 | .Mult,.int a,.int b=>if bP a then some (.int (a*b)) else Option.none
 | .Mult,.str a,.int k=>if 0<=k/\k<=1000/\a.length<=1000 then some (.str (Txt.mul a k)) else Option.none
 | .Mult,.list a,.int k=>if 0<=k/\k<=1000/\a.length<=1000 then some (.list (List.replicate k.toNat a).flatten) else Option.none
 | .FloorDiv,.int a,.int b=>if 0<b/\b<=1000000 then some (.int (a/b)) else Option.none
 | .Mod,.int a,.int b=>if 0<b then some (.int (a%b)) else Option.none
 | _,_,_=>Option.none
noncomputable def cR (a b:AV):Option Bool:=
 match a.toData,b.toData with
 | some x,some y=>if SeqAt.shaped x&&SeqAt.shaped y then some (PyData.eqv x y) else Option.none
 | _,_=>Option.none
noncomputable def aJi:AV->List AV->Option Bool
 | _,[]=>some false
 | .int i,.int j::r=>(aJi (.int i) r).map (j==i|| ·)
 | .bool i,.bool j::r=>(aJi (.bool i) r).map (j==i|| ·)
 | _,_::_=>Option.none
noncomputable def cmp:CmpOp->AV->AV->Option Bool
 | .Eq,a,b=>cR a b
 | .NotEq,a,b=>(cR a b).map (!·)
 | .Lt,.int a,.int b=>some (decide (a<b))
 | .LtE,.int a,.int b=>some (decide (a<=b))
 | .Gt,.int a,.int b=>some (decide (b<a))
 | .GtE,.int a,.int b=>some (decide (b<=a))
 | .Is,.bool a,.bool b=>some (a==b)
 | .IsNot,.bool a,.bool b=>some (a !=b)
 | .NotIn,a,.list l=>if l.length<=1000 then (aJi a l).map (!·) else Option.none
 | _,_,_=>Option.none
noncomputable def pH:AV->Option Bool
 | .bool b=>some b
 | _=>Option.none
noncomputable def yX:Const->Option AV
 | .none=>some .none
 | .bool b=>some (.bool b)
 | .int i=>some (.int i)
 | .str s=>some (.str s)
 | _=>Option.none
noncomputable def bD (a b c:Int):Option (List AV):=
 if bP a/\bP b then
  if c=1 then some ((List.range (b- a).toNat).map fun (i:Nat)=> .int (a+(i:Int)*1))
  else if c= -1 then some ((List.range (a- b).toNat).map fun (i:Nat)=> .int (a+(i:Int)*(-1)))
  else Option.none
 else Option.none
noncomputable def aLc:List AV->Option AV
 | [.list l]=>if l.length<=2^20 then some (.int l.length) else Option.none
 | [.tup l]=>if l.length<=2^20 then some (.int l.length) else Option.none
 | [.str s]=>if s.length<=2^20 then some (.int s.length) else Option.none
 | [.range a b c]=>(bD a b c).bind fun l=>if l.length<=2^20 then some (.int l.length) else Option.none
 | _=>Option.none
noncomputable def aM7:List AV->Option AV
 | [.str ⟨⟨[c]⟩⟩]=>some (.int (c:Nat))
 | _=>Option.none
noncomputable def aM8:List AV->Option AV
 | [.int i]=>if 0<=i/\i<1000 then some (.str ⟨#[i.toNat]⟩) else Option.none
 | _=>Option.none
noncomputable def aM9:List AV->Option AV
 | [.int a,.int b]=>some (.int (if b<a then b else a))
 | _=>Option.none
noncomputable def aNa:List AV->Option AV
 | [.int a,.int b]=>some (.int (if b>a then b else a))
 | _=>Option.none
noncomputable def aNb (F:List AV->Option AV):List AV->Option AV
 | [.list l]=>F l
 | _=>Option.none
theorem aJj {F:List AV->Option AV}{vs:List AV}{v:AV}{P:Prop}(e:aNb F vs=some v)(q:∀l,vs=[.list l]->F l=some v->P):P:=by
 rcases vs with _ | ⟨a,r⟩ <;> first | exact no1 e | skip
 rcases a with _ | _ | _ | _ | l | _ | _ | _ | _ | _ <;> first | exact no1 e | skip
 rcases r with _ | _ <;> first | exact no1 e | skip
 exact q l rfl e
noncomputable def aLx:List AV->Option AV
 | [.list l]=>(rM l).map fun ns=> .int ns.sum
 | [.tup l]=>(rM l).map fun ns=> .int ns.sum
 | _=>Option.none
noncomputable def bL (f:Str)(args:List AV):Option AV:=
 if f="len" then aLc args
 else if f="chr" then aM8 args
 else if f="min" then aM9 args
 else if f="max" then aNa args
 else if f="sum" then aLx args
 else if f="ord" then aM7 args
 else Option.none
noncomputable def fT (l:List AV)(i:Int):Option AV:=
 if l.length<=2^20 then
  if 0<=i then (if i<l.length then l[i.toNat]? else Option.none)
  else if -(l.length:Int)<=i then l[(i+l.length).toNat]? else Option.none
 else Option.none
noncomputable def yE:AV->AV->Option AV
 | .list l,.int i=>fT l i
 | .tup l,.int i=>if 0<=i then fT l i else Option.none
 | .str s,.int i=>if 0<=i/\i<=2^20 then (s.cps.toList[i.toNat]?).map fun c=> .str ⟨#[c]⟩ else Option.none
 | _,_=>Option.none
noncomputable def pI:List AV->Option AV
 | [.int b]=>if bP b then some (.range 0 b 1) else Option.none
 | [.int a,.int b]=>if bP a/\bP b then some (.range a b 1) else Option.none
 | [.int a,.int b,.int c]=>if bP a/\bP b/\c= -1 then some (.range a b c) else Option.none
 | _=>Option.none
noncomputable def aFh (vs:List AV):Option AV:=aNb (fun l=>if l.length<=2^20 then some (.tup l) else Option.none) vs
noncomputable def aJk:List AV->Option AV
 | [.range a b c]=>(bD a b c).bind fun l=>if c=1/\l.length<=2^20 then some (.list l) else Option.none
 | _=>Option.none
noncomputable def yY (f:Str)(args:List AV):Option AV:=
 if f="range" then pI args
 else if f="tuple" then aFh args
 else if f="list" then aJk args
 else Option.none
noncomputable def aV:AV->Option (List AV)
 | .list l=>some l
 | .tup l=>some l
 | .range a b c=>bD a b c
 | .str x=>some (x.cps.toList.map fun c=> .str ⟨#[c]⟩)
 | _=>Option.none
noncomputable def gE (f:AV->Option (Option AV)):List AV->Option (List AV)
 | []=>some []
 | a::r=>do
  match <-f a with
  | some v=>return v::(<- gE f r)
  | Option.none=>gE f r
noncomputable def aZ (ρ:Loc)(sc:Scope)(x:Str)(v:AV):Loc:=fun y=>if y=x then some v else if sc.names.lookup y=some .free then ρ y else Option.none
noncomputable def aGr (ρ:Loc)(x:Str)(v:AV):Loc:=fun y=>if y=x then some v else ρ y
noncomputable def dM (sc:Scope)(x:Str):Bool:=
 sc.kind== .function&&(sc.names.lookup x==some .local||sc.names.lookup x==some .cell)&&
 sc.names.all (fun y=>(y.2 != .local||sc.names.lookup y.1==some .local)&&(y.2 != .cell||y.1==x)&&(y.2 != .free||(sc.names.lookup y.1==some .free&&y.1 !=("__classdict__":Str))))&&x !=("__debug__":Str)
noncomputable def cX (sc:Scope)(ρ:Loc)(csc:Scope):Bool:=csc.names.all fun y=>y.2 != .free||((ρ y.1).isSome&&(sc.names.lookup y.1==some .cell||sc.names.lookup y.1==some .free))
structure CallF where
 fn:Str->List AV->Option AV
 me:Str->List AV->Option AV
 cl:Str->List AV->Option AV
 c:Nat
 ats:List Str
noncomputable def cI:Expr->Bool
 | .Call (.Name _ _) [] [] _=>false
 | _=>true
noncomputable def nX (x:Str):List Expr->Option AV
 | [.Constant (.str y) _ _,.Constant (.str z) _ _]=>if y≠z/\x.length<=2^20/\z.length<=14 then some (.str (Txt.replace x y z)) else Option.none
 | _=>Option.none
noncomputable def aLy:AV->Option AV
 | .list l=>if l.length<=2^20 then some (.list l.reverse) else Option.none
 | _=>Option.none
noncomputable def eD (f:AV->Option Nat):List AV->Option Nat
 | []=>some 0
 | a::r=>do return (<- f a)+(<- eD f r)
noncomputable def iF (sc:Scope)(x y:Str):Bool:=
 sc.kind== .function&&sc.names.lookup x==some .local&&sc.names.lookup y==some .local&&x !=y&&
 sc.names.all (fun z=>(z.2 != .local||sc.names.lookup z.1==some .local)&&z.2 != .cell&&(z.2 != .free||(sc.names.lookup z.1==some .free&&z.1 !=("__classdict__":Str))))&&x !=("__debug__":Str)&&y !=("__debug__":Str)
structure Cl (β:Type) where
 run:Loc->Option β
noncomputable def iD {β:Type}:Cl β:=⟨fun _=>Option.none⟩
noncomputable def aGs (x:Str)(ρ:Loc):Option AV:=if (x==("__debug__":Str)) then Option.none else ρ x
noncomputable def aNc (op:Operator)(a b:Option AV):Option AV:=a.bind fun a=>b.bind fun b=>pG op a b
noncomputable def aNs:AV->Option AV
 | .int i=>some (.int (-i))
 | _=>Option.none
noncomputable def aNt (a:Cl AV):UnaryOp->Cl AV
 | .USub=>⟨fun ρ=>(a.run ρ).bind aNs⟩
 | _=>iD
noncomputable def aNd (op:CmpOp)(a b:Option AV):Option Bool:=a.bind fun a=>b.bind fun b=>cmp op a b
noncomputable def aNe (E:Expr->Cl AV)(l:Expr):List CmpOp->List Expr->Cl Bool
 | [op],[r]=>⟨fun ρ=>aNd op ((E l).run ρ) ((E r).run ρ)⟩
 | _,_=>iD
noncomputable def aLz:Const->Bool
 | .int i=>i==1
 | _=>false
noncomputable def aNf:Expr->Bool
 | .Constant c _ _=>aLz c
 | _=>false
noncomputable def aL0:UnaryOp->Bool
 | .USub=>true
 | _=>false
noncomputable def minus1:Expr->Bool
 | .UnaryOp op e _=>aL0 op&&aNf e
 | _=>false
noncomputable def aGt:Expr->Bool
 | .Slice lo hi st _=>lo.isNone&&hi.isNone&&st.any minus1
 | _=>false
noncomputable def aNg (a b:Option AV):Option AV:=a.bind fun a=>b.bind fun b=>yE a b
noncomputable def aLd (E:Expr->Cl AV)(v i:Expr):Cl AV:=if aGt i then ⟨fun ρ=>((E v).run ρ).bind aLy⟩ else ⟨fun ρ=>aNg ((E v).run ρ) ((E i).run ρ)⟩
noncomputable def orE:Option AV->Option AV->Option AV
 | some v,_=>some v
 | Option.none,b=>b
noncomputable def yZ (cf:CallF)(f:Str)(vs:List AV):Option AV:=orE (bL f vs) (orE (yY f vs) (orE (cf.fn f vs) (cf.cl f vs)))
noncomputable def aL3 (cf:CallF)(m:Str)(as:List Expr)(vs:Option (List AV)):AV->Option AV
 | .inst c fs=>if c==cf.c&&(fs.lookup m).isNone then vs.bind fun vs=>cf.me m (.inst c fs::vs) else Option.none
 | .str x=>if m==("replace":Str) then nX x as else Option.none
 | _=>Option.none
noncomputable def aGu (cf:CallF)(sc:Scope)(E:Expr->Cl AV)(vs:Cl (List AV))(as:List Expr)(p:Pos):Expr->Cl AV
 | .Name f _=>if sc.names.lookup f==some .globalImplicit&&f !=("__debug__":Str) then ⟨fun ρ=>(vs.run ρ).bind (yZ cf f)⟩ else iD
 | .Attribute o m ap=>if cI o&&ap.endLine==p.line&&decide (as.length<30) then ⟨fun ρ=>((E o).run ρ).bind (aL3 cf m as (vs.run ρ))⟩ else iD
 | _=>iD
noncomputable def aJl (cf:CallF)(x:Str):AV->Option AV
 | .inst c fs=>if c==cf.c&&cf.ats.contains x then fs.lookup x else Option.none
 | _=>Option.none
noncomputable def bQ:Expr->Option Str
 | .Name x _=>some x
 | _=>Option.none
noncomputable def aC7 (z:Option Bool)(v:Option AV):Option (Option AV):=z.bind fun z=>if z then v.bind fun v=>some (some v) else some Option.none
noncomputable def aL4 (E:Scope->Expr->Cl AV)(T:Scope->List Expr->Cl Bool)(sc:Scope)(elt:Expr)(csc:Scope)(it:Expr)(ifs:List Expr)(x:Str)(ρ:Loc):Option AV:=
 if cX sc ρ csc then ((E sc it).run ρ).bind fun a=>(aV a).bind fun l=>
  if l.length<=2^20 then (gE (fun v=>aC7 ((T csc ifs).run (aZ ρ csc x v)) ((E csc elt).run (aZ ρ csc x v))) l).map .list else Option.none
 else Option.none
noncomputable def aNu:Const->Option Int
 | .int i=>some i
 | _=>Option.none
noncomputable def intE:Expr->Option Int
 | .Constant c _ _=>aNu c
 | _=>Option.none
noncomputable def odd:Expr->Bool
 | .Starred _ _=>true
 | .Set _ _ _=>true
 | _=>false
noncomputable def aGv (z:Option Bool):Option Nat:=z.bind fun z=>if z then some 1 else some 0
noncomputable def comp2 (E:Scope->Expr->Cl AV)(T:Scope->List Expr->Cl Bool)(sc:Scope)(csc:Scope)(it it2:Expr)(ifs:List Expr)(z:Int)(x y:Str)(ρ:Loc):Option AV:=
 if cX sc ρ csc then ((E sc it).run ρ).bind fun a=>(aV a).bind fun l=>
  if l.length<=1000 then (eD (fun v=>((E csc it2).run (aZ ρ csc x v)).bind fun b=>(aV b).bind fun l2=>
   if l2.length<=1000 then eD (fun u=>aGv ((T csc ifs).run (aGr (aZ ρ csc x v) y u))) l2 else Option.none) l).map fun k=> .list (List.replicate k (.int z))
  else Option.none
 else Option.none
noncomputable def aFi (E:Scope->Expr->Cl AV)(T:Scope->List Expr->Cl Bool)(sc:Scope)(csc:Scope)(g g2:Comprehension):Option Str->Option Str->Option Int->Cl AV
 | some x,some y,some z=>if iF csc x y&&g.is_async==0&&g2.is_async==0&&g.ifs.isEmpty&& !odd g2.iter then ⟨comp2 E T sc csc g.iter g2.iter g2.ifs z x y⟩ else iD
 | _,_,_=>iD
noncomputable def aFj (E:Scope->Expr->Cl AV)(T:Scope->List Expr->Cl Bool)(sc:Scope)(elt:Expr)(csc:Scope)(g:Comprehension):Option Str->Cl AV
 | some x=>if dM csc x&&g.is_async==0 then ⟨aL4 E T sc elt csc g.iter g.ifs x⟩ else iD
 | _=>iD
noncomputable def aL5 (E:Scope->Expr->Cl AV)(T:Scope->List Expr->Cl Bool)(sc:Scope)(elt:Expr)(csc:Scope):List Comprehension->Cl AV
 | []=>iD
 | g::gs=>match gs with
  | []=>aFj E T sc elt csc g (bQ g.target)
  | g2::gs=>match gs with
   | []=>aFi E T sc csc g g2 (bQ g.target) (bQ g2.target) (intE elt)
   | _::_=>iD
noncomputable def aGw (z:Option Bool):Option AV:=z.bind fun z=>some (.bool z)
noncomputable def aJm (v:Option AV)(r:Option (List AV)):Option (List AV):=v.bind fun v=>r.bind fun r=>some (v::r)
noncomputable def aL6 (z r:Option Bool):Option Bool:=z.bind fun z=>if z then r else some false
noncomputable def orO (z r:Option Bool):Option Bool:=z.bind fun z=>if z then some true else r
mutual
noncomputable def cE (cf:CallF):Nat->Scope->Expr->Cl AV
 | 0,_,_=>iD
 | n+1,sc,e=>
  match e with
  | .Constant c _ _=>⟨fun _=>yX c⟩
  | .Name x _=>⟨aGs x⟩
  | .BinOp l op r _=>⟨fun ρ=>aNc op ((cE cf n sc l).run ρ) ((cE cf n sc r).run ρ)⟩
  | .UnaryOp op x _=>aNt (cE cf n sc x) op
  | .Compare l ops rs _=>⟨fun ρ=>aGw ((aNe (cE cf n sc) l ops rs).run ρ)⟩
  | .BoolOp op vs _=>⟨fun ρ=>aGw ((cO cf n sc op vs).run ρ)⟩
  | .Subscript v i _=>aLd (cE cf n sc) v i
  | .List es _=>if es.length<=1000 then ⟨fun ρ=>((cL cf n sc es).run ρ).map .list⟩ else iD
  | .Tuple es _ _=>if es.length<=1000 then ⟨fun ρ=>((cL cf n sc es).run ρ).map .tup⟩ else iD
  | .Call f as ks p=>match ks with
   | []=>aGu cf sc (cE cf n sc) (cL cf n sc as) as p f
   | _::_=>iD
  | .Attribute e x _=>if cI e then ⟨fun ρ=>((cE cf n sc e).run ρ).bind (aJl cf x)⟩ else iD
  | .ListComp elt gens csc _=>aL5 (cE cf n) (cQ cf n) sc elt csc gens
  | _=>iD
noncomputable def cL (cf:CallF):Nat->Scope->List Expr->Cl (List AV)
 | 0,_,_=>iD
 | n+1,sc,es=>match es with
  | []=>⟨fun _=>some []⟩
  | e::es=>⟨fun ρ=>aJm ((cE cf n sc e).run ρ) ((cL cf n sc es).run ρ)⟩
noncomputable def cO (cf:CallF):Nat->Scope->BoolOp->List Expr->Cl Bool
 | 0,_,_,_=>iD
 | n+1,sc,op,es=>match es with
  | []=>iD
  | e::es=>match es with
   | []=>⟨fun ρ=>((cE cf n sc e).run ρ).bind pH⟩
   | _::_=>match op with
    | .And=>⟨fun ρ=>aL6 (((cE cf n sc e).run ρ).bind pH) ((cO cf n sc .And es).run ρ)⟩
    | .Or=>⟨fun ρ=>orO (((cE cf n sc e).run ρ).bind pH) ((cO cf n sc .Or es).run ρ)⟩
noncomputable def cQ (cf:CallF):Nat->Scope->List Expr->Cl Bool
 | 0,_,_=>iD
 | n+1,sc,es=>match es with
  | []=>⟨fun _=>some true⟩
  | e::es=>⟨fun ρ=>aL6 ((cT cf n sc e).run ρ) ((cQ cf n sc es).run ρ)⟩
noncomputable def cT (cf:CallF):Nat->Scope->Expr->Cl Bool
 | 0,_,_=>iD
 | n+1,sc,e=>
  match e with
  | .Compare l ops rs _=>aNe (cE cf n sc) l ops rs
  | .BoolOp op vs _=>cA cf n sc op vs
  | .Name x p=>⟨fun ρ=>((cE cf n sc (.Name x p)).run ρ).bind pH⟩
  | .Attribute e x p=>⟨fun ρ=>((cE cf n sc (.Attribute e x p)).run ρ).bind pH⟩
  | .Call g as ks p=>⟨fun ρ=>((cE cf n sc (.Call g as ks p)).run ρ).bind pH⟩
  | _=>iD
noncomputable def cA (cf:CallF):Nat->Scope->BoolOp->List Expr->Cl Bool
 | 0,_,_,_=>iD
 | n+1,sc,op,es=>match es with
  | []=>⟨fun _=>some (op== .And)⟩
  | e::es=>match op with
   | .And=>⟨fun ρ=>aL6 ((cT cf n sc e).run ρ) ((cA cf n sc .And es).run ρ)⟩
   | .Or=>⟨fun ρ=>orO ((cT cf n sc e).run ρ) ((cA cf n sc .Or es).run ρ)⟩
end
noncomputable def evE (cf:CallF)(n:Nat)(sc:Scope)(ρ:Loc)(e:Expr):Option AV:=(cE cf n sc e).run ρ
noncomputable def jH (cf:CallF)(n:Nat)(sc:Scope)(ρ:Loc)(es:List Expr):Option (List AV):=(cL cf n sc es).run ρ
noncomputable def evB (cf:CallF)(n:Nat)(sc:Scope)(ρ:Loc)(op:BoolOp)(es:List Expr):Option Bool:=(cO cf n sc op es).run ρ
noncomputable def aCq (cf:CallF)(n:Nat)(sc:Scope)(ρ:Loc)(es:List Expr):Option Bool:=(cQ cf n sc es).run ρ
noncomputable def evT (cf:CallF)(n:Nat)(sc:Scope)(ρ:Loc)(e:Expr):Option Bool:=(cT cf n sc e).run ρ
noncomputable def evA (cf:CallF)(n:Nat)(sc:Scope)(ρ:Loc)(op:BoolOp)(es:List Expr):Option Bool:=(cA cf n sc op es).run ρ
inductive Slot where
 | val (v:AV)
 | own (v:AV)
noncomputable abbrev St:=Str->Option Slot
noncomputable def Slot.av:Slot->AV
 | .val v=>v
 | .own v=>v
noncomputable def St.all (ρ:St):Loc:=fun x=>(ρ x).map Slot.av
noncomputable def St.frozen (ρ:St):Loc:=fun x=>match ρ x with
 | some (.val v)=>some v
 | _=>Option.none
noncomputable def St.set (ρ:St)(x:Str)(s:Slot):St:=fun y=>if y=x then some s else ρ y
mutual
noncomputable def flat:AV->Bool
 | .none=>true
 | .bool _=>true
 | .int _=>true
 | .str _=>true
 | .list _=>false
 | .tup l=>aN l
 | .alt _=>true
 | .inst _ _=>false
 | .addr _=>true
 | .range _ _ _=>false
noncomputable def aN:List AV->Bool
 | []=>true
 | a::r=>flat a&&aN r
end
noncomputable def kA:Expr->Bool
 | .List _ _=>true
 | .BinOp _ _ _ _=>true
 | _=>false
inductive Fl where
 | next
 | brk
 | ret (v:AV)
noncomputable def bE (sc:Scope)(x:Str):Bool:=sc.names.lookup x==some .local||sc.names.lookup x==some .cell
noncomputable def aGx (mu:List Str)(x:Str)(fe:Bool)(fz:Option AV)(v:AV):Option Slot:=
 if flat v then some (.val v)
 else if mu.contains x&&fe then
  match v with
  | .list l=>if aN l then some (.own (.list l)) else Option.none
  | _=>Option.none
 else fz.map .val
noncomputable def evS (cf:CallF)(mu:List Str)(n:Nat)(sc:Scope)(ρ:St)(x:Str)(e:Expr):Option Slot:=(evE cf n sc ρ.all e).bind (aGx mu x (kA e) (evE cf n sc ρ.frozen e))
noncomputable def vY (n:Nat)(k:Int):Option Nat:=
 if 0<=k then (if k<n then some k.toNat else Option.none) else if -(n:Int)<=k then some (k+n).toNat else Option.none
noncomputable def St.del (ρ:St)(x:Str):St:=fun y=>if y=x then Option.none else ρ y
structure Cs where
 run:St->Option (Fl × St)
noncomputable def eI:Cs:=⟨fun _=>Option.none⟩
noncomputable def next (ρ:St):Option (Fl × St):=some (.next,ρ)
noncomputable def aNh (k:St->Option (Fl × St)):Fl × St->Option (Fl × St)
 | (.next,ρ)=>k ρ
 | (.brk,ρ)=>next ρ
 | (.ret v,ρ)=>some (.ret v,ρ)
noncomputable def vZ (g:AV->St->Option (Fl × St)):List AV->St->Option (Fl × St)
 | [],ρ=>next ρ
 | a::r,ρ=>(g a ρ).bind (aNh (vZ g r))
noncomputable def pJ (t:St->Option Bool)(g:St->Option (Fl × St)):Nat->St->Option (Fl × St)
 | 0,_=>Option.none
 | k+1,ρ=>(t ρ).bind fun z=>if z then (g ρ).bind (aNh (pJ t g k)) else next ρ
noncomputable def aNv (ρ:St)(x y:Str):AV->Option (Fl × St)
 | .tup [v,u]=>if flat v&&flat u then next ((ρ.set x (.val v)).set y (.val u)) else Option.none
 | _=>Option.none
noncomputable def aFk:Expr->Bool
 | .Attribute _ _ _=>true
 | _=>false
noncomputable def aFl (sc:Scope)(E:Cl AV)(e:Expr):Option Str->Option Str->Cs
 | some x,some y=>if bE sc x&&bE sc y&&aFk e then ⟨fun ρ=>(E.run ρ.all).bind (aNv ρ x y)⟩ else eI
 | _,_=>eI
noncomputable def aJn (sc:Scope)(E:Cl AV)(e:Expr):List Expr->Cs
 | [a,b]=>aFl sc E e (bQ a) (bQ b)
 | _=>eI
noncomputable def zA:Option Slot->Option (List AV)
 | some (.own (.list l))=>if l.length<=2^20 then some l else Option.none
 | _=>Option.none
noncomputable def aNw (ρ:St)(x:Str)(v:AV)(l:List AV):AV->Option (Fl × St)
 | .int k=>(vY l.length k).bind fun j=>if aN l&&flat v then next (ρ.set x (.own (.list (l.set j v)))) else Option.none
 | _=>Option.none
noncomputable def aGy (E I:Cl AV):Expr->Cs
 | .Name x _=>if x==("__debug__":Str) then eI else ⟨fun ρ=>(E.run ρ.all).bind fun v=>(I.run ρ.all).bind fun k=>(zA (ρ x)).bind fun l=>aNw ρ x v l k⟩
 | _=>eI
noncomputable def aNx (mu:List Str)(x:Str)(fe:Bool)(E:Cl AV)(ρ:St):Option (Fl × St):=((E.run ρ.all).bind (aGx mu x fe (E.run ρ.frozen))).bind fun s=>next (ρ.set x s)
noncomputable def aC8:Expr->Bool
 | .ListComp _ gens _ _=>gens.length==2
 | _=>false
noncomputable def aJo (mu:List Str)(sc:Scope)(E:Expr->Cl AV)(e:Expr):Expr->Cs
 | .Name x _=>if bE sc x&& !aC8 e then ⟨aNx mu x (kA e) (E e)⟩ else eI
 | .Tuple ts _ _=>aJn sc (E e) e ts
 | .Subscript o i _=>aGy (E e) (E i) o
 | _=>eI
noncomputable def aC9:Expr->Bool
 | .List es _=>es.isEmpty
 | _=>false
noncomputable def aDa (mu:List Str)(x:Str)(emp:Bool)(l:List AV)(v:AV):Option (List AV):=
 if flat v&&aN l then some (l++[v]) else if emp&&mu==[x] then some (l++[.list []]) else Option.none
noncomputable def inL (v:AV):AV->Option AV
 | .list w=>if aN w&&decide (w.length<=2^20) then some (.list (w++[v])) else Option.none
 | _=>Option.none
noncomputable def lY (v:AV):List AV->Option (List AV)
 | []=>Option.none
 | a::r=>match r with
  | []=>(inL v a).map fun b=>[b]
  | _::_=>(lY v r).map (a:: ·)
noncomputable def aDb (ρ:St)(x:Str)(l:Option (List AV)):Option (Fl × St):=l.bind fun l=>next (ρ.set x (.own (.list l)))
noncomputable def aL7 (l:List AV):AV->Option (List AV)
 | .list k=>if aN l&&aN k&&decide (k.length<=2^20) then some (l++k) else Option.none
 | _=>Option.none
noncomputable def rN (mu:List Str)(m:Str)(E:Cl AV)(e:Expr):Expr->Cs
 | .Name x _=>if x !=("__debug__":Str)&&x !=("super":Str) then
   (if m==("append":Str) then ⟨fun ρ=>(E.run ρ.all).bind fun v=>(zA (ρ x)).bind fun l=>aDb ρ x (aDa mu x (aC9 e) l v)⟩
   else if m==("extend":Str) then ⟨fun ρ=>(E.run ρ.all).bind fun v=>(zA (ρ x)).bind fun l=>aDb ρ x (aL7 l v)⟩
   else eI)
  else eI
 | .Subscript o i _=>match bQ o with
  | some x=>if m==("append":Str)&&x !=("__debug__":Str)&&minus1 i then
    ⟨fun ρ=>(E.run ρ.all).bind fun v=>(zA (ρ x)).bind fun l=>if flat v then aDb ρ x (lY v l) else Option.none⟩
   else eI
  | Option.none=>eI
 | _=>eI
noncomputable def aNy (l:List AV):Option (List AV):=if aN l&& !l.isEmpty then some l.dropLast else Option.none
noncomputable def zB (m:Str):Expr->Cs
 | .Name x _=>if m==("pop":Str)&&x !=("__debug__":Str)&&x !=("super":Str) then ⟨fun ρ=>(zA (ρ x)).bind fun l=>aDb ρ x (aNy l)⟩ else eI
 | _=>eI
noncomputable def aJp (mu:List Str)(E:Expr->Cl AV)(o:Expr)(m:Str):List Expr->Cs
 | []=>zB m o
 | e::es=>match es with
  | []=>rN mu m (E e) e o
  | _::_=>eI
noncomputable def aJq (mu:List Str)(E:Expr->Cl AV)(as:List Expr)(p:Pos):Expr->Cs
 | .Attribute o m ap=>if ap.endLine==p.line then aJp mu E o m as else eI
 | _=>eI
noncomputable def aJr (mu:List Str)(E:Expr->Cl AV):Expr->Cs
 | .Call f as ks p=>match ks with
  | []=>aJq mu E as p f
  | _::_=>eI
 | _=>eI
noncomputable def aL8 (k:Cs):Fl × St->Option (Fl × St)
 | (.next,ρ)=>k.run ρ
 | (f,ρ)=>some (f,ρ)
mutual
noncomputable def cS (cf:CallF)(mu:List Str):Nat->Scope->Stmt->Cs
 | 0,_,_=>eI
 | n+1,sc,st=>
  match st with
  | .Assign ts e _=>match ts with
   | []=>eI
   | t::ts=>match ts with
    | []=>aJo mu sc (cE cf n sc) e t
    | _::_=>eI
  | .Expr v _=>aJr mu (cE cf n sc) v
  | .Return v _=>match v with
   | some e=>⟨fun ρ=>((cE cf n sc e).run ρ.all).bind fun v=>some (.ret v,ρ)⟩
   | Option.none=>eI
  | .If t b o _=>⟨fun ρ=>((cT cf n sc t).run ρ.all).bind fun z=>if z then (cB cf mu n sc b).run ρ else (cB cf mu n sc o).run ρ⟩
  | .For t it body els _=>match bQ t with
   | some x=>if bE sc x&&els.isEmpty then ⟨fun ρ=>((cE cf n sc it).run ρ.frozen).bind fun a=>(aV a).bind fun l=>vZ (fun a ρ=>(cB cf mu n sc body).run (ρ.set x (.val a))) l ρ⟩ else eI
   | Option.none=>eI
  | .While t body els _=>if els.isEmpty then ⟨pJ (fun ρ=>(cT cf n sc t).run ρ.all) (cB cf mu n sc body).run n⟩ else eI
  | .Break _=>⟨fun ρ=>some (.brk,ρ)⟩
  | _=>eI
noncomputable def cB (cf:CallF)(mu:List Str):Nat->Scope->List Stmt->Cs
 | 0,_,_=>eI
 | n+1,sc,sts=>match sts with
  | []=>⟨next⟩
  | st::r=>⟨fun ρ=>((cS cf mu n sc st).run ρ).bind (aL8 (cB cf mu n sc r))⟩
end
noncomputable def exS (cf:CallF)(mu:List Str)(n:Nat)(sc:Scope)(ρ:St)(st:Stmt):Option (Fl × St):=(cS cf mu n sc st).run ρ
noncomputable def exB (cf:CallF)(mu:List Str)(n:Nat)(sc:Scope)(ρ:St)(sts:List Stmt):Option (Fl × St):=(cB cf mu n sc sts).run ρ
structure Fn where
 ps:List Str
 mu:List Str
 body:List Stmt
 sc:Scope
noncomputable def eE (ps:List Str)(args:List AV):St:=fun x=>((ps.zip args).lookup x).map .val
noncomputable def bS (cf:CallF)(fuel:Nat)(fn:Fn)(args:List AV):Option AV:=
 if fn.ps.length=args.length then
  match exB cf fn.mu fuel fn.sc (eE fn.ps args) fn.body with
  | some (.ret v,_)=>some v
  | some (.next,_)=>some .none
  | _=>none
 else none
noncomputable def gM:List Str->Bool
 | []=>true
 | a::r=> !r.contains a&&gM r
theorem aDc:∀(a:PySem.Str) (r:List PySem.Str),gM (a::r)=(!List.contains r a&&gM r):=fun _ _=>rfl
noncomputable def Fn.ok (fn:Fn):Bool:=gM fn.ps&&fn.ps.all (bE fn.sc)&&fn.sc.names.all (fun y=>y.2 != .free)&&fn.sc.kind== .function&& !fn.sc.isCoroutine&& !fn.sc.isGenerator
end Mine
variable {w:World}{prog:Program}{A:Around}{E:Value->Shared->Prop}{Sta:Heap->Prop}{mb mg mN mV mm:Str->Option Value} {C N c dc V NV dm L:Addr}{Z:List (Addr × Addr)}{env:Env}{cf:Mine.CallF}{hb:Heap}{S O:List Addr}{wd:Int}{sp:Str}{lines:List Str}{fd:FuncData}{sc:Scope}{qs:List (Str × Str)}{Q:Value->Shared->Prop}{ps:List (Str × Str)}{vs:List Mine.AV}{s s'1 s' s'0 s'2:Shared}{h h':Heap}{x:Str}{v:Mine.AV} {p pos px ap xp q p':Pos}{a dx cc fpush P:Addr}{n k m i j:Nat}{W:List Addr}{kvs:List (Int × Value)}{e o elt:Expr}{fs:List (Str × Mine.AV)}{ys vals:List Value}{ρ:Mine.St}{y:Value}{mA:Str->Option Value}{cnt script:List Int}{text:Array Nat}{mu:List Str}{es as args:List Expr}{t:Tok}{R:Result->Shared->Prop}{csc:Scope}{body blank:List Stmt}{raw:Str}{pieces:List Str}{id:String}{ends:List (List Nat)}{G:Mine.AV->Mine.St->Option (Mine.Fl × Mine.St)}
namespace Mine
def aY (env:Env)(h:Heap)(x:Str)(u:Value):Prop:=
 (env.kindOf x=some .local/\∃m,h.Ns env.locals m/\m x=some u)\/
 (env.kindOf x=some .cell/\∃c,env.cells.lookup x=some c/\h.IsCell c (some u))\/
 (env.kindOf x=some .free/\(x==("__classdict__":Str))=false/\∃c,env.cells.lookup x=some c/\h.IsCell c (some u))
theorem aY.keeps {u:Value}(k:∀b o,h.get? b=some o->h'.get? b=some o)(b:aY env h x u):aY env h' x u:=by
 rcases b with ⟨q,m,hn,hm⟩ | ⟨q,c,hc,hi⟩ | ⟨q,q2,c,hc,hi⟩
 ·exact .inl ⟨q,m,hn.keeps k,hm⟩
 ·exact .inr (.inl ⟨q,c,hc,hi.keeps k⟩)
 ·exact .inr (.inr ⟨q,q2,c,hc,hi.keeps k⟩)
section
variable {M:Model}
theorem bF {u:Value}(hk:env.scope.kind= .function)(b:aY env s.heap x u)(hd:(x==("__debug__":Str))=false)(h:Q u s):
  wpAny M A (eval (.Name x pos) env) Q E s:=by
 refine wpAny_Name ?_ hd
 rcases b with ⟨q,m,hn,hm⟩ | ⟨q,c,hc,hi⟩ | ⟨q,q2,c,hc,hi⟩
 ·exact wpAny_loadName_local hk q hn hm h
 ·exact wpAny_loadName_cell hk q hc hi h
 ·exact wpAny_loadName_free hk q hc hi h q2
end
theorem zC {α:Type}{M:Model}{t:Sem α}{P Q:α->Shared->Prop}(ht:0<s.toks)(h:wpAny M A t P E s)(k:∀v s',0<s'.toks->P v s'->Q v s')(_:∀e s',E e s'->E e s'):
  wpAny M A t Q E s:=wpAny_with_toks (n:=1) ht (wpAny_mono h (fun v s' p q=>k v s' q p) fun _ _ e _=>e)
structure bT (A:Around)(d:Nat):Prop where
 handled:A.handled=none
 depth:A.depth+d<990
 units:A.units+8*d+400<9900
def dB (s s':Shared):Prop:=∃h' tk,s'={s with heap:=h',toks:=tk}/\(∀ b o,s.heap.get? b=some o->h'.get? b=some o)
theorem dB.refl (s:Shared):dB s s:=⟨s.heap,s.toks,rfl,fun _ _ e=>e⟩
theorem dB.trans {a b c:Shared}(x:dB a b)(y:dB b c):dB a c:=by
 obtain ⟨h1,t1,rfl,k1⟩:=x;obtain ⟨h2,t2,rfl,k2⟩:=y;exact ⟨h2,t2,rfl,fun b o e=>k2 b o (k1 b o e)⟩
theorem dB.get {a b:Shared}(x:dB a b):∀c o,a.heap.get? c=some o->b.heap.get? c=some o:=by
 obtain ⟨h1,t1,rfl,k1⟩:=x;exact k1
theorem dB.toks:dB s {s with toks:=n}:=⟨s.heap,_,rfl,fun _ _ e=>e⟩
theorem dB.push {o:Obj}:dB s {s with heap:=s.heap.push o}:=⟨_,s.toks,rfl,fun _ _ e=>Heap.get?_push_of_some _ e⟩
theorem dB.of {tk:Nat}(k:∀b o,s.heap.get? b=some o->h'.get? b=some o):dB s {s with heap:=h',toks:=tk}:=⟨h',tk,rfl,k⟩
theorem dB.hide {a b:Shared}(x:dB a b)(M:List Addr):∀c o,(hide a.heap M).get? c=some o->(hide b.heap M).get? c=some o:=
 aH (fun _ h1 h2=>absurd h1 h2) fun c o _ e=>x.get c o e
theorem dB.den {a b:Shared}(x:dB a b){M:List Addr}{v:Value}{d:AV}(h:Den (Mine.hide a.heap M) v d):Den (Mine.hide b.heap M) v d:=h.keeps (x.hide M)
def PE (M:List Addr)(s:Shared)(v:AV)(y:Value)(s':Shared):Prop:=Den (hide s'.heap M) y v/\dB s s'
section
variable {M:List Addr}
theorem PE.int {i:Int}{t:Nat}:PE M s (.int i) (.int i t) {s with toks:=n}:=⟨.int i t,dB.toks⟩
theorem PE.str {i:Str}{t:Nat}:PE M s (.str i) (.str i t) {s with toks:=n}:=⟨.str i t,dB.toks⟩
theorem PE.bool {b:Bool}:PE M s (.bool b) (.bool b) s:=⟨.bool b,dB.refl s⟩
theorem zD {i:Int}(h:bP i=true):i.natAbs<2^64:=by
 unfold bP at h;have:=of_decide_eq_true h;omega
theorem aJ {vs:Array Value}(x:(hide h M).PlainList a vs):h.PlainList a vs:=by obtain ⟨n,e⟩:=x;exact ⟨n,(aA.mp e).2⟩
theorem cU {vs:Array Value}(x:(hide h M).IsTuple a vs):h.IsTuple a vs:=by obtain ⟨o,e,r⟩:=x;exact ⟨o,(aA.mp e).2,r⟩
theorem dN {vs:Array Value}{l:List AV}(hlt:∀a∈M,∃o,s.heap.get? a=some o)(hd:aO (hide s.heap M) vs.toList l)(n:Nat):
  PE M s (.list l) (.ref s.heap.objs.size) {s with heap:=s.heap.push {cls:= .type "list",data:= .seq vs n}}:=
 ⟨.mkList ⟨n,aA.mpr ⟨fun q=>by obtain ⟨_,e⟩:=hlt _ q;exact Nat.lt_irrefl _ (Heap.lt_size e),Heap.get?_push_size _ rfl⟩⟩ (hd.keeps (dB.hide dB.push M)),dB.push⟩
theorem kB {vs:Array Value}{l:List AV}(hlt:∀a∈M,∃o,s.heap.get? a=some o)(hd:aO (hide s.heap M) vs.toList l)(n:Nat):
  PE M s (.tup l) (.ref s.heap.objs.size) {s with heap:=s.heap.push {cls:= .type "tuple",data:= .seq vs n}}:=
 ⟨.mkTup ⟨_,aA.mpr ⟨fun q=>by obtain ⟨_,e⟩:=hlt _ q;exact Nat.lt_irrefl _ (Heap.lt_size e),Heap.get?_push_size _ rfl⟩,rfl,n,rfl⟩ (hd.keeps (dB.hide dB.push M)),dB.push⟩
theorem pK (vs:Array Value):∀(n:Nat) (a:Array Value),(List.foldl (fun x1 x2=>x1++x2) a (List.replicate n vs)).toList=a.toList++(List.replicate n vs.toList).flatten
 | 0,a=>by simp
 | n+1,a=>by rw [List.replicate_succ,List.foldl_cons,pK vs n,List.replicate_succ,List.flatten_cons,Array.toList_append,List.append_assoc]
theorem Den.int_inv {V:Heap}{i:Int}(h:Den V y (.int i)):∃t,y= .int i t:=by cases h;exact ⟨_,rfl⟩
theorem Den.str_inv {V:Heap}{i:Str}(h:Den V y (.str i)):∃t,y= .str i t:=by cases h;exact ⟨_,rfl⟩
theorem Den.alt_inv {V:Heap}{l:List Str}(h:Den V y (.alt l)):∃s t,y= .str s t/\s∈l:=by cases h with | alt s t _ h=>exact ⟨s,t,rfl,h⟩
theorem Den.bool_inv {V:Heap}{i:Bool}(h:Den V y (.bool i)):y= .bool i:=by cases h;rfl
theorem pL (h:Heap):h.get? h.objs.size=none:=by
 rcases e:h.get? h.objs.size with _ | o
 ·rfl
 ·exact absurd (Heap.lt_size e) (Nat.lt_irrefl _)
def PF (M:List Addr)(s:Shared)(v:AV)(y:Value)(s':Shared):Prop:=PE M s v y s'/\∀a,y= .ref a->s.heap.get? a=none
theorem PF.int {i:Int}{t:Nat}:PF M s (.int i) (.int i t) {s with toks:=n}:=⟨.int,fun _ e=>nomatch e⟩
theorem PF.str {i:Str}{t:Nat}:PF M s (.str i) (.str i t) {s with toks:=n}:=⟨.str,fun _ e=>nomatch e⟩
theorem aNz {op:Operator}{a b:AV}{C:Operator->AV->AV->AV->Prop}(h:pG op a b=some v)(q1:∀a b,C .Add (.int a) (.int b) (.int (a+b)))(q2:∀a b,a.length+b.length<=2^20->C .Add (.str a) (.str b) (.str (a++b)))(q3:∀a b,a.length+b.length<=2^20->C .Add (.list a) (.list b) (.list (a++b)))
  (q4:∀a b,C .Sub (.int a) (.int b) (.int (a- b))) (q5:∀a b,bP a=true->C .Mult (.int a) (.int b) (.int (a*b))) (q6:∀a k,0<=k/\k<=1000/\a.length<=1000->C .Mult (.str a) (.int k) (.str (Txt.mul a k))) (q7:∀a k,0<=k/\k<=1000/\a.length<=1000->C .Mult (.list a) (.int k) (.list (List.replicate k.toNat a).flatten))
  (q8:∀a b,0<b/\b<=1000000->C .FloorDiv (.int a) (.int b) (.int (a/b))) (q9:∀a b,0<b->C .Mod (.int a) (.int b) (.int (a%b))) (q10:∀(a:Str) (l:List Str),(l.all fun b=>a.length+b.length<=2^20)=true->C .Add (.str a) (.alt l) (.alt (l.map fun b=>a++b))):C op a b v:=by
 cases op <;> first | exact no1 h | (rcases a with _ | _ | a | a | a | _ | _ | _ | _ | _ <;> first | exact no1 h | (rcases b with _ | _ | b | b | b | _ | b | _ | _ | _ <;> first | exact no1 h | exact Option.some.inj h▸q1 a b | exact bK h fun k e=>Option.some.inj e▸q2 a b k | exact bK h fun k e=>Option.some.inj e▸q3 a b k | exact Option.some.inj h▸q4 a b | exact bK h fun k e=>Option.some.inj e▸q5 a b k | exact bK h fun k e=>Option.some.inj e▸q6 a b k | exact bK h fun k e=>Option.some.inj e▸q7 a b k | exact bK h fun k e=>Option.some.inj e▸q8 a b k | exact bK h fun k e=>Option.some.inj e▸q9 a b k | exact bK h fun k e=>Option.some.inj e▸q10 a b k))
theorem Den.i2 {V:Heap}{x:Value}{a b:Int}{P:Prop}(hx:Den V x (.int a))(hy:Den V y (.int b))(q:∀t u,x= .int a t->y= .int b u->P):P:=by obtain ⟨t,e⟩:=hx.int_inv;exact by obtain ⟨u,e'⟩:=hy.int_inv;exact q t u e e'
theorem eJ {V:Heap}{vs:Array Value}{l:List AV}(h:aO V vs.toList l):vs.size=l.length:=h.1
theorem aGz (hlt:∀a∈M,∃o,s.heap.get? a=some o){a b:List AV}{x:Value}(hsz:a.length+b.length<=2^20)(hx:Den (hide s.heap M) x (.list a))(hy:Den (hide s.heap M) y (.list b)):wpAny (model prog w) A (binaryOp .Add x y) (PF M s (.list (a++b))) E s:=by
 obtain ⟨p,vs,e,h1,hd1⟩:=hx.list_inv;obtain ⟨q,ws,e',h2,hd2⟩:=hy.list_inv;obtain ⟨n,ho⟩:=aJ h1;obtain ⟨n2,ho2⟩:=aJ h2;subst e e';exact concat_meets ⟨_,ho,rfl⟩ ⟨_,ho2,rfl⟩ noFill_list_add seq_list_add PySem.F.slot_list_add PySem.F.entry_list_add (PySem.F.args_list_add_2 _ _) (list_addW p q vs ws n n2 none none #[] #[] (by rw [eJ hd1,eJ hd2]; exact Nat.le_trans hsz (by decide))) ⟨ho,ho2,dN hlt (by rw [Array.toList_append]; exact hd1.append hd2) 0,fun _ e=>Value.ref.inj e▸pL _⟩
theorem aG0 (hlt:∀a∈M,∃o,s.heap.get? a=some o){a:List AV}{k:Int}{x:Value}(hs:0<=k/\k<=1000/\a.length<=1000)(hx:Den (hide s.heap M) x (.list a))(hy:Den (hide s.heap M) y (.int k)):wpAny (model prog w) A (binaryOp .Mult x y) (PF M s (.list (List.replicate k.toNat a).flatten)) E s:=by
 obtain ⟨p,vs,e,h1,hd1⟩:=hx.list_inv;obtain ⟨u,e'⟩:=hy.int_inv;obtain ⟨n,ho⟩:=aJ h1;subst e e';have hl1:=eJ hd1;have h3:vs.size*k.toNat<=1000*1000:=Nat.mul_le_mul (by lia) (by lia);refine wpAny_binaryOp_repeat_ref (T:="list") (U:="int") (by decide) ⟨_,ho,rfl⟩ (fun s'=>typeIs_int s' _ u) noFill_list_mul F.fills_int_mul F.slot_int_rmul repeat_list F.slot_int_index.lookup
  (call_meets F.slot_int_rmul (typeIs_int s _ u) F.entry_int_rmul (F.args_int_rmul_2 _ _) (int___rmul___int_list _ u p vs n)
   ⟨ho,rfl,⟨_,ho,rfl⟩,call_meets F.slot_list_mul ⟨_,ho,rfl⟩ F.entry_list_mul (F.args_list_mul_2 _ _)
    (AutoListH.list___mul___list_int_3 p vs n _ u (by simp [Builtin.List.listFitsIndex]; lia) (by lia) (by
     simp only [Builtin.List.listTooLong,sizeLine]; simp;exact lit h3 rfl))
    ⟨ho,?_⟩⟩)
 refine ⟨dN hlt ?_ 0,fun _ e=>Value.ref.inj e▸pL _⟩;rw [pK,Array.toList_empty,List.nil_append]
 by_cases q:vs.isEmpty=true
 ·obtain rfl:vs= #[]:=by simpa using q
  obtain rfl:a=[]:=List.eq_nil_of_length_eq_zero (by simpa using hd1.1.symm);have:(List.replicate k.toNat ([]:List AV)).flatten=[]:=by simp
  rw [if_pos q,this]; exact .nil
 ·rw [if_neg q];exact hd1.rep k.toNat
theorem aG1 {a:Str}{k:Int}{x:Value}(hs:0<=k/\k<=1000/\a.length<=1000)(hx:Den (hide s.heap M) x (.str a))(hy:Den (hide s.heap M) y (.int k)):wpAny (model prog w) A (binaryOp .Mult x y) (PF M s (.str (Txt.mul a k))) E s:=by
 obtain ⟨t,e⟩:=hx.str_inv;obtain ⟨u,e'⟩:=hy.int_inv;subst e e';refine SB.mul ⟨by simp;omega,fun h1 h2=> ?_,fun h1 h2=> ?_⟩ fun t' k=> .str
 ·have:(1000:Int)<=(2^63- 1)/k:=Int.le_ediv_of_mul_le (by exact Int.not_lt.mp h1) (by omega)
  clear hx hy
  omega
 ·refine decide_eq_false ?_;have h3:a.length*k.toNat<=1000*1000:=Nat.mul_le_mul (by omega) (by omega);rw [sizeLine_eq]
  clear hx hy
  omega
theorem rO (hlt:∀a∈M,∃o,s.heap.get? a=some o){op:Operator}{a b:AV}{x:Value}(e:pG op a b=some v):Den (hide s.heap M) x a->Den (hide s.heap M) y b->wpAny (model prog w) A (binaryOp op x y) (PF M s v) E s:=
 aNz (C:=fun op a b v=>Den (hide s.heap M) x a->Den (hide s.heap M) y b->wpAny (model prog w) A (binaryOp op x y) (PF M s v) E s) e (fun a b hx hy=>hx.i2 hy fun t u e e'=>by subst e e';exact add_int .int)
  (fun a b h hx hy=>by obtain ⟨t,e⟩:=hx.str_inv;exact by obtain ⟨u,e'⟩:=hy.str_inv;exact by subst e e';exact SBL.add (fun t' k _=> .str) (Nat.le_trans h (by decide))) (fun a b=>aGz hlt)
  (fun a b hx hy=>hx.i2 hy fun t u e e'=>by subst e e';exact sub_int .int) (fun a b h hx hy=>hx.i2 hy fun t u e e'=>by subst e e';exact AutoIntOps.mul_0 PF.int (.of_left (intBits_le (zD h)))) (fun a k=>aG1) (fun a k=>aG0 hlt)
  (fun a b h hx hy=>hx.i2 hy fun t u e e'=>by subst e e';exact floordiv_int (Int.ne_of_gt h.1) (Int.fdiv_eq_ediv_of_nonneg _ (Int.le_of_lt h.1)▸ .int) (.inl (PyProof.noPylong_small (by omega))))
  (fun a b h hx hy=>hx.i2 hy fun t u e e'=>by subst e e';exact mod_int' (Int.ne_of_gt h) (Int.fmod_eq_emod_of_nonneg _ (Int.le_of_lt h)▸ .int))
  (fun a l h hx hy=>by
   obtain ⟨t,e⟩:=hx.str_inv;obtain ⟨s',u,e',hs⟩:=hy.alt_inv;subst e e';exact SBL.add (fun t' k _=>⟨⟨.alt _ _ _ (List.mem_map.mpr ⟨s',hs,rfl⟩),dB.toks⟩,fun _ e=>nomatch e⟩) (Nat.le_trans (of_decide_eq_true (List.all_eq_true.mp h s' hs)) (by decide)))
end
theorem jM {V:Heap}{d:AV}(h:Den V y d):∀p,d.toData=some p->∃as,Reads V y p as:=by
 have all:∀{l:List AV} {vs:Array Value} (hl:vs.size=l.length),(∀ (i:Nat) (h:i<l.length), ∀p,(l[i]).toData=some p->∃as,Reads V (vs[i]'(hl▸h)) p as)->
   ∀ps,AV.toDataL l=some ps->∃as,ReadsAll V vs.toList ps as:=by
  intro l vs hl ih;have key:∀(l:List AV) (vs:List Value),vs.length=l.length->(∀ (i:Nat) (y:Value) (v:AV),vs[i]? =some y->l[i]? =some v->∀p,v.toData=some p->∃as,Reads V y p as)->
    ∀ps,AV.toDataL l=some ps->∃as,ReadsAll V vs ps as:=by
   intro l
   induction l with
   | nil=>
    intro vs hn _ ps e;have:vs=[]:=List.eq_nil_of_length_eq_zero (by simpa using hn);subst this
    (replace e:=Option.some.inj e;subst e)
    exact ⟨_,.nil⟩
   | cons a r ihl=>
    intro vs hn hi ps e
    cases vs with
    | nil=>simp at hn
    | cons y ys=>
     refine iW e fun x z hx hz e0=> ?_
     subst e0;obtain ⟨as,ha⟩:=hi 0 y a rfl rfl x hx;obtain ⟨bs,hb⟩:=ihl ys (by simpa using hn) (fun i y v h1 h2=>hi (i+1) y v (by simpa using h1) (by simpa using h2)) z hz;exact ⟨_,.cons ha hb⟩
  refine key l vs.toList (by simpa using hl) fun i y v h1 h2 p e=> ?_
  obtain ⟨hi,rfl⟩:=List.getElem?_eq_some_iff.mp h2;have:vs.toList[i]? =some (vs[i]'(hl▸hi)):=by rw [Array.getElem?_toList]; exact Array.getElem?_eq_getElem _
  rw [this] at h1;(replace h1:=Option.some.inj h1;subst h1);exact ih i hi p e
 induction h with
 | none=>intro p e;(replace e:=Option.some.inj e;subst e); exact ⟨_,.none⟩
 | bool b=>intro p e;(replace e:=Option.some.inj e;subst e); exact ⟨_,.bool b⟩
 | int i t=>intro p e;(replace e:=Option.some.inj e;subst e); exact ⟨_,.int i t⟩
 | str s t=>intro p e;(replace e:=Option.some.inj e;subst e); exact ⟨_,.str s t⟩
 | list hp hl _ ih=>
  intro p e;obtain ⟨ps,hps,rfl⟩:=Option.map_eq_some_iff.mp e;obtain ⟨as,ha⟩:=all hl ih ps hps;obtain ⟨n,ho⟩:=hp;exact ⟨_,.list ho rfl rfl ha⟩
 | tup hp hl _ ih=>
  intro p e;obtain ⟨ps,hps,rfl⟩:=Option.map_eq_some_iff.mp e;obtain ⟨as,ha⟩:=all hl ih ps hps;obtain ⟨o,ho,hc,n,hd⟩:=hp;exact ⟨_,.tuple ho hc hd ha⟩
 | range h=>intro p e;exact no1 e
 | alt s t l h=>intro p e;exact no1 e
 | inst h hs _ _=>intro p e;exact no1 e
 | addr a=>intro p e;exact no1 e
section
variable {M:List Addr}
theorem uA (s:Shared)(M:List Addr):∀b o,(hide s.heap M).get? b=some o->s.heap.get? b=some o:=fun _ _ e=>(aA.mp e).2
theorem aN0 {op:CmpOp}{a b:AV}{v:Bool}{C:CmpOp->AV->AV->Bool->Prop}(h:cmp op a b=some v)(q1:∀c,cR a b=some c->C .Eq a b c)(q2:∀c,cR a b=some c->C .NotEq a b (!c))(q3:∀a b,C .Lt (.int a) (.int b) (decide (a<b)))(q4:∀a b,C .LtE (.int a) (.int b) (decide (a<=b)))
  (q5:∀a b,C .Gt (.int a) (.int b) (decide (b<a))) (q6:∀a b,C .GtE (.int a) (.int b) (decide (b<=a))) (q7:∀a b,C .Is (.bool a) (.bool b) (a==b)) (q8:∀a b,C .IsNot (.bool a) (.bool b) (a !=b)) (q9:∀a l c,aJi a l=some c->C .NotIn a (.list l) (!c)):C op a b v:=by
 cases op <;> first | exact no1 h | exact q1 v h | exact gJ h fun c e k=>k▸q2 c e | (rcases b with _ | _ | _ | _ | b | _ | _ | _ | _ | _ <;> first | exact no1 h | exact bK h fun _ h=>gJ h fun c e k=>k▸q9 a b c e) | (rcases a with _ | a | a | _ | _ | _ | _ | _ | _ | _ <;> first | exact no1 h | (rcases b with _ | b | b | _ | _ | _ | _ | _ | _ | _ <;> first | exact no1 h | exact Option.some.inj h▸q3 a b | exact Option.some.inj h▸q4 a b | exact Option.some.inj h▸q5 a b | exact Option.some.inj h▸q6 a b | exact Option.some.inj h▸q7 a b | exact Option.some.inj h▸q8 a b))
theorem uB {a b:AV}{x:Value}{c:Bool}{P:Prop}(hx:Den (hide s.heap M) x a)(hy:Den (hide s.heap M) y b)(h:cR a b=some c)(k:∀p q as bs,Reads s.heap x p as->Reads s.heap y q bs->SeqAt.shaped p=true->SeqAt.shaped q=true->PyData.eqv p q=c->P):P:=by
 unfold cR at h
 rcases hp:a.toData with _ | p
 ·rw [hp] at h;exact no1 h
 rcases hq:b.toData with _ | q
 ·rw [hp,hq] at h;exact no1 h
 rw [hp,hq] at h;refine bK h fun hs e=> ?_
 obtain ⟨as,ra⟩:=jM hx p hp;obtain ⟨bs,rb⟩:=jM hy q hq;obtain ⟨h1,h2⟩:=Bool.and_eq_true_iff.mp hs;exact k p q as bs (Reads.keeps (uA s M) ra) (Reads.keeps (uA s M) rb) h1 h2 (Option.some.inj e)
noncomputable def eqw:Value->Value->Bool
 | .int i _,.int j _=>i==j
 | .bool i,.bool j=>i==j
 | _,_=>false
theorem kC {a:AV}{x:Value}:∀{l:List AV} {vs:List Value} {c:Bool},aJi a l=some c->Den (hide s.heap M) x a->aO (hide s.heap M) vs l->(∀ y∈vs,PySem.SeqAt.EqAt A s y x (eqw y x))/\vs.any (eqw · x)=c
 | [],vs,c,h,hx,hd=>by
  have e:some false=some c:=by rcases a with _ | _ | _ | _ | _ | _ | _ | _ | _ | _ <;> exact h
  rw [hd.nil_inv,<-Option.some.inj e]; exact ⟨(fun _ h=>nomatch h),rfl⟩
 | b::l,vs,c,h,hx,hd=>by
  obtain ⟨y,ys,rfl,hy,hys⟩:=hd.cons_inv
  rcases a with _ | i | i | _ | _ | _ | _ | _ | _ | _ <;> rcases b with _ | j | j | _ | _ | _ | _ | _ | _ | _ <;> first | exact no1 h | skip
  ·refine gJ h fun d hd' e=> ?_
   obtain ⟨h1,h2⟩:=kC hd' hx hys;obtain rfl:=hy.bool_inv;obtain rfl:=hx.bool_inv;exact ⟨List.forall_mem_cons.mpr ⟨PySem.SeqAt.EqAt.bool_bool _ _,h1⟩,by rw [List.any_cons,h2]; exact e⟩
  ·refine gJ h fun d hd' e=> ?_
   obtain ⟨h1,h2⟩:=kC hd' hx hys;obtain ⟨t,rfl⟩:=hy.int_inv;obtain ⟨u,rfl⟩:=hx.int_inv;exact ⟨List.forall_mem_cons.mpr ⟨PySem.SeqAt.EqAt.int_int _ _ _ _,h1⟩,by rw [List.any_cons,h2]; exact e⟩
theorem aJs (p q:Bool):((Value.bool p)==(Value.bool q))=(p==q):=by cases p <;> cases q <;> rfl
theorem pM (hR:A.units+300<9900){op:CmpOp}{a b:AV}{v:Bool}{x:Value}(e:cmp op a b=some v):Den (hide s.heap M) x a->Den (hide s.heap M) y b->wpAny (model prog w) A (compareOp op x y) (PE M s (.bool v)) E s:=
 have hu:A.units+64<cLine:=Nat.lt_of_le_of_lt (Nat.add_le_add_left (Nat.le_of_ble_eq_true rfl) _) (Nat.lt_of_lt_of_le hR (Nat.le_of_ble_eq_true rfl))
 aN0 (C:=fun op a b v=>Den (hide s.heap M) x a->Den (hide s.heap M) y b->wpAny (model prog w) A (compareOp op x y) (PE M s (.bool v)) E s) e
  (fun c h hx hy=>uB hx hy h fun p q as bs ra rb hp hq e=>e▸eq_dataH ra rb hp hq hu .bool) (fun c h hx hy=>uB hx hy h fun p q as bs ra rb hp hq e=>e▸ne_dataH ra rb hp hq hu .bool)
  (fun a b hx hy=>hx.i2 hy fun t u e e'=>by subst e e';exact lt_int .bool) (fun a b hx hy=>hx.i2 hy fun t u e e'=>by subst e e';exact le_int .bool)
  (fun a b hx hy=>hx.i2 hy fun t u e e'=>by subst e e';exact gt_int .bool) (fun a b hx hy=>hx.i2 hy fun t u e e'=>by subst e e';exact ge_int .bool)
  (fun p q hx hy=>hx.bool_inv.symm▸hy.bool_inv.symm▸wpAny_is_plain (by cases p <;> cases q <;> rfl) (aJs p q▸ .bool)) (fun p q hx hy=>hx.bool_inv.symm▸hy.bool_inv.symm▸wpAny_isNot_plain (by cases p <;> cases q <;> rfl) (show PE M s (.bool (!(p==q))) _ _ from aJs p q▸ .bool))
  (fun a l c h hx hy=>by
   obtain ⟨p,vs,e,hp,hd⟩:=hy.list_inv;obtain ⟨h1,h2⟩:=kC (A:=A.in1) h hx hd;subst e;exact PySem.SeqAt.notIn_listAt (eqw · x) (aJ hp).isList (fun y hy=>h1 y (Array.mem_toList_iff.mpr hy)) (by rw [<- Array.any_toList,h2]; exact .bool))
theorem pN {V:Heap}:∀{vs:List Value} {l:List AV} {ns:List Int},aO V vs l->rM l=some ns->IntsAre vs ns
 | vs,[],ns,h,e=>by
  have:=h.nil_inv;subst this
  (replace e:=Option.some.inj e;subst e); exact .nil
 | vs,v::l,ns,h,e=>by
  obtain ⟨y,ys,rfl,hy,hys⟩:=h.cons_inv
  cases v with
  | int i=>
   obtain ⟨r,hr,rfl⟩:=Option.map_eq_some_iff.mp e;obtain ⟨t,rfl⟩:=hy.int_inv;exact .cons i t (pN hys hr)
  | _=>exact no1 e
theorem aO.one {V:Heap}{a:AV}{P:Prop}(h:aO V ys [a])(q:∀y,ys=[y]->Den V y a->P):P:=by obtain ⟨y,_,e,hy,hys⟩:=h.cons_inv;exact q y (by rw [e,hys.nil_inv]) hy
theorem aO.two {V:Heap}{a b:Int}{P:Prop}(h:aO V ys [.int a,.int b])(q:∀t u,ys=[.int a t,.int b u]->P):P:=by obtain ⟨y,_,e,hy,hys⟩:=h.cons_inv;exact hys.one fun z e' hz=>hy.i2 hz fun t u h1 h2=>q t u (by rw [e,e',h1,h2])
theorem aDd (h:n<=2^20):(n:Int)<2^63:=Int.lt_of_le_of_lt (Int.ofNat_le.mpr h) (by decide)
theorem kD (a b:Int):Builtin.Range.rangeSize a b 1=((b- a).toNat:Int):=by rw [rangeSize_one]; split <;> lia
theorem nY (a b:Int):Builtin.Range.rangeSize a b (-1)=((a- b).toNat:Int):=by
 unfold Builtin.Range.rangeSize;simp;split <;> lia
theorem wA {a b c:Int}{l:List AV}(h:bD a b c=some l):Builtin.Range.rangeSize a b c=(l.length:Int):=
 bK h fun _ h=>iC h (fun e h=>by rw [<- Option.some.inj h,e,List.length_map,List.length_range]; exact kD a b) fun _ h=>bK h fun e h=>by rw [<- Option.some.inj h,e,List.length_map,List.length_range]; exact nY a b
theorem zE (e:aM7 vs=some v)(h:aO (hide s.heap M) ys vs):wpAny (model prog w) A (call (.builtin "ord") ys) (PE M s v) E s:=by
 rcases vs with _ | ⟨a,r⟩ <;> first | exact no1 e | skip
 rcases a with _ | _ | _ | ⟨⟨_ | ⟨c,_ | _⟩⟩⟩ | _ | _ | _ | _ | _ | _ <;> first | exact no1 e | (rcases r with _ | _ <;> first | exact no1 e | skip)
 exact h.one fun y e1 hy=>by obtain ⟨t,e2⟩:=hy.str_inv;exact by subst e1 e2;exact P.ord_of_char (Option.some.inj e▸ .int)
theorem aN1 {C:List AV->AV->Prop}(e:aLc vs=some v)(q1:∀l,l.length<=2^20->C [.list l] (.int l.length))(q2:∀l,l.length<=2^20->C [.tup l] (.int l.length))(q3:∀l:Str,l.length<=2^20->C [.str l] (.int l.length))(q4:∀a b c l,bD a b c=some l->l.length<=2^20->C [.range a b c] (.int l.length)):C vs v:=by
 rcases vs with _ | ⟨a,r⟩ <;> first | exact no1 e | (rcases a with _ | _ | _ | a | a | a | _ | _ | _ | _ <;> first | exact no1 e | (rcases r with _ | _ <;> first | exact no1 e | exact bK e fun h k=>Option.some.inj k▸q3 a h | exact bK e fun h k=>Option.some.inj k▸q1 a h | exact bK e fun h k=>Option.some.inj k▸q2 a h | exact aB e fun l hl k=>bK k fun h k=>Option.some.inj k▸q4 _ _ _ l hl h))
theorem pO (e:aLc vs=some v):aO (hide s.heap M) ys vs->wpAny (model prog w) A (call (.builtin "len") ys) (PE M s v) E s:=
 aN1 (C:=fun vs v=>aO (hide s.heap M) ys vs->wpAny (model prog w) A (call (.builtin "len") ys) (PE M s v) E s) e
  (fun l hn h=>h.one fun y e hy=>by obtain ⟨a,its,e',hp,hd⟩:=hy.list_inv;exact by subst e e';exact call_len_list (aJ hp).isList (eJ hd▸aDd hn) (eJ hd▸ .int))
  (fun l hn h=>h.one fun y e hy=>by obtain ⟨a,its,e',hp,hd⟩:=hy.tup_inv;exact by subst e e';exact PyProof.Rows.len_tuple (cU hp) (eJ hd▸aDd hn) (eJ hd▸ .int))
  (fun l hn h=>h.one fun y e hy=>by obtain ⟨t,e'⟩:=hy.str_inv;exact by subst e e';exact PyProof.Rows.len_str (Int.not_le_of_gt (aDd hn)) .int)
  (fun a b c l hl hn h=>h.one fun y e hy=>by
   subst e
   cases hy with
   | range hr=>exact call_len_range (aA.mp hr).2 (wA hl) (aDd hn) .int)
theorem zF (e:aM8 vs=some v)(h:aO (hide s.heap M) ys vs):wpAny (model prog w) A (call (.builtin "chr") ys) (PE M s v) E s:=by
 rcases vs with _ | ⟨a,r⟩ <;> first | exact no1 e | skip
 rcases a with _ | _ | a | _ | _ | _ | _ | _ | _ | _ <;> first | exact no1 e | skip
 rcases r with _ | _ <;> first | exact no1 e | skip
 exact bK e fun hn e=>h.one fun y e1 hy=>by obtain ⟨t,e2⟩:=hy.int_inv;exact by subst e1 e2;exact chr_of_range hn.1 (Int.le_trans (Int.le_of_lt hn.2) (by decide)) (Option.some.inj e▸ .str)
theorem zG (hh:A.handled=none)(e:aM9 vs=some v)(h:aO (hide s.heap M) ys vs):wpAny (model prog w) A (call (.builtin "min") ys) (PE M s v) E s:=by
 rcases vs with _ | ⟨a,r⟩ <;> first | exact no1 e | skip
 rcases a with _ | _ | a | _ | _ | _ | _ | _ | _ | _ <;> first | exact no1 e | skip
 rcases r with _ | ⟨b,r⟩ <;> first | exact no1 e | skip
 rcases b with _ | _ | b | _ | _ | _ | _ | _ | _ | _ <;> first | exact no1 e | skip
 rcases r with _ | _ <;> first | exact no1 e | skip
 refine h.two fun t u e1=> ?_
 subst e1;refine min_two_ints hh fun h' tk hk=> ?_
 rw [<- Option.some.inj e]
 by_cases q:b<a
 ·rw [if_pos q,if_pos q]; exact ⟨.int _ _,.of hk⟩
 ·rw [if_neg q,if_neg q]; exact ⟨.int _ _,.of hk⟩
theorem zH (hh:A.handled=none)(e:aNa vs=some v)(h:aO (hide s.heap M) ys vs):wpAny (model prog w) A (call (.builtin "max") ys) (PE M s v) E s:=by
 rcases vs with _ | ⟨a,r⟩ <;> first | exact no1 e | skip
 rcases a with _ | _ | a | _ | a | _ | _ | _ | _ | _ <;> first | exact no1 e | (rcases r with _ | ⟨b,r⟩ <;> first | exact no1 e | skip)
 rcases b with _ | _ | b | _ | _ | _ | _ | _ | _ | _ <;> first | exact no1 e | skip
 rcases r with _ | _ <;> first | exact no1 e | skip
 refine h.two fun t u e1=> ?_
 subst e1;refine max_two_ints hh fun h' tk hk=> ?_
 rw [<- Option.some.inj e]
 by_cases q:b>a
 ·rw [if_pos q,if_pos q]; exact ⟨.int _ _,.of hk⟩
 ·rw [if_neg q,if_neg q]; exact ⟨.int _ _,.of hk⟩
theorem uC (hh:A.handled=none){xs:Array (Int × Tok)}{ns:List Int}(hnum:ns=xs.toList.map (·.1))(hy:(∃ p,y= .ref p/\s.heap.IsList p (intItems xs))\/∃p,y= .ref p/\s.heap.IsTuple p (intItems xs)):wpAny (model prog w) A (call (.builtin "sum") [y]) (PE M s (.int ns.sum)) E s:=by
 have fin:∀(h':Heap) (tk t':Nat),(∀ b o,s.heap.get? b=some o->h'.get? b=some o)->PE M s (.int ns.sum) (.int (preSum (numAt xs) xs.size) t') {s with heap:=h',toks:=tk}:=fun h' tk t' hk=>by
  rw [preSum_eq,List.take_of_length_le (by simp), <-hnum];exact ⟨.int _ _,.of hk⟩
 rcases hy with ⟨p,rfl,hl⟩ | ⟨p,rfl,hl⟩
 ·exact sum_intListG hh hl fun h' tk t' hk=>fin h' tk t' hk
 ·have hlt:p<s.heap.objs.size:=hl.elim fun _ h=>Heap.lt_size h.1
  refine call_sum_walkG (wpAny_pyIter_tuple hl ⟨_,_,_,_,_,_,numAt xs,rfl,Walks.tuple (A:=A.in1) hh _ p (Nat.ne_of_lt hlt) (intItems xs),⟨⟨_,Heap.get?_push_size _ rfl,rfl,rfl⟩,hl.at fun o e=>Heap.get?_push_of_some _ e⟩,fun b hb=> ?_,fun _ _=>intItems_at,fun h' tk t' hk=> ?_⟩)
  ·show b<(s.heap.push _).objs.size;rw [Heap.size_push]
   rcases List.mem_cons.mp hb with rfl | hb
   ·exact Nat.lt_succ_self _
   ·exact List.mem_singleton.mp hb▸Nat.lt_succ_of_lt hlt
  ·have:=fin h' tk t' fun b o e=>hk b o (fun q=>absurd (Heap.lt_size e) (List.mem_singleton.mp q▸Nat.lt_irrefl _)) (Heap.get?_push_of_some _ e)
   simpa [intItems] using this
theorem aN2 {C:List AV->AV->Prop}(e:aLx vs=some v)(q1:∀l ns,rM l=some ns->C [.list l] (.int ns.sum))(q2:∀l ns,rM l=some ns->C [.tup l] (.int ns.sum)):C vs v:=by
 rcases vs with _ | ⟨a,r⟩ <;> first | exact no1 e | (rcases a with _ | _ | _ | a | a | a | _ | _ | _ | _ <;> first | exact no1 e | (rcases r with _ | _ <;> first | exact no1 e | exact gJ e fun ns hns k=>k▸q1 a ns hns | exact gJ e fun ns hns k=>k▸q2 a ns hns))
theorem mK {vs:Array Value}{l:List AV}{ns:List Int}{V:Heap}(hd:aO V vs.toList l)(hns:rM l=some ns):∃xs,vs=intItems xs/\ns=xs.toList.map (·.1):=by
 have hi:=pN hd hns;obtain ⟨xs,hx⟩:=hi.allInts.items;have hx':vs=intItems xs:=by simpa using hx
 subst hx';exact ⟨xs,rfl,by rw [<- hi.numsOf,nums_intItems]⟩
theorem zI (hh:A.handled=none)(e:aLx vs=some v):aO (hide s.heap M) ys vs->wpAny (model prog w) A (call (.builtin "sum") ys) (PE M s v) E s:=
 aN2 (C:=fun vs v=>aO (hide s.heap M) ys vs->wpAny (model prog w) A (call (.builtin "sum") ys) (PE M s v) E s) e
  (fun l ns hns h=>h.one fun y e1 hy=>by
   obtain ⟨a,its,e2,hp,hd⟩:=hy.list_inv;obtain ⟨xs,e3,hn⟩:=mK hd hns;subst e1 e2 e3;exact uC hh hn (.inl ⟨a,rfl,(aJ hp).isList⟩))
  fun l ns hns h=>h.one fun y e1 hy=>by
   obtain ⟨a,its,e2,hp,hd⟩:=hy.tup_inv;obtain ⟨xs,e3,hn⟩:=mK hd hns;subst e1 e2 e3;exact uC hh hn (.inr ⟨a,rfl,cU hp⟩)
theorem aDe {u:Tok}{k:Int}(e:yE (.str x) (.int k)=some v):wpAny (model prog w) A (getItem (.str x t) (.int k u)) (PE M s v) E s:=by
 refine bK e fun h0 e=>gJ e fun c hc e=> ?_
 have hc':x.cps[k.toNat]? =some c:=Array.getElem?_toList▸hc;have hlt:k.toNat<x.length:=(Array.getElem?_eq_some_iff.mp hc').1;have h2:k<2^63:=Int.lt_of_le_of_lt h0.2 (by decide);refine P.getItem_str (c:=c) (by simp;omega) ?_ (e▸ .str);rw [seqIndex_of h0.1 (by omega)];exact hc'
theorem wB {l:List AV}{k:Int}{vs:Array Value}(e:fT l k=some v)(hp:(hide s.heap M).PlainList a vs)(hd:aO (hide s.heap M) vs.toList l):
  wpAny (model prog w) A (getItem (.ref a) (.int k t)) (PE M s v) E s:=by
 unfold fT at e;have hl:=hd.1;rw [Array.length_toList] at hl
 split at e
 ·rename_i hn
  split at e
  ·rename_i h0
   split at e
   ·rename_i h1;obtain ⟨y,hy,hv⟩:=hd.get e;rw [Array.getElem?_toList] at hy;exact wpAny_getItem_list (aJ hp).isList h0 (by lia) hy ⟨hv,dB.refl s⟩
   ·exact no1 e
  ·rename_i h0
   split at e
   ·rename_i h1;obtain ⟨y,hy,hv⟩:=hd.get e;rw [Array.getElem?_toList] at hy;exact wpAny_getItem_list_neg (aJ hp).isList (by exact Int.not_le.mp h0) (by exact hl▸h1) (by lia) (by rw [hl]; exact hy) ⟨hv,dB.refl s⟩
   ·exact no1 e
 ·exact no1 e
end
section
variable {M:List Addr}
theorem PE.mono' (k:dB s'0 s'1)(p:PE M s'1 v y s'):PE M s'0 v y s':=⟨p.1,k.trans p.2⟩
theorem iX {V:Heap}:∀{vs:List Value} {ns:List Int},IntsAre vs ns->aO V vs (ns.map .int)
 | _,_,.nil=> .nil
 | _,_,.cons i t r=> .cons (.int i t) (iX r)
theorem rP (hlt:∀a∈M,∃o,s.heap.get? a=some o)(e:aFh vs=some v)(h:aO (hide s.heap M) ys vs):wpAny (model prog w) A (call (.type "tuple") ys) (PE M s v) E s:=by
 refine aJj e fun l e1 e=>bK e fun hn e=> ?_
 (replace e:=Option.some.inj e;subst e;subst e1)
 obtain ⟨y,ys',rfl,hy,hys⟩:=h.cons_inv;have:=hys.nil_inv;subst this;obtain ⟨p,its,rfl,hp,hd⟩:=hy.list_inv;have hl:=hd.1;rw [Array.length_toList] at hl;refine call_tuple_list (aJ hp).isList (fun h' hk=> ?_) (by rw [sizeLine_eq]; lia);have k1:dB s {s with heap:=h'}:=⟨_,s.toks,rfl,hk⟩;exact PE.mono' k1 (kB (s:={s with heap:=h'}) (fun a ha=>by obtain ⟨o,e⟩:=hlt a ha;exact ⟨o,hk a o e⟩) (hd.keeps (k1.hide M)) 0)
theorem wC (hh:A.handled=none)(hlt:∀a∈M,∃o,s.heap.get? a=some o)(e:aJk vs=some v)(h:aO (hide s.heap M) ys vs):wpAny (model prog w) A (call (.type "list") ys) (PE M s v) E s:=by
 rcases vs with _ | ⟨a,r⟩ <;> first | exact no1 e | skip
 rcases a with _ | _ | _ | _ | _ | _ | _ | _ | _ | ⟨a,b,c⟩ <;> first | exact no1 e | (rcases r with _ | _ <;> first | exact no1 e | skip)
 refine aB e fun l hl e0=>bK e0 fun hc e'=>h.one fun y e1 hy=> ?_
 clear e0 e
 obtain ⟨rfl,hn⟩:=hc;have hsm:bP a=true/\bP b=true:=bK hl fun h _=>h
 have hl':((List.range (b- a).toNat).map fun (i:Nat)=>AV.int (a+(i:Int)*1))=l:=bK hl fun _ h=>iC h (fun _ h=>Option.some.inj h) fun q _=>absurd rfl q
 have hlen:(b- a).toNat=l.length:=by rw [<- hl',List.length_map,List.length_range]
 subst e1
 cases hy with
 | range hr=>
  have h1:=of_decide_eq_true hsm.1;have h2:=of_decide_eq_true hsm.2;refine call_list_range hh (aA.mp hr).2 (small_one (by lia) (by lia) (by lia) (by lia)) (kD a b) (by rw [hlen]; exact Nat.le_trans hn (by decide)) fun h' tk acc c' hk hS ha=> ?_
  rw [<- Option.some.inj e'];refine ⟨.mkList ⟨c',aA.mpr ⟨fun q=>by obtain ⟨_,e⟩:=hlt _ q;exact Nat.lt_irrefl _ (Heap.lt_size e),hS⟩⟩ ⟨by rw [Array.length_toList,ha.1,hlen],fun i y v h1 h2=> ?_⟩,.of hk⟩;rw [Array.getElem?_toList] at h1;obtain ⟨t,rfl⟩:=ha.2 i y h1;rw [<- hl',List.getElem?_map] at h2;refine gJ h2 fun j hj e2=> ?_
  obtain ⟨_,e3⟩:=List.getElem?_eq_some_iff.mp hj;rw [List.getElem_range] at e3;subst e3 e2;exact .int _ _
theorem zJ {l:List AV}{p sl:Addr}{vk:Value}{vs:Array Value}(hlt:∀a∈M,∃o,s.heap.get? a=some o)(hp:(hide s.heap M).PlainList p vs)(hd:aO (hide s.heap M) vs.toList l)(hn:l.length<=2^20)(hs:s.heap.IsSliceOf sl .none .none vk)(pk:IsPart vk (some (-1))):
  wpAny (model prog w) A (getItem (.ref p) (.ref sl)) (PE M s (.list l.reverse)) E s:=by
 refine wpAny_getItem_list_slice (aJ hp).isList hs .none .none pk (by decide) ?_ (by rw [eJ hd,sizeLine_eq]; exact lit hn rfl);rw [krv_pick];refine dN hlt ⟨by rw [List.toList_toArray,List.length_reverse,hd.1,List.length_reverse],fun i y v h1 h2=> ?_⟩ 0;have hi:i<l.length:=by
  obtain ⟨q,_⟩:=List.getElem?_eq_some_iff.mp h2
  rwa [List.length_reverse] at q
 rw [List.getElem?_reverse (by rw [hd.1]; exact hi)] at h1;rw [List.getElem?_reverse hi] at h2;exact hd.2 _ y v (hd.1▸h1) h2
theorem zK {V:Heap}:∀{vs:List Value} {l:List AV} {ns:List Str},aO V vs l->aJh l=some ns->StrsAre vs ns
 | vs,[],ns,h,e=>by
  have:=h.nil_inv;subst this
  (replace e:=Option.some.inj e;subst e); exact .nil
 | vs,v::l,ns,h,e=>by
  obtain ⟨y,ys,rfl,hy,hys⟩:=h.cons_inv
  cases v with
  | str i=>
   obtain ⟨r,hr,rfl⟩:=Option.map_eq_some_iff.mp e;obtain ⟨t,rfl⟩:=hy.str_inv;exact .cons i t (zK hys hr)
  | _=>exact no1 e
theorem kE (X:ClsAt h C N mN):∃r,h.get? C=some (aCt r C N [.type "object"] false "object.__new__"):=by obtain ⟨nm,q,bs,sn,sub,col,dd,k0,k1,k2,k3,k5,e⟩:=X.obj;exact ⟨⟨nm,q,bs,sn,sub,col,dd,k0,k1,k2,k3,k5⟩,e⟩
theorem iG {x:Addr}{n:Str}{v:Value}{b:Bool}(X:ClsAt s.heap c N mN)(hga:mN "__getattribute__"=none)(hna:mN n=none)(hB:typeLookup (.type "object") n=pure none)
  (I:s.heap.Inst x c mA) (hv:mA n=some v) (hh:handedOut v=pure v) (hq:Q v {s with toks:=s.toks+1}):wpAny (model prog w) A (getAttr (.ref x) n b) Q E s:=by
 obtain ⟨cr,hC⟩:=kE X;exact load_attr hC X.ns hga hna hB I hv hh hq
theorem mL {x f:Addr}{of:Obj}{n:Str}{y:Option Value}{pl:Sem Bool}{Q:Value × List Value->Shared->Prop}(X:ClsAt s.heap c N mN)(hga:mN "__getattribute__"=none)(hgt:mN "__getattr__"=none)
  (hf:mN n=some (.ref f)) (hfo:s.heap.get? f=some of) (hfc:of.cls= .type "function") (hB:typeLookup (.type "object") n=pure y)
  (I:s.heap.Inst x c mA) (hv:mA n=none) (hq:Q (.ref f,[.ref x]) s):wpAny (model prog w) A (getMethod (.ref x) n pl) Q E s:=by
 obtain ⟨cr,hC⟩:=kE X;exact method_of hC X.ns hga hgt hf hfo hfc hB I hv hq
theorem Den.inst_inv {V:Heap}{c:Nat}(h:Den V y (.inst c fs)):∃x mA,y= .ref x/\V.Inst x c mA/\(∀ n,(mA n).isSome=(fs.lookup n).isSome)/\∀n u v,mA n=some u->fs.lookup n=some v->Den V u v:=by
 cases h with
 | inst h1 h2 h3=>exact ⟨_,_,rfl,h1,h2,h3⟩
theorem Den.handed {V:Heap}(h:Den V y v):handedOut y=pure y:=by cases h <;> rfl
end
structure pP (sc:Scope)(env:Env):Prop where
 loc:∀x,sc.names.lookup x=some .local->env.kindOf x=some .local
 glob:∀x,sc.names.lookup x=some .globalImplicit->env.kindOf x=some .globalImplicit
 cell:∀x,sc.names.lookup x=some .cell->env.kindOf x=some .cell
 free:∀x,sc.names.lookup x=some .free->env.kindOf x=some .cell\/env.kindOf x=some .free
theorem dS:∀(names:List (Str × NameKind)) (n:Nat) (acc:List (Str × Addr)),(∀ p∈names,p.2= .cell->p.1≠x)->(cellsFrom n names acc).lookup x=acc.lookup x
 | [],_,_,_=>rfl
 | (y,k)::r,n,acc,h=>by
  unfold cellsFrom;have hr:=fun p hp=>h p (List.mem_cons_of_mem _ hp)
  split
  ·rename_i hk;rw [dS r _ _ hr,List.lookup_cons];have:(x==y)=false:=beq_eq_false_iff_ne.mpr fun e=>h (y,k) List.mem_cons_self (by simpa using hk) e.symm
   rw [this]
  ·exact dS r _ _ hr
theorem fH:∀(names:List (Str × NameKind)) (h:Heap) (acc:List (Str × Addr)),(∃ p∈names,p.2= .cell/\p.1=x)->
  ∃c,(cellsFrom h.objs.size names acc).lookup x=some c/\h.objs.size<=c/\(pushCells h names).IsCell c none
 | [],_,_,h=>by obtain ⟨p,hp,_⟩:=h;cases hp
 | (y,k)::r,h,acc,hx=>by
  unfold cellsFrom pushCells
  by_cases hr:∃p∈r,p.2= .cell/\p.1=x
  ·split
   ·obtain ⟨c,h1,h2,h3⟩:=fH r (h.push {cls:= .type "cell",data:= .cell none}) ((y,h.objs.size)::acc) hr;rw [Heap.size_push] at h1 h2;exact ⟨c,h1,by exact Nat.le_of_lt h2,h3⟩
   ·exact fH r h acc hr
  ·obtain ⟨p,hp,hk,rfl⟩:=hx
   rcases List.mem_cons.mp hp with rfl | hp
   ·have hk':(k==NameKind.cell)=true:=by simpa using hk
    rw [if_pos hk',if_pos hk'];refine ⟨h.objs.size,?_,Nat.le_refl _,⟨_,pushCells_keeps _ _ _ _ (Heap.get?_push_size _ rfl),rfl⟩⟩;rw [dS r _ _ fun q hq hqk e=>hr ⟨q,hq,hqk,e⟩,List.lookup_cons,beq_self_eq_true]
   ·exact absurd ⟨p,hp,hk,rfl⟩ hr
theorem iH (h:∀y∈csc.names,y.2= .free->(env.cells.lookup y.1).isSome=true):
  ∃cl,closureFor csc env=pure cl/\∀y,csc.names.lookup y=some .free->cl.lookup y=env.cells.lookup y:=by
 have key:∀(names:List (Str × NameKind)) (acc:List (Str × Addr)),(∀ y∈names,y.2= .free->(env.cells.lookup y.1).isSome=true)->(∀ p∈acc,env.cells.lookup p.1=some p.2)->
   ∃cl,(forIn (m:=Sem) names acc fun (x:Str × NameKind) (r:List (Str × Addr))=>
    if x.2==NameKind.free then (do let a <-cellOf env x.1;pure (ForInStep.yield ((x.1,a)::r))) else pure (ForInStep.yield r))=pure cl/\
    (∀ p∈cl,env.cells.lookup p.1=some p.2)/\(∀ y,((acc.lookup y).isSome=true\/∃p∈names,p.2= .free/\p.1=y)->(cl.lookup y).isSome=true):=by
  intro names
  induction names with
  | nil=>intro acc _ ha;exact ⟨acc,rfl,ha,fun y h=>h.elim id fun zz=>by obtain ⟨p,hp,_⟩:=zz;exact nomatch hp⟩
  | cons p r ih=>
   intro acc hn ha;obtain ⟨y,k⟩:=p;rw [List.forIn_cons]
   by_cases hk:k= .free
   ·subst hk;obtain ⟨a,hy⟩:=Option.isSome_iff_exists.mp (hn (y,.free) List.mem_cons_self rfl);dsimp only at hy;obtain ⟨cl,h1,h2,h3⟩:=ih ((y,a)::acc) (fun z hz=>hn z (List.mem_cons_of_mem _ hz)) (fun p hp=>by
     rcases List.mem_cons.mp hp with rfl | hp
     ·exact hy
     ·exact ha p hp)
    refine ⟨cl,?_,h2,fun z hz=>h3 z ?_⟩
    ·have hc:cellOf env y=pure a:=by unfold cellOf;rw [hy]
     simp only [beq_self_eq_true,if_true,hc];exact h1
    ·rcases hz with hz | ⟨q,hq,hqk,rfl⟩
     ·left
      rw [List.lookup_cons]
      split
      ·rfl
      ·exact hz
     ·rcases List.mem_cons.mp hq with rfl | hq
      ·left;rw [List.lookup_cons,beq_self_eq_true]; rfl
      ·exact .inr ⟨q,hq,hqk,rfl⟩
   ·have hkf:(k==NameKind.free)=false:=beq_eq_false_iff_ne.mpr hk;obtain ⟨cl,h1,h2,h3⟩:=ih acc (fun z hz=>hn z (List.mem_cons_of_mem _ hz)) ha;refine ⟨cl,?_,h2,fun z hz=>h3 z ?_⟩
    ·simp only [hkf,Bool.false_eq_true,if_false];exact h1
    ·rcases hz with hz | ⟨q,hq,hqk,rfl⟩
     ·exact .inl hz
     ·rcases List.mem_cons.mp hq with rfl | hq
      ·exact absurd hqk hk
      ·exact .inr ⟨q,hq,hqk,rfl⟩
 obtain ⟨cl,h1,h2,h3⟩:=key csc.names [] h (fun _ hp=>nomatch hp);refine ⟨cl,?_,fun y hy=> ?_⟩
 ·unfold closureFor;show (forIn csc.names ([]:List (Str × Addr)) _ >>= fun r=>pure r)=_;refine Eq.trans (congrArg (· >>= fun r=>pure r) (Eq.trans ?_ h1)) rfl;rfl
 ·obtain ⟨c,hc⟩:=Option.isSome_iff_exists.mp (h3 y (.inr ⟨(y,.free),mem_of_lookup hy,rfl,rfl⟩));rw [hc,h2 _ (mem_of_lookup hc)]
noncomputable abbrev Zs:List (Addr × Addr):=[(178,174),(185,181)]
set_option genInjectivity false
set_option genSizeOfSpec false
theorem Den.listE {V:Heap}{l:List AV}{P:Prop}(h:Den V y (.list l))(q:∀a vs,y= .ref a->V.PlainList a vs->aO V vs.toList l->P):P:=
 by obtain ⟨a,vs,e,h1,h2⟩:=h.list_inv;exact q a vs e h1 h2
theorem Den.tupE {V:Heap}{l:List AV}{P:Prop}(h:Den V y (.tup l))(q:∀a vs,y= .ref a->V.IsTuple a vs->aO V vs.toList l->P):P:=
 by obtain ⟨a,vs,e,h1,h2⟩:=h.tup_inv;exact q a vs e h1 h2
theorem Den.intE {V:Heap}{i:Int}{P:Prop}(h:Den V y (.int i))(q:∀t,y= .int i t->P):P:=by obtain ⟨t,e⟩:=h.int_inv;exact q t e
theorem Den.strE {V:Heap}{i:Str}{P:Prop}(h:Den V y (.str i))(q:∀t,y= .str i t->P):P:=by obtain ⟨t,e⟩:=h.str_inv;exact q t e
theorem aO.consE {V:Heap}{vs:List Value}{l:List AV}{P:Prop}(h:aO V vs (v::l))(q:∀y ys,vs=y::ys->Den V y v->aO V ys l->P):P:=by obtain ⟨y,ys,e,h1,h2⟩:=h.cons_inv;exact q y ys e h1 h2
theorem aO.int1 {V:Heap}{vs:List Value}{a:Int}{P:Prop}(h:aO V vs [.int a])(q:∀t,vs=[.int a t]->P):P:=
 h.consE fun y ys e h1 h2=>h1.intE fun t e1=>q t (by rw [e,e1,h2.nil_inv])
theorem aO.int2 {V:Heap}{vs:List Value}{a b:Int}{P:Prop}(h:aO V vs [.int a,.int b])(q:∀t u,vs=[.int a t,.int b u]->P):P:=
 h.consE fun y ys e h1 h2=>h1.intE fun t e1=>h2.int1 fun u e2=>q t u (by rw [e,e1,e2])
theorem aO.int3 {V:Heap}{vs:List Value}{a b c:Int}{P:Prop}(h:aO V vs [.int a,.int b,.int c])(q:∀t u v,vs=[.int a t,.int b u,.int c v]->P):P:=
 h.consE fun y ys e h1 h2=>h1.intE fun t e1=>h2.int2 fun u v e2=>q t u v (by rw [e,e1,e2])
theorem Den.instE {V:Heap}{c:Nat}{P:Prop}(h:Den V y (.inst c fs))(q:∀x mA,y= .ref x->V.Inst x c mA->(∀ n,(mA n).isSome=(fs.lookup n).isSome)->(∀ n u v,mA n=some u->fs.lookup n=some v->Den V u v)->P):P:=
 by obtain ⟨x,mA,e,h1,h2,h3⟩:=h.inst_inv;exact q x mA e h1 h2 h3
theorem aG2 {c:Addr}{ps:Array Value}(x:h.IsCode c P ps)(k:∀b o,b=c\/b=P->h.get? b=some o->h'.get? b=some o):h'.IsCode c P ps:=by
 revert x
 refine Exists.imp fun o=>Exists.imp fun vs=>Exists.imp fun file=>Exists.imp fun tf=>Exists.imp fun flags=>Exists.imp fun tg=>Exists.imp fun inF=>Exists.imp fun text=>Exists.imp fun tt=>Exists.imp fun op=>And.imp (k c o (.inl rfl)) (And.imp id (And.imp id (And.imp id (And.imp id (And.imp id (And.imp id (And.imp (k P op (.inr rfl)) id)))))))
theorem aDf {c:Addr}{ps:Array Value}(x:h.TableAt c P ps)(k:∀b o,b=c\/b=P->h.get? b=some o->h'.get? b=some o):h'.TableAt c P ps:=
 And.imp (Exists.imp fun o=>Exists.imp fun vs=>And.imp (k c o (.inl rfl)) id) (k P _ (.inr rfl)) x
def Tab (h:Heap)(z:Addr × Addr)(ps:Array Value):Prop:=h.IsCode z.1 z.2 ps/\h.TableAt z.1 z.2 ps
theorem Tab.at {z:Addr × Addr}{ps:Array Value}(x:Tab h z ps)(k:∀b o,b=z.1\/b=z.2->h.get? b=some o->h'.get? b=some o):Tab h' z ps:=⟨aG2 x.1 k,aDf x.2 k⟩
structure KW (W:List Addr)(Z:List (Addr × Addr))(s s':Shared):Prop where
 keep:∀b o,b∉W->b∉Z.map (·.2)->s.heap.get? b=some o->s'.heap.get? b=some o
 tab:∀z∈Z,∀ps,Tab s.heap z ps->∃more,Tab s'.heap z (ps++more)
 bare:AllBare s.gens->AllBare s'.gens
 drawn:s'.drawn=s.drawn
 os:s'.os=s.os
structure Zok (Z:List (Addr × Addr))(W:List Addr)(h:Heap):Prop where
 at':∀z∈Z,∃ps,Tab h z ps
 apart:∀z∈Z,∀y∈W,y≠z.1/\y≠z.2
section
variable {W':List Addr}{a b c:Shared}{tk:Nat}
theorem KW.trans (x:KW W Z a b)(y:KW W Z b c):KW W Z a c where
 keep:=fun d o h1 h2 e=>y.keep d o h1 h2 (x.keep d o h1 h2 e)
 tab:=fun z hz ps h=>by obtain ⟨m,h1⟩:=x.tab z hz ps h;exact by obtain ⟨m',h2⟩:=y.tab z hz _ h1;exact ⟨m++m',Array.append_assoc▸h2⟩
 bare:=fun h=>y.bare (x.bare h)
 drawn:=y.drawn.trans x.drawn
 os:=y.os.trans x.os
theorem KW.out (hz:∀z∈Z,z.1∉W/\z.2∉W)(k:∀b o,b∉W->s.heap.get? b=some o->h'.get? b=some o):KW W Z s {s with heap:=h',toks:=tk} where
 keep:=fun b o hb _ e=>k b o hb e
 tab:=fun z hzz ps h=>⟨#[],Array.append_empty.symm▸h.at fun b o q e=>k b o (q.elim (fun q=>q▸(hz z hzz).1) fun q=>q▸(hz z hzz).2) e⟩
 bare:=id
 drawn:=rfl
 os:=rfl
theorem KW.weaken (x:KW W Z a b)(h:∀y∈W,y∈W'):KW W' Z a b:={x with keep:=fun d o h1 h2 e=>x.keep d o (fun q=>h1 (h d q)) h2 e}
theorem KW.wk (k:KW [] Z s s'):KW W Z s s':=k.weaken fun _ h=>nomatch h
theorem KW.of_keep (k:∀b o,s.heap.get? b=some o->h'.get? b=some o):KW W Z s {s with heap:=h',toks:=tk}:=(KW.out (W:=[]) (fun _ _=>⟨(nomatch ·),(nomatch ·)⟩) fun b o _ e=>k b o e).wk
theorem KW.refl (s:Shared):KW W Z s s:=KW.of_keep (s:=s) (h':=s.heap) (tk:=s.toks) fun _ _ e=>e
theorem KW.toks:KW W Z s {s with toks:=n}:=KW.of_keep (s:=s) (h':=s.heap) fun _ _ e=>e
theorem KW.push {o:Obj}:KW W Z s {s with heap:=s.heap.push o}:=KW.of_keep (s:=s) (tk:=s.toks) fun _ _ e=>Heap.get?_push_of_some _ e
theorem Zok.out (z:Zok Z W h):∀y∈Z,y.1∉W/\y.2∉W:=fun y hy=>⟨fun q=>(z.apart y hy _ q).1 rfl,fun q=>(z.apart y hy _ q).2 rfl⟩
theorem KW.change {c:Addr}(hc:c∈W)(hz:Zok Z W s.heap)(hs:Heap.SameBut c s.heap h'):KW W Z s {s with heap:=h',toks:=tk}:=KW.out hz.out fun b o hb e=>hs.extBut b o (fun q=>hb (q▸hc)) e
theorem Zok.of (x:Zok Z W a.heap)(k:KW W Z a b):Zok Z W b.heap:=⟨fun z hz=>by obtain ⟨ps,h⟩:=x.at' z hz;exact by obtain ⟨m,h'⟩:=k.tab z hz ps h;exact ⟨_,h'⟩,x.apart⟩
theorem KW.into (k:KW [] Z s a)(k':KW W Z a b)(hW:∀y∈W,s.heap.get? y=none):KW [] Z s b where
 keep:=fun d o _ h2 e=>k'.keep d o (fun q=>no1 ((hW d q).symm.trans e)) h2 (k.keep d o (nomatch ·) h2 e)
 tab:=(KW.trans (W:=W) k.wk k').tab
 bare:=fun h=>k'.bare (k.bare h)
 drawn:=k'.drawn.trans k.drawn
 os:=k'.os.trans k.os
theorem Tab.ex {z:Addr × Addr}{ps:Array Value}(x:Tab h z ps):∀b,b=z.1\/b=z.2->∃o,h.get? b=some o:=fun b q=>q.elim (fun q=>q▸x.2.1.imp fun _ h=>h.elim fun _ h=>h.1) fun q=>q▸⟨_,x.2.2⟩
theorem KW.skip {P:Addr->Prop}(k:KW W Z s s')(k4:∀b o,P b->s'.heap.get? b=some o->h'.get? b=some o)(hex:∀b o,s.heap.get? b=some o->P b):KW W Z s {s' with heap:=h',toks:=tk} where
 keep:=fun b o h1 h2 e=>k4 b o (hex b o e) (k.keep b o h1 h2 e)
 tab:=fun z hz ps h=>(k.tab z hz ps h).imp fun _ h1=>h1.at fun b o q e=>k4 b o ((h.ex b q).elim (hex b)) e
 bare:=k.bare
 drawn:=k.drawn
 os:=k.os
theorem KW.fresh (k:KW W Z s s')(hL:s.heap.get? L=none)(hs:Heap.SameBut L s'.heap h'):KW W Z s {s' with heap:=h',toks:=tk}:=k.skip (P:=(· ≠L)) (fun b o h e=>hs.extBut b o h e) fun b o e q=>no1 (hL.symm.trans (q▸e))
theorem KW.after (hk:∀b o,a.heap.get? b=some o->b∉W/\c.heap.get? b=some o)(bg:c.gens=a.gens)(bd:c.drawn=a.drawn)(bo:c.os=a.os)(k:KW W Z c s'):KW [] Z a s' where
 keep:=fun b o _ h2 e=>k.keep b o (hk b o e).1 h2 (hk b o e).2
 tab:=fun z hz ps h=>k.tab z hz ps (h.at fun b o _ e=>(hk b o e).2)
 bare:=fun h=>k.bare (bg▸h)
 drawn:=k.drawn.trans bd
 os:=k.os.trans bo
theorem Zok.not {o:Obj}{y:Addr}(z:Zok Z W h)(e:h.get? y=some o)(hd:∀vs,o.data≠ .fields vs):y∉Z.map (·.2):=fun q=>by
 obtain ⟨z',hz,rfl⟩:=List.mem_map.mp q;obtain ⟨ps,_,_,ht⟩:=z.at' z' hz;exact hd ps (Option.some.inj (ht.symm.trans e)▸rfl)
end
theorem aR (h:Heap):h.get? h.objs.size=none:=by
 rcases e:h.get? h.objs.size with _ | o
 ·rfl
 ·exact absurd (Heap.lt_size e) (Nat.lt_irrefl _)
def Kp:Shared->Shared->Prop:=KW [] Zs
noncomputable abbrev Zt:List Addr:=[174,181]
theorem dB.kp {a b:Shared}(k:dB a b):Kp a b:=by
 obtain ⟨h,t,rfl,k⟩:=k;exact KW.of_keep k
theorem Kp.get {a b:Shared}(k:Kp a b):∀c o,c∉Zt->a.heap.get? c=some o->b.heap.get? c=some o:=fun c o h e=>k.keep c o (nomatch ·) h e
theorem Kp.hide {a b:Shared}{M:List Addr}(k:Kp a b)(hM:∀y∈Zt,y∈M):∀c o,(Mine.hide a.heap M).get? c=some o->(Mine.hide b.heap M).get? c=some o:=
 aH (fun _ h1 h2=>absurd h1 h2) fun c o h e=>k.get c o (fun q=>h (hM c q)) e
theorem Kp.den {a b:Shared}{M:List Addr}(k:Kp a b)(hM:∀y∈Zt,y∈M)(d:Den (Mine.hide a.heap M) y v):Den (Mine.hide b.heap M) y v:=d.keeps (k.hide hM)
noncomputable def nZ:List (Str × String):=[("len","len"),("chr","chr"),("min","min"),("max","max"),("sum","sum"),("ord","ord")]
noncomputable def rQ:List (Str × String):=[("range","range"),("tuple","tuple"),("list","list")]
structure aJt (Sta:Heap->Prop)(mg mb:Str->Option Value):Prop where
 keeps:∀a b,Kp a b->Sta a.heap->Sta b.heap
 zok:∀h,Sta h->Zok Zs [] h
 g:∀h,Sta h->h.Ns mainGlobals mg
 b:∀h,Sta h->h.Ns builtinsNs mb
 bi:∀f id,(f,id)∈nZ->mg f=none/\mb f=some (.builtin id)
 ty:∀f id,(f,id)∈rQ->mg f=none/\mb f=some (.type id)
 sm:∀h,Sta h->sysModules<h.objs.size
def PW (M:List Addr)(s:Shared)(v:AV)(y:Value)(s':Shared):Prop:=Den (hide s'.heap M) y v/\Kp s s'
def aL (prog:Program)(w:World)(Sta:Heap->Prop)(d:Nat)(a:Addr)(vs:List AV)(v:AV):Prop:=
 ∀(A:Around) (E:Value->Shared->Prop) (s:Shared) (M:List Addr) (ys:List Value),bT A d->Sta s.heap->(∀ y∈Zt,y∈M)->(∀ a∈M,∃o,s.heap.get? a=some o)->0<s.toks->aO (hide s.heap M) ys vs->
  wpAny (model prog w) A (call (.ref a) ys) (PW M s v) E s
structure aFm (prog:Program)(w:World)(Sta:Heap->Prop)(mg:Str->Option Value)(cf:CallF)(d:Nat):Prop where
 fn:∀f vs v,cf.fn f vs=some v->∃a o fd,mg f=some (.ref a)/\o.data= .func fd/\(∀ h,Sta h->h.get? a=some o)/\aL prog w Sta d a vs v
 cls:∃N mN,(∀ h,Sta h->ClsAt (hide h Zt) cf.c N mN)/\mN "__getattribute__"=none/\mN "__getattr__"=none/\(∀ n∈cf.ats,mN n=none/\typeLookup (.type "object") n=pure none)/\
  ∀m vs v,cf.me m vs=some v->∃f y o fd,mN m=some (.ref f)/\typeLookup (.type "object") m=pure y/\o.cls= .type "function"/\o.data= .func fd/\(∀ h,Sta h->h.get? f=some o)/\aL prog w Sta d f vs v
 cl:∀f vs v,cf.cl f vs=some v->mg f=some (.ref cf.c)/\vs≠[]/\aL prog w Sta d cf.c vs v
structure Cx (Sta:Heap->Prop)(M:List Addr)(env:Env)(ρ:Loc)(h:Heap):Prop where
 sta:Sta h
 kind:env.scope.kind= .function
 globals:env.globals=mainGlobals
 builtins:env.builtins=builtinsNs
 vars:∀x v,ρ x=some v->∃u,aY env h x u/\Den (hide h M) u v
 lt:∀a∈M,∃o,h.get? a=some o
 tabs:∀y∈Zt,y∈M
theorem KW.ns {a b:Shared}{m:Str->Option Value}(k:KW W Zs a b)(z:Zok Zs [] a.heap)(h:L∉W)(hn:a.heap.Ns L m):b.heap.Ns L m:=
 by obtain ⟨o,es,ep,e,hd,r⟩:=hn;exact ⟨o,es,ep,k.keep _ _ h (z.not e fun vs q=>nomatch hd.symm.trans q) e,hd,r⟩
theorem KW.cell {a b:Shared}{c:Addr}{v:Option Value}(k:KW W Zs a b)(z:Zok Zs [] a.heap)(h:c∉W)(hn:a.heap.IsCell c v):b.heap.IsCell c v:=
 by obtain ⟨o,e,hd⟩:=hn;exact ⟨o,k.keep _ _ h (z.not e fun vs q=>nomatch hd.symm.trans q) e,hd⟩
theorem aY.kw {a b:Shared}{u:Value}(k:KW W Zs a b)(z:Zok Zs [] a.heap)(h1:env.locals∉W)(h2:∀c,env.cells.lookup x=some c->c∉W)(h:aY env a.heap x u):aY env b.heap x u:=by
 rcases h with ⟨q,m,hn,hm⟩ | ⟨q,c,hc,hi⟩ | ⟨q,q2,c,hc,hi⟩
 ·exact .inl ⟨q,m,k.ns z h1 hn,hm⟩
 ·exact .inr (.inl ⟨q,c,hc,k.cell z (h2 c hc) hi⟩)
 ·exact .inr (.inr ⟨q,q2,c,hc,k.cell z (h2 c hc) hi⟩)
theorem Kp.bound {a b:Shared}{u:Value}(k:Kp a b)(z:Zok Zs [] a.heap)(h:aY env a.heap x u):aY env b.heap x u:=h.kw k z (nomatch ·) fun _ _=>(nomatch ·)
theorem Kp.none {a b:Shared}{y:Addr}(k:Kp a b)(z:Zok Zs [] a.heap)(h:b.heap.get? y=none):a.heap.get? y=none:=by
 rcases e:a.heap.get? y with _ | o
 ·rfl
 ·by_cases q:y∈Zs.map (·.2)
  ·obtain ⟨z',hz,rfl⟩:=List.mem_map.mp q;obtain ⟨ps,hp⟩:=z.at' z' hz;obtain ⟨m,hm⟩:=k.tab z' hz ps hp;exact no1 (h.symm.trans hm.2.2)
  ·exact no1 (h.symm.trans (k.get y o q e))
theorem Kp.ex {a b:Shared}{y:Addr}(k:Kp a b)(z:Zok Zs [] a.heap)(h:∃o,a.heap.get? y=some o):∃o,b.heap.get? y=some o:=by
 rcases e:b.heap.get? y with _ | o
 ·obtain ⟨o,h⟩:=h;exact no1 ((k.none z e).symm.trans h)
 ·exact ⟨o,rfl⟩
theorem Kp.refl (s:Shared):Kp s s:=KW.refl s
theorem Kp.trans {a b c:Shared}(x:Kp a b)(y:Kp b c):Kp a c:=KW.trans x y
theorem Kp.toks:Kp s {s with toks:=n}:=KW.toks
theorem Cx.kp (S:aJt Sta mg mb){M:List Addr}{ρ:Loc}{a b:Shared}(c:Cx Sta M env ρ a.heap)(k:Kp a b):Cx Sta M env ρ b.heap:=
 {c with
  sta:=S.keeps _ _ k c.sta
  vars:=fun y v e=>by obtain ⟨u,hb,hd⟩:=c.vars y v e;exact ⟨u,k.bound (S.zok _ c.sta) hb,k.den c.tabs hd⟩
  lt:=fun y hy=>k.ex (S.zok _ c.sta) (c.lt y hy)}
theorem wD {a b:Int}(ha: -(2^62)<=a)(ha':a<2^62)(hb: -(2^62)<b)(hb':b<2^62):Builtin.Range.small a b (-1)=true:=by
 unfold Builtin.Range.small;rw [nY];simp only [Builtin.Range.rangeFitsLong];simp;omega
structure Itr (prog:Program)(w:World)(A:Around)(M:List Addr)(s:Shared)(items:List AV)(I:Addr)(fp wr:List Addr)(P:Nat->Value->Prop)(St:Nat->Heap->Prop)(s'2:Shared):Prop where
 W:Walks prog w A I fp wr items.length P St
 st:St 0 s'2.heap
 has:∀b∈fp,∃o,s'2.heap.get? b=some o
 fresh:∀b∈wr,s.heap.get? b=none
 kept:dB s s'2
 item:∀i v d,P i v->items[i]? =some d->Den (hide s.heap M) v d
 ex:∀i h,St i h->∀b∈wr,∃o,h.get? b=some o
 vis:∀b∈fp,b∉wr->∃o,(hide s.heap M).get? b=some o
section
variable {M:List Addr}{items:List AV}
def aFn (prog:Program)(w:World)(A:Around)(M:List Addr)(s:Shared)(items:List AV)(Q:Value->Shared->Prop):Prop:=
 ∀I fp wr P St s'2,Itr prog w A M s items I fp wr P St s'2->Q (.ref I) s'2
theorem aJu {o:Obj}{fp:List Addr}{P:Nat->Value->Prop}{St:Nat->Heap->Prop}(q:aFn prog w A M s items Q)(hn:n=items.length)(W:Walks prog w A s.heap.objs.size (s.heap.objs.size::fp) [s.heap.objs.size] n P St)(st:St 0 (s.heap.push o))
  (vis:∀b∈fp,∃o,(hide s.heap M).get? b=some o) (item:∀i v d,P i v->items[i]? =some d->Den (hide s.heap M) v d) (ex:∀i h,St i h->∃o,h.get? s.heap.objs.size=some o) (hf:o.isFreed=false:=by rfl):
  Q (.ref s.heap.objs.size) {s with heap:=s.heap.push o}:=by
 subst hn;refine q _ _ _ _ _ _ ⟨W,st,fun b hb=> ?_,fun b hb=>List.mem_singleton.mp hb▸aR _,.push,item,fun i h hs b hb=>List.mem_singleton.mp hb▸ex i h hs,fun b hb hw=> ?_⟩
 ·rcases List.mem_cons.mp hb with rfl | hb
  ·exact ⟨_,Heap.get?_push_size _ hf⟩
  ·obtain ⟨o,e⟩:=vis b hb;exact ⟨o,Heap.get?_push_of_some _ (aA.mp e).2⟩
 ·exact vis b ((List.mem_cons.mp hb).resolve_left fun e=>hw (e▸List.mem_singleton.mpr rfl))
theorem aJv {x:AV}{C:AV->List AV->Prop}(e:aV x=some items)(q1:∀l,C (.list l) l)(q2:∀l,C (.tup l) l)
  (q3:∀a b,bP a=true->bP b=true->C (.range a b 1) ((List.range (b- a).toNat).map fun (i:Nat)=> .int (a+(i:Int)*1))) (q4:∀a b,bP a=true->bP b=true->C (.range a b (-1)) ((List.range (a- b).toNat).map fun (i:Nat)=> .int (a+(i:Int)*(-1))))
  (q5:∀x,C (.str x) (x.cps.toList.map fun c=> .str ⟨#[c]⟩)):C x items:=by
 rcases x with _ | _ | _ | x | l | l | l | _ | _ | ⟨a,b,c⟩ <;> first | exact no1 e | skip
 ·exact Option.some.inj e▸q5 x
 ·exact Option.some.inj e▸q1 l
 ·exact Option.some.inj e▸q2 l
 ·exact bK e fun h e=>iC e (fun hc e=>Option.some.inj e▸hc▸q3 a b h.1 h.2) fun _ e=>bK e fun hc e=>Option.some.inj e▸hc▸q4 a b h.1 h.2
theorem dC {a:Int}(h:bP a=true): -(2^32)<=a/\a<=2^32:=of_decide_eq_true h
theorem wE {V:Heap}{a c:Int}{v:Value}{d:AV}(hv:∃t,v= .int (a+(i:Int)*c) t)(h:((List.range n).map fun (i:Nat)=>AV.int (a+(i:Int)*c))[i]? =some d):Den V v d:=by
 obtain ⟨t,rfl⟩:=hv;rw [List.getElem?_map] at h;refine gJ h fun j hj e=> ?_
 obtain ⟨hi,e2⟩:=List.getElem?_eq_some_iff.mp hj;rw [List.getElem_range] at e2;subst e2 e;exact .int _ _
theorem zL {a b c:Int}(hh:A.handled=none)(q:aFn prog w A M s ((List.range n).map fun (i:Nat)=> .int (a+(i:Int)*c)) Q)(hsz:Builtin.Range.rangeSize a b c=(n:Int)):
  Q (.ref s.heap.objs.size) {s with heap:=s.heap.push {cls:= .type "range_iterator",data:= .fields #[rawInt a,rawInt (Builtin.Range.rangeSize a b c),rawInt c]}}:=by
 refine aJu q (by simp) (Walks.range (prog:=prog) (w:=w) hh s.heap.objs.size a c n) ?_ (fun _ h=>nomatch h) (fun i v d h1 h2=>wE h1 h2) fun i h hs=>⟨_,hs⟩
 have e1:a+((0:Nat):Int)*c=a:=by simp
 have e2:(n:Int)- ((0:Nat):Int)=Builtin.Range.rangeSize a b c:=by rw [hsz]; simp
 show IsRangeIter _ _ _ _ _;rw [e1,e2];exact Heap.get?_push_size _ rfl
theorem zM {l:List AV}(hh:A.handled=none)(hx:Den (hide s.heap M) y (.list l))(q:aFn prog w A M s l Q):wpAny (model prog w) A (pyIter y) Q E s:=
 hx.listE fun a vs e hp hd=>by
  subst e;have hl:=(aJ hp).isList;obtain ⟨n,ho⟩:=hp;exact wpAny_pyIter_list hl (aJu q (by rw [<- hd.1,Array.length_toList]) (Walks.list (prog:=prog) (w:=w) hh s.heap.objs.size a (Nat.ne_of_lt (Heap.lt_size (aA.mp ho).2)) vs) ⟨⟨_,Heap.get?_push_size _ rfl,rfl,rfl⟩,hl.at fun o e=>Heap.get?_push_of_some _ e⟩
   (fun b hb=>List.mem_singleton.mp hb▸⟨_,ho⟩) (fun i v d h1 h2=>hd.2 i v d (by rw [Array.getElem?_toList]; exact h1) h2) fun i h hs=>by obtain ⟨o,e,_⟩:=hs.1;exact ⟨o,e⟩)
theorem aDg {l:List AV}(hh:A.handled=none)(hx:Den (hide s.heap M) y (.tup l))(q:aFn prog w A M s l Q):wpAny (model prog w) A (pyIter y) Q E s:=
 hx.tupE fun a vs e hp hd=>by
  subst e;have hl:=cU hp;obtain ⟨o,ho,_⟩:=hp;exact wpAny_pyIter_tuple hl (aJu q (by rw [<- hd.1,Array.length_toList]) (Walks.tuple (prog:=prog) (w:=w) hh s.heap.objs.size a (Nat.ne_of_lt (Heap.lt_size (aA.mp ho).2)) vs) ⟨⟨_,Heap.get?_push_size _ rfl,rfl,rfl⟩,hl.at fun o e=>Heap.get?_push_of_some _ e⟩
   (fun b hb=>List.mem_singleton.mp hb▸⟨_,ho⟩) (fun i v d h1 h2=>hd.2 i v d (by rw [Array.getElem?_toList]; exact h1) h2) fun i h hs=>by obtain ⟨o,e,_⟩:=hs.1;exact ⟨o,e⟩)
theorem pQ {V:Heap}(i:Nat)(v:Value)(d:AV)(hv:SignAt x i v)(h:(x.cps.toList.map fun c=>AV.str ⟨#[c]⟩)[i]? =some d):Den V v d:=by
 obtain ⟨c,u,hc,rfl⟩:=hv;rw [List.getElem?_map,Array.getElem?_toList,hc] at h;exact Option.some.inj h▸ .str _ _
theorem aDh (hh:A.handled=none)(hx:Den (hide s.heap M) y (.str x))(q:aFn prog w A M s (x.cps.toList.map fun c=> .str ⟨#[c]⟩) Q):wpAny (model prog w) A (pyIter y) Q E s:=
 hx.strE fun t e=>by
  subst e
  rcases ha:x.cps.all (· <128) with _ | _
  ·exact wpAny_pyIter_wide ha (aJu q (by simp) (Walks.strWide (prog:=prog) (w:=w) hh s.heap.objs.size x t) ⟨_,Heap.get?_push_size _ rfl,rfl,rfl⟩ (fun _ h=>nomatch h) pQ fun i h hs=>by obtain ⟨o,e,_⟩:=hs;exact ⟨o,e⟩)
  ·exact wpAny_pyIter_ascii ha (aJu q (by simp) (Walks.strAscii (prog:=prog) (w:=w) hh s.heap.objs.size x t) ⟨_,Heap.get?_push_size _ rfl,rfl,rfl⟩ (fun _ h=>nomatch h) pQ fun i h hs=>by obtain ⟨o,e,_⟩:=hs;exact ⟨o,e⟩)
theorem mM {a b c:Int}(hh:A.handled=none)(hx:Den (hide s.heap M) y (.range a b c))(hs:Builtin.Range.small a b c=true)(hsz:Builtin.Range.rangeSize a b c=(n:Int))(q:aFn prog w A M s ((List.range n).map fun (i:Nat)=> .int (a+(i:Int)*c)) Q):wpAny (model prog w) A (pyIter y) Q E s:=by
 cases hx with
 | range hr=>exact wpAny_pyIter_range (aA.mp hr).2 hs (zL hh q hsz)
theorem bG (hh:A.handled=none){x:AV}(e:aV x=some items):Den (hide s.heap M) y x->aFn prog w A M s items Q->wpAny (model prog w) A (pyIter y) Q E s:=
 aJv (C:=fun x items=>Den (hide s.heap M) y x->aFn prog w A M s items Q->wpAny (model prog w) A (pyIter y) Q E s) e (fun l=>zM hh) (fun l=>aDg hh)
  (fun a b ha hb hx=>mM hh hx (small_one (by have:=dC ha;exact jil this.1 rfl) (by have:=dC ha;exact ijt this.2 rfl) (by have:=dC hb;exact jil this.1 rfl) (by have:=dC hb;exact ijt this.2 rfl)) (kD a b))
  (fun a b ha hb hx=>mM hh hx (wD (by have:=dC ha;exact jil this.1 rfl) (by have:=dC ha;exact ijt this.2 rfl) (by have:=dC hb;exact jil this.1 rfl) (by have:=dC hb;exact ijt this.2 rfl)) (nY a b))
  fun x=>aDh hh
end
section
set_option genInjectivity false
set_option genSizeOfSpec false
structure Eg where
 prog:Program
 w:World
 Sta:Heap->Prop
 mg:Str->Option Value
 mb:Str->Option Value
 cf:CallF
 d:Nat
 S:aJt Sta mg mb
 C:aFm prog w Sta mg cf d
structure Fr where
 sc:Scope
 env:Env
 ρ:Loc
 A:Around
 M:List Addr
structure Ok (g:Eg)(f:Fr)(s:Shared):Prop where
 env:pP f.sc f.env
 room:bT f.A g.d
 cx:Cx g.Sta f.M f.env f.ρ s.heap
 ht:0<s.toks
variable {g:Eg}{f:Fr}
theorem Ok.kept (o:Ok g f s)(k:Kp s s')(ht:0<s'.toks):Ok g f s':=⟨o.env,o.room,o.cx.kp g.S k,ht⟩
theorem Ok.den (o:Ok g f s)(k:Kp s s')(d:Den (hide s.heap f.M) y v):Den (hide s'.heap f.M) y v:=k.den o.cx.tabs d
theorem Ok.newer (o:Ok g f s)(k:Kp s s')(h:∀q,y= .ref q->s'.heap.get? q=none):∀q,y= .ref q->s.heap.get? q=none:=fun q e=>k.none (g.S.zok _ o.cx.sta) (h q e)
theorem Ok.u300 (o:Ok g f s):f.A.units+300<9900:=by have:=o.room.units;lia
def Run {α:Type}(g:Eg)(f:Fr)(t:Sem α)(P:Heap->α->Prop):Prop:=
 ∀(s:Shared) (E:Value->Shared->Prop) (Q:α->Shared->Prop),Ok g f s->(∀ y s',Ok g f s'->P s'.heap y->Kp s s'->Q y s')->wpAny (model g.prog g.w) f.A t Q E s
def Ev (g:Eg)(f:Fr)(e:Expr)(v:AV):Prop:=Run g f (eval e f.env) fun h y=>Den (hide h f.M) y v
def Evs (g:Eg)(f:Fr)(es:List Expr)(vs:List AV):Prop:=∀pos,Run g f (spliced (backTo pos (starEach es f.env))) fun h ys=>aO (hide h f.M) ys vs
def EvB (g:Eg)(f:Fr)(t:Sem Bool)(b:Bool):Prop:=Run g f t fun _ y=>y=b
theorem use {t:Sem Value}(o:Ok g f s)(h:wpAny (model g.prog g.w) f.A t (PE f.M s v) E s)(k:∀y s',Ok g f s'->Den (hide s'.heap f.M) y v->Kp s s'->Q y s'):wpAny (model g.prog g.w) f.A t Q E s:=
 zC o.ht h (fun y s' ht p=>k y s' (o.kept p.2.kp ht) p.1 p.2.kp) fun _ _ x=>x
theorem bH {rest:List Expr}(he:odd e=false):starEach (e::rest) env=(false,eval e env)::starEach rest env:=by
 rcases e <;> first | rfl | exact no4 he
theorem pR {op:CmpOp}(he:odd e=false):behindInMarks op e=false:=by
 cases e <;> first | rfl | cases he
theorem eK (he:odd e=false)(x:Value):foldedSetIterable e env x=pure x:=by
 cases e <;> first | rfl | cases he
theorem cD {ρ:Loc}(h:evE cf n sc ρ e=some v):odd e=false:=by
 cases e <;> first | rfl | (cases n <;> exact no1 h)
theorem pS {ρ:Loc}(h:evE cf n sc ρ e=some v)(x:Value):foldedSetIterable e env x=pure x:=eK (cD h) x
theorem kF {ρ:Loc}{P:Prop}(h:jH cf n sc ρ (e::es)=some vs)(q:∀m v r,n=m+1->evE cf m sc ρ e=some v->jH cf m sc ρ es=some r->v::r=vs->P):P:=by
 cases n with
 | zero=>exact no1 h
 | succ m=>exact aB (o:=evE cf m sc ρ e) h fun v hv h=>aB (o:=jH cf m sc ρ es) h fun r hr h=>q m v r rfl hv hr (Option.some.inj h)
theorem oA {ρ:Loc}:∀{es:List Expr} {vs:List AV} {n:Nat},jH cf n sc ρ es=some vs->∀pos,(backTo pos (starEach es env)).any (·.1)=false
 | [],_,_,_,_=>rfl
 | e::es,vs,n,h,pos=>kF h fun m v r _ hv hr _=>by
  rw [bH (cD hv)];exact oA (es:=es) hr pos
theorem dT {ρ:Loc}:∀{es:List Expr} {vs:List AV} {n:Nat},jH cf n sc ρ es=some vs->vs.length=es.length
 | [],_,n,h=>by
  rcases n with _ | n
  ·exact no1 h
  ·exact Option.some.inj h▸rfl
 | e::es,vs,n,h=>kF h fun m v r _ hv hr e=>e▸congrArg (· +1) (dT hr)
theorem Ev.const {k:Const}{x:Nat}(h:yX k=some v):Ev g f (.Constant k x p) v:=fun s E Q o q=>by
 refine use (s:=s) o ?_ q
 rcases k with _ | _ | _ | _ | _ | _ | _ | _ <;> first | exact no1 h | obtain rfl:=Option.some.inj h
 ·exact fun _ _ _=>⟨.none,dB.refl s⟩
 ·exact wpAny_Constant_bool .bool
 ·exact wpAny_Constant_int .int
 ·exact wpAny_Constant_str .str
theorem Ev.name (hd:¬(x==("__debug__":Str))=true)(h:f.ρ x=some v):Ev g f (.Name x p) v:=fun s E Q o q=>by
 obtain ⟨u,hb,hu⟩:=o.cx.vars _ _ h;exact bF o.cx.kind hb (Bool.eq_false_iff.mpr hd) (q _ _ o hu (Kp.refl s))
def EvF (g:Eg)(f:Fr)(e:Expr)(v:AV):Prop:=
 ∀(s:Shared) (E:Value->Shared->Prop) (Q:Value->Shared->Prop),Ok g f s->(∀ y s',Ok g f s'->Den (hide s'.heap f.M) y v->Kp s s'->(∀ q,y= .ref q->s.heap.get? q=none)->Q y s')->wpAny (model g.prog g.w) f.A (eval e f.env) Q E s
theorem EvF.ev (h:EvF g f e v):Ev g f e v:=fun s E Q o q=>h s E Q o fun y s' o' d k _=>q y s' o' d k
theorem EvF.bin {l r:Expr}{op:Operator}{a b:AV}(hl:Ev g f l a)(hr:Ev g f r b)(h:pG op a b=some v):EvF g f (.BinOp l op r p) v:=fun s E Q o q=>
 wpAny_BinOp (hl s E _ o fun x s'1 o'1 d'1 k'1=>hr s'1 E _ o'1 fun y s'2 o'2 d'2 k'2=>
  zC o'2.ht (rO o'2.cx.lt h (o'1.den k'2 d'1) d'2) (fun z s3 t'3 h'3=>q z s3 (o'2.kept h'3.1.2.kp t'3) h'3.1.1 (k'1.trans (k'2.trans h'3.1.2.kp)) (o.newer (k'1.trans k'2) h'3.2)) fun _ _ x=>x)
theorem Ev.minus {i:Int}(h:Ev g f e (.int i)):Ev g f (.UnaryOp .USub e p) (.int (-i)):=fun s E Q o q=>
 wpAny_UnaryOp (h s E _ o fun x s'1 o'1 d'1 k'1=>by
  refine d'1.intE fun t e=> ?_;subst e
  exact use o'1 (neg_int .int) fun y s'2 o'2 d'2 k'2=>q y s'2 o'2 d'2 (k'1.trans k'2))
theorem Ev.compare {l r:Expr}{op:CmpOp}{a b:AV}{z:Bool}(hl:Ev g f l a)(hr:Ev g f r b)(h:cmp op a b=some z)(hq:odd r=false):Ev g f (.Compare l [op] [r] p) (.bool z):=fun s E Q o q=>
 wpAny_Compare1 (hl s E _ o fun x s'1 o'1 d'1 k'1=>hr s'1 E _ o'1 fun y s'2 o'2 d'2 k'2=>
  use o'2 (pM o'2.u300 h (o'1.den k'2 d'1) d'2) fun y s3 o'3 d'3 k'3=>q y s3 o'3 d'3 (k'1.trans (k'2.trans k'3))) (pR hq)
theorem aFo (slice:Expr)(o i:Value):∃ops,subscripted slice false o i=operate ops (getItem o i):=by
 rcases slice with _ | _ | _ | _ | _ | _ | _ | _ | _ | _ | _ | _ | _ | _ | _ | _ | _ | _ | _ | _ | _ | _ | _ | _ | _ | _ | ⟨_,_,_ | _,_⟩ <;> exact ⟨_,rfl⟩
theorem iJ {value slice:Expr}
  (h:wpAny (model prog w) A (eval value env) (fun o s'1=>wpAny (model prog w) A (eval slice env) (fun i s'2=>∃T id,s'2.TypeIs o T/\typeLookup (.type T) "__getitem__"=pure (some (.builtin id))/\wpAny (model prog w) A (getItem o i) Q E s'2) E s'1) E s):
  wpAny (model prog w) A (eval (.Subscript value slice pos) env) Q E s:=by
 rw [eval_Subscript];refine wpAny_bind (wpAny_mono h (fun o s'1 h'1=>wpAny_bind (wpAny_holding (wpAny_mono h'1 (fun i s'2 h'2=>wpAny_bind (wpAny_standAt ?_)) fun _ _ x=>x))) fun _ _ x=>x);obtain ⟨T,id,hT,hl,hg⟩:=h'2;refine wpAny_bind ?_;rw [getitemInPython_of_ne hT.not_modules];refine wpAny_bind (wpAny_specialOf hT hl (wpAny_pure ?_));obtain ⟨ops,ho⟩:=aFo slice o i;rw [ho];exact wpAny_bind (wpAny_operating (wpAny_mono hg (fun r s3 h'3=>wpAny_bind (wpAny_letTemporaryGo (wpAny_pure h'3))) fun _ _ x=>x))
theorem aG3 {M:List Addr}{l:List AV}{k:Int}{vs:Array Value}(h0:0<=k)(h:fT l k=some v)(hp:(hide s.heap M).IsTuple a vs)(hd:aO (hide s.heap M) vs.toList l):
  wpAny (model prog w) A (getItem (.ref a) (.int k t)) (PE M s v) E s:=by
 have hl:=hd.1;rw [Array.length_toList] at hl;unfold fT at h;refine bK h fun hn h=> ?_
 rw [if_pos h0] at h;refine bK h fun h1 h=> ?_
 obtain ⟨y,hy,hv⟩:=hd.get h;rw [Array.getElem?_toList] at hy;exact getItem_tuple (cU hp) (by lia) (by lia) (seqIndex_of h0 (by lia)) hy ⟨hv,dB.refl s⟩
theorem aN3 {a b:AV}{C:AV->AV->AV->Prop}(h:yE a b=some v)(q1:∀l k v,fT l k=some v->C (.list l) (.int k) v)(q2:∀l k v,0<=k->fT l k=some v->C (.tup l) (.int k) v)(q3:∀(x:Str) k v,yE (.str x) (.int k)=some v->C (.str x) (.int k) v):C a b v:=by
 rcases a with _ | _ | _ | x | l | l | _ | _ | _ | _ <;> first | exact no1 h | (rcases b with _ | _ | k | _ | _ | _ | _ | _ | _ | _ <;> first | exact no1 h | skip)
 ·exact q3 x k v h
 ·exact q1 l k v h
 ·exact bK h fun h0 h=>q2 l k v h0 h
theorem zN {M:List Addr}{a b:AV}{x:Value}(h:yE a b=some v):Den (hide s.heap M) x a->Den (hide s.heap M) y b->(wpAny (model prog w) A (getItem x y) (PE M s v) E s->wpAny (model prog w) A (getItem x y) Q E s)->
  ∃T id,s.TypeIs x T/\typeLookup (.type T) "__getitem__"=pure (some (.builtin id))/\wpAny (model prog w) A (getItem x y) Q E s:=
 aN3 (C:=fun a b v=>Den (hide s.heap M) x a->Den (hide s.heap M) y b->(wpAny (model prog w) A (getItem x y) (PE M s v) E s->wpAny (model prog w) A (getItem x y) Q E s)->∃T id,s.TypeIs x T/\typeLookup (.type T) "__getitem__"=pure (some (.builtin id))/\wpAny (model prog w) A (getItem x y) Q E s) h
 (fun l k v g hx hy q=>hx.listE fun a vs e hp hd=>hy.intE fun t e'=>by
  subst e e';exact ⟨"list",_,(aJ hp).isList.typeIs,list_getitem_lookup,q (wB g hp hd)⟩)
 (fun l k v h0 g hx hy q=>hx.tupE fun a vs e hp hd=>hy.intE fun t e'=>by
  subst e e';exact ⟨"tuple",_,Heap.IsTuple.typeIs (cU hp),slot_tuple_getitem.lookup,q (aG3 h0 g hp hd)⟩)
 fun x k v g hx hy q=>hx.strE fun t e=>hy.intE fun u e'=>by
  subst e e';exact ⟨"str",_,typeIs_str _ _ _,PySem.F.slot_str_getitem.lookup,q (aDe g)⟩
theorem Ev.item {i:Expr}{a b:AV}(he:Ev g f e a)(hi:Ev g f i b)(h:yE a b=some v):Ev g f (.Subscript e i p) v:=fun s E Q o q=>
 iJ (he s E _ o fun x s'1 o'1 d'1 k'1=>hi s'1 E _ o'1 fun y s'2 o'2 d'2 k'2=>
  zN h (o'1.den k'2 d'1) d'2 fun hg=>use o'2 hg fun y s3 o'3 d'3 k'3=>q y s3 o'3 d'3 (k'1.trans (k'2.trans k'3)))
theorem aN4 {a:AV}{P:Prop}(h:aLy a=some v)(q:∀l,a= .list l->l.length<=2^20-> .list l.reverse=v->P):P:=by
 rcases a with _ | _ | _ | _ | l | _ | _ | _ | _ | _ <;> first | exact no1 h | exact bK h fun hk h=>q l rfl hk (Option.some.inj h)
theorem aJw (h:aNf e=true):∃k p,e= .Constant (.int 1) k p:=by
 rcases e with _ | _ | _ | _ | _ | _ | _ | _ | _ | _ | _ | _ | _ | _ | _ | _ | _ | _ | _ | ⟨c,k,p⟩ | _ | _ | _ | _ | _ | _ | _ <;> first | exact no3 h | skip
 rcases c with _ | _ | i | _ | _ | _ | _ | _ <;> first | exact no3 h | skip
 exact ⟨k,p,by rw [show i=1 from beq_iff_eq.mp h]⟩
theorem uD (h:minus1 e=true):∃k p q,e= .UnaryOp .USub (.Constant (.int 1) k p) q:=by
 rcases e with _ | _ | _ | ⟨op,e,q⟩ | _ | _ | _ | _ | _ | _ | _ | _ | _ | _ | _ | _ | _ | _ | _ | _ | _ | _ | _ | _ | _ | _ | _ <;> first | exact no3 h | skip
 obtain ⟨h1,h2⟩:=Bool.and_eq_true_iff.mp h;obtain ⟨k,p,rfl⟩:=aJw h2
 rcases op with _ | _ | _ | _ <;> first | exact no3 h1 | exact ⟨k,p,q,rfl⟩
theorem Ev.minus1:Ev g f (.UnaryOp .USub (.Constant (.int 1) k p) q) (.int (-1)):= .minus (.const rfl)
theorem Ev.rev {i:Expr}{a:AV}(hi:aGt i=true)(he:Ev g f e a)(h:aLy a=some v):Ev g f (.Subscript e i p) v:=fun s E Q o q=>by
 refine aN4 h fun l e1 hn e3=> ?_
 subst e1 e3
 rcases i with _ | _ | _ | _ | _ | _ | _ | _ | _ | _ | _ | _ | _ | _ | _ | _ | _ | _ | _ | _ | _ | _ | _ | _ | _ | _ | ⟨lo,up,st,sp⟩ <;> first | exact no3 hi | skip
 obtain ⟨h1,h3⟩:=Bool.and_eq_true_iff.mp hi;obtain ⟨h1,h2⟩:=Bool.and_eq_true_iff.mp h1;rw [Option.isNone_iff_eq_none] at h1 h2;subst h1 h2
 rcases st with _ | st
 ·exact no3 h3
 obtain ⟨k,kp,kq,rfl⟩:=uD h3;refine iJ (he s E _ o fun y s'1 o'1 d'1 k'1=>wpAny_Slice ?_);rw [evalPart_none,evalPart_some];refine wpAny_pure (wpAny_pure (Ev.minus1 s'1 E _ o'1 fun z s'2 o'2 d'2 k'2=>d'2.intE fun t e=> ?_));subst e;refine (o'1.den k'2 d'1).listE fun a vs e hp hd=> ?_
 subst e;have k3:dB s'2 {s'2 with heap:=s'2.heap.push {cls:= .type "slice",data:= .fields #[.none,.none,.int (-1) t]}}:= .push;have o'3:=o'2.kept k3.kp o'2.ht;have hp':(hide (s'2.heap.push {cls:= .type "slice",data:= .fields #[.none,.none,.int (-1) t]}) f.M).PlainList a vs:=hp.at fun o e=>k3.hide f.M _ o e
 exact ⟨"list",_,(aJ hp').isList.typeIs,list_getitem_lookup,use o'3 (zJ o'3.cx.lt hp' (hd.keeps (k3.hide f.M)) hn (.new ..) (.int _ _)) fun y s4 o'4 d4 k'4=>q y s4 o'4 d4 (k'1.trans (k'2.trans (k3.kp.trans k'4)))⟩
end
section
variable {g:Eg}{f:Fr}
def wF (f:Fr)(es:List Expr):Prop:=∀pos,(backTo pos (starEach es f.env)).any (·.1)=false
theorem EvF.list (hn:es.length<=1000)(hl:vs.length=es.length)(h:Evs g f es vs):EvF g f (.List es p) (.list vs):=fun s E Q o q=>by
 refine wpAny_List (h _ s E _ o fun ys s'1 o'1 d'1 k'1=> ?_);have p:=dN o'1.cx.lt (by simpa using d'1) 0;exact ⟨by rw [d'1.1,hl,sizeLine_eq]; exact lit hn rfl,q _ _ (o'1.kept p.2.kp o'1.ht) p.1 (k'1.trans p.2.kp) (o.newer k'1 fun a e=>Value.ref.inj e▸aR _)⟩
theorem Ev.tuple (hn:es.length<=1000)(hl:vs.length=es.length)(h:Evs g f es vs):Ev g f (.Tuple es n p) (.tup vs):=fun s E Q o q=>by
 refine wpAny_Tuple (h _ s E _ o fun ys s'1 o'1 d'1 k'1=> ?_);have p:=kB o'1.cx.lt (by simpa using d'1) 0;exact ⟨by rw [d'1.1,hl,sizeLine_eq]; exact lit hn rfl,q _ _ (o'1.kept p.2.kp o'1.ht) p.1 (k'1.trans p.2.kp)⟩
theorem aJx {u:Value}(o:Ok g f s)(hx:f.sc.names.lookup x=some .globalImplicit)(hd:¬(x==("__debug__":Str))=true)(hg:g.mg x=none)(hb:g.mb x=some u)(q:Q u s):
  wpAny (model g.prog g.w) f.A (eval (.Name x p) f.env) Q E s:=
 Name_function_global o.cx.kind (o.env.glob x hx) (loadGlobal_builtin (env:=f.env) (o.cx.globals▸g.S.g _ o.cx.sta) hg (o.cx.builtins▸g.S.b _ o.cx.sta) hb q) (Bool.eq_false_iff.mpr hd)
theorem aJy {u:Value}(o:Ok g f s)(hx:f.sc.names.lookup x=some .globalImplicit)(hd:¬(x==("__debug__":Str))=true)(hg:g.mg x=some u)(q:Q u s):
  wpAny (model g.prog g.w) f.A (eval (.Name x p) f.env) Q E s:=
 Name_function_global o.cx.kind (o.env.glob x hx) (loadGlobal_global (env:=f.env) (o.cx.globals▸g.S.g _ o.cx.sta) hg q) (Bool.eq_false_iff.mpr hd)
theorem aF {f:Value}{args:List (Bool × Sem Value)}{Q:Args->Shared->Prop}(ha:args.any (·.1)=false)(h:wpAny (model prog w) A (spliced args) (fun vs s'=>Q ⟨vs,[]⟩ s') E s):
  wpAny (model prog w) A (evalArgs f true args []) Q E s:=by
 rcases args with _ | ⟨⟨b,x⟩,r⟩
 ·unfold evalArgs;show wpAny _ A (spliced [] >>= _) Q E s;exact wpAny_bind (wpAny_mono h (fun vs s' h'=>wpAny_holding (wpAny_bind (wpAny_pure (wpAny_bind (wpAny_pure (wpAny_pure h')))))) fun _ _ x=>x)
 ·rcases b with _ | _
  ·exact evalArgs_plain h
  ·exact no4 ha
theorem gN (h:wpAny (model g.prog g.w) f.A (eval (.Name x p) f.env) (fun u s'=>wpAny (model g.prog g.w) f.A (callWith q u [] (backTo q (starEach as f.env)) []) Q E s') E s):
  wpAny (model g.prog g.w) f.A (eval (.Call (.Name x p) as [] q) f.env) Q E s:=by
 show wpAny _ f.A (eval (.Name x p) f.env >>= fun u=>callWith q u [] (backTo q (starEach as f.env)) []) _ _ s;exact wpAny_bind h
theorem aJz (b:Eg)(h:(x,id)∈nZ):b.mg x=none/\b.mb x=some (.builtin id):=b.S.bi x id h
theorem aDi (e:bL x vs=some v):∃id,(x,id)∈nZ/\∀(s:Shared) (E:Value->Shared->Prop) (ys:List Value),Ok g f s->aO (hide s.heap f.M) ys vs->wpAny (model g.prog g.w) f.A (call (.builtin id) ys) (PE f.M s v) E s:=
 iC e (fun e h=>⟨_,e▸ .head _,fun _ _ _ _ d=>pO h d⟩) fun _ e=>
 iC e (fun e h=>⟨_,e▸ .tail _ (.head _),fun _ _ _ _ d=>zF h d⟩) fun _ e=>
 iC e (fun e h=>⟨_,e▸ .tail _ (.tail _ (.head _)),fun _ _ _ o d=>zG o.room.handled h d⟩) fun _ e=>
 iC e (fun e h=>⟨_,e▸ .tail _ (.tail _ (.tail _ (.head _))),fun _ _ _ o d=>zH o.room.handled h d⟩) fun _ e=>
 iC e (fun e h=>⟨_,e▸ .tail _ (.tail _ (.tail _ (.tail _ (.head _)))),fun _ _ _ o d=>zI o.room.handled h d⟩) fun _ e=>
 iC e (fun e h=>⟨_,e▸ .tail _ (.tail _ (.tail _ (.tail _ (.tail _ (.head _))))),fun _ _ _ o d=>zE h d⟩) fun _ e=>no1 e
theorem Ev.bi (hx:f.sc.names.lookup x=some .globalImplicit)(hd:¬(x==("__debug__":Str))=true)(hp:wF f as)(h:Evs g f as vs)(e:bL x vs=some v):Ev g f (.Call (.Name x p) as [] q) v:=fun s E Q o k=>by
 obtain ⟨id,hm,hc⟩:=aDi (g:=g) (f:=f) e;exact gN (aJx o hx hd (aJz g hm).1 (aJz g hm).2 (callWith_builtin (hp q) (aF (hp q) (h q s E _ o fun ys s'1 o'1 d'1 k'1=>use o'1 (hc s'1 E ys o'1 d'1) fun y s'2 o'2 d'2 k'2=>k y s'2 o'2 d'2 (k'1.trans k'2)))))
theorem kG {M:List Addr}(hlt:∀a∈M,∃o,s.heap.get? a=some o)(a b c:Int)(t u v tk:Tok):PE M s (.range a b c) (.ref s.heap.objs.size) {s with heap:=s.heap.push {cls:= .type "range",data:= .fields #[.int a t,.int b u,.int c v]},toks:=tk}:=
 ⟨.range (aA.mpr ⟨fun q=>by obtain ⟨_,e⟩:=hlt _ q;exact Nat.lt_irrefl _ (Heap.lt_size e),Heap.get?_push_size _ rfl⟩),.of fun _ _ e=>Heap.get?_push_of_some _ e⟩
theorem aJ0 {C:List AV->AV->Prop}(e:pI vs=some v)(q1:∀b,C [.int b] (.range 0 b 1))(q2:∀a b,C [.int a,.int b] (.range a b 1))(q3:∀a b,C [.int a,.int b,.int (-1)] (.range a b (-1))):C vs v:=by
 rcases vs with _ | ⟨a,vs⟩
 ·exact no1 e
 rcases vs with _ | ⟨b,vs⟩
 ·rcases a with _ | _ | a | _ | _ | _ | _ | _ | _ | _ <;> first | exact no1 e | exact bK e fun _ e=>Option.some.inj e▸q1 a
 rcases a with _ | _ | a | _ | _ | _ | _ | _ | _ | _ <;> first | exact no1 e | skip
 rcases vs with _ | ⟨c,vs⟩
 ·rcases b with _ | _ | b | _ | _ | _ | _ | _ | _ | _ <;> first | exact no1 e | exact bK e fun _ e=>Option.some.inj e▸q2 a b
 rcases b with _ | _ | b | _ | _ | _ | _ | _ | _ | _ <;> first | exact no1 e | skip
 rcases c with _ | _ | c | _ | _ | _ | _ | _ | _ | _ <;> first | exact no1 e | skip
 rcases vs with _ | _
 ·exact bK e fun h e=>Option.some.inj e▸h.2.2▸q3 a b
 ·exact no1 e
theorem rR {M:List Addr}(hlt:∀a∈M,∃o,s.heap.get? a=some o)(e:pI vs=some v):aO (hide s.heap M) ys vs->wpAny (model prog w) A (call (.type "range") ys) (PE M s v) E s:=
 aJ0 (C:=fun vs v=>aO (hide s.heap M) ys vs->wpAny (model prog w) A (call (.type "range") ys) (PE M s v) E s) e
  (fun b h=>h.int1 fun t e=>by subst e;exact call_range_1 (kG hlt ..))
  (fun a b h=>h.int2 fun t u e=>by subst e;exact call_range_2 (kG hlt ..))
  (fun a b h=>h.int3 fun t u v e=>by subst e;exact call_range_3 (by decide) (kG hlt ..) (.inl (PyProof.noPylong_small (by decide))))
theorem aDj (e:yY x vs=some v):∃T,(x,T)∈rQ/\∀(s:Shared) (E:Value->Shared->Prop) (ys:List Value),Ok g f s->aO (hide s.heap f.M) ys vs->wpAny (model g.prog g.w) f.A (call (.type T) ys) (PE f.M s v) E s:=
 iC e (fun e h=>⟨_,e▸ .head _,fun _ _ _ o d=>rR o.cx.lt h d⟩) fun _ e=>
 iC e (fun e h=>⟨_,e▸ .tail _ (.head _),fun _ _ _ o d=>rP o.cx.lt h d⟩) fun _ e=>
 iC e (fun e h=>⟨_,e▸ .tail _ (.tail _ (.head _)),fun _ _ _ o d=>wC o.room.handled o.cx.lt h d⟩) fun _ e=>no1 e
theorem Ev.ty (hx:f.sc.names.lookup x=some .globalImplicit)(hd:¬(x==("__debug__":Str))=true)(hp:wF f as)(h:Evs g f as vs)(e:yY x vs=some v):Ev g f (.Call (.Name x p) as [] q) v:=fun s E Q o k=>by
 obtain ⟨T,hm,hc⟩:=aDj (g:=g) (f:=f) e;exact gN (aJx o hx hd (g.S.ty _ _ hm).1 (g.S.ty _ _ hm).2 (PySem.callWith_type (hp q) (aF (hp q) (h q s E _ o fun ys s'1 o'1 d'1 k'1=>use o'1 (hc s'1 E ys o'1 d'1) fun y s'2 o'2 d'2 k'2=>k y s'2 o'2 d'2 (k'1.trans k'2)))))
theorem aL.use (c:aL g.prog g.w g.Sta g.d a vs v)(o:Ok g f s)(d:aO (hide s.heap f.M) ys vs)(k:∀y s',Ok g f s'->Den (hide s'.heap f.M) y v->Kp s s'->Q y s'):wpAny (model g.prog g.w) f.A (call (.ref a) ys) Q E s:=
 zC o.ht (c _ _ _ _ _ o.room o.cx.sta o.cx.tabs o.cx.lt o.ht d) (fun y s' ht p=>k y s' (o.kept p.2 ht) p.1 p.2) fun _ _ x=>x
theorem Ev.fn (hx:f.sc.names.lookup x=some .globalImplicit)(hd:¬(x==("__debug__":Str))=true)(hp:wF f as)(h:Evs g f as vs)(e:g.cf.fn x vs=some v):Ev g f (.Call (.Name x p) as [] q) v:=fun s E Q o k=>by
 obtain ⟨a,ob,fd,hg,hod,hat,hc⟩:=g.C.fn x vs _ e;exact gN (aJy o hx hd hg (callWith_function (o:=ob) (fd:=fd) (aF (hp q) (h q s E _ o fun ys s'1 o'1 d'1 k'1=>⟨⟨hat _ o'1.cx.sta,hod⟩,hc.use o'1 d'1 fun y s'2 o'2 d'2 k'2=>k y s'2 o'2 d'2 (k'1.trans k'2)⟩))))
theorem Ev.cl (hx:f.sc.names.lookup x=some .globalImplicit)(hd:¬(x==("__debug__":Str))=true)(he:odd e=false)(hp:wF f as)(h:Evs g f (e::as) vs)(hv:g.cf.cl x vs=some v):Ev g f (.Call (.Name x p) (e::as) [] q) v:=fun s E Q o k=>by
 obtain ⟨hg,_,hc⟩:=g.C.cl x vs v hv;obtain ⟨N,mN,hX,_⟩:=g.C.cls;exact gN (aJy o hx hd hg (callWith_cls (hX _ o.cx.sta) (h q s E _ o fun ys s'1 o'1 d'1 k'1=>⟨fun b o e=>k'1.get b o (aA.mp e).1 (aA.mp e).2,hc.use o'1 d'1 fun y s'2 o'2 d'2 k'2=>k y s'2 o'2 d'2 (k'1.trans k'2)⟩) (bH he) (hp q)))
theorem eL (h:cI o=true)(n:Str)(t:Sem Value):attributeBase o n env t=t:=by
 rcases o with _ | _ | _ | _ | _ | _ | _ | _ | _ | _ | _ | _ | _ | _ | _ | _ | ⟨o,as,ks,_⟩ | _ | _ | _ | _ | _ | _ | _ | _ | _ | _ <;> first | rfl | skip
 rcases o with _ | _ | _ | _ | _ | _ | _ | _ | _ | _ | _ | _ | _ | _ | _ | _ | _ | _ | _ | _ | _ | _ | _ | _ | _ | _ | _ <;> first | rfl | skip
 rcases as with _ | _ <;> first | rfl | (rcases ks with _ | _ <;> first | rfl | exact no3 h)
theorem pT (hs:(backTo pos (starEach args env)).any (·.1)=false)(hlen:args.length<30):methodCallForm (args.length+([]:List Keyword).length) (backTo pos (starEach args env)) (backToKw pos (keywordEach [] env))=true:=by
 have h1:(backTo pos (starEach args env)).all (!·.1)=true:=List.all_eq_true.mpr fun x hx=>by rw [Bool.eq_false_iff.mpr (List.any_eq_false.mp hs x hx)]; rfl
 unfold methodCallForm;rw [h1];exact decide_eq_true hlen
theorem aDk (hline:(ap.endLine==pos.line)=true):methodCallPos true o env ap pos=pure pos:=by unfold methodCallPos;rw [hline]; rfl
theorem aT {name:Str}(hb:cI o=true)(hline:(ap.endLine==pos.line)=true)(hstar:(backTo pos (starEach args env)).any (·.1)=false)(hlen:args.length<30)
  (h:wpAny (model prog w) A (eval o env) (fun ov s'1=>∀pl,wpAny (model prog w) A (getMethod ov name pl) (fun fx s'2=>wpAny (model prog w) A (callWith pos fx.1 fx.2 (backTo pos (starEach args env)) []) Q E s'2) E s'1) E s):
  wpAny (model prog w) A (eval (.Call (.Attribute o name ap) args [] pos) env) Q E s:=by
 rw [arm_eval_Call,eL hb];refine wpAny_bind (wpAny_mono h (fun ov s'1 h'1=> ?_) fun _ _ e=>e);refine wpAny_bind (wpAny_standAt ?_);unfold methodCall;rw [pT hstar hlen];refine wpAny_bind (wpAny_holding ?_);unfold calleeOf;refine wpAny_mono (h'1 _) (fun fx s'2 h'2=> ?_) fun _ _ e=>e
 exact wpAny_bind (wpAny_of_eq (aDk hline) h'2)
theorem cV {M:List Addr}(X:ClsAt (hide h M) C N mN):ClsAt h C N mN:=X.keeps fun _ _ e=>(aA.mp e).2
theorem Ev.attr (hb:cI e=true)(he:Ev g f e (.inst g.cf.c fs))(ha:x∈g.cf.ats)(h:fs.lookup x=some v):Ev g f (.Attribute e x p) v:=fun s E Q o k=>by
 obtain ⟨N,mN,hX,hga,hgt,hat,_⟩:=g.C.cls;rw [arm_eval_Attribute,eL hb];refine wpAny_bind (he s E _ o fun y s'1 o'1 d'1 k'1=>d'1.instE fun xa mA e hI hs hd=> ?_);obtain ⟨u,hu⟩:=Option.isSome_iff_exists.mp (show (mA x).isSome=true by rw [hs,h]; rfl);have d:=hd x u v hu h;subst e;exact wpAny_bind (wpAny_standAt (wpAny_bind (wpAny_holding (iG (cV (hX _ o'1.cx.sta)) hga (hat x ha).1 (hat x ha).2 (hI.keeps (uA s'1 f.M)) hu d.handed (wpAny_bind (wpAny_letTemporaryGo (wpAny_pure (k u _ (o'1.kept Kp.toks (Nat.succ_pos _)) d (k'1.trans Kp.toks)))))))))
theorem Ev.meth {m:Str}(hb:cI o=true)(hl:(ap.endLine==p.line)=true)(hn:as.length<30)(hp:wF f as)(ho:Ev g f o (.inst g.cf.c fs))(hf:(fs.lookup m).isNone=true)(h:Evs g f as vs)(e:g.cf.me m (.inst g.cf.c fs::vs)=some v):
  Ev g f (.Call (.Attribute o m ap) as [] p) v:=fun s E Q ok k=>by
 obtain ⟨N,mN,hX,hga,hgt,_,hme⟩:=g.C.cls;obtain ⟨fa,y,of,fd,hfa,hB,hfc,hfd,hfo,hct⟩:=hme m _ v e;refine aT hb hl (hp p) hn (ho s E _ ok fun y1 s'1 o'1 d'1 k'1 pl=>d'1.instE fun xa mA e hI hs hd=> ?_);have hmn:mA m=none:=Option.not_isSome_iff_eq_none.mp (by rw [hs,Option.isNone_iff_eq_none.mp hf]; exact Bool.false_ne_true)
 clear hs hd
 subst e;exact mL (cV (hX _ o'1.cx.sta)) hga hgt hfa (hfo _ o'1.cx.sta) hfc hB (hI.keeps (uA s'1 f.M)) hmn (callWith_function (o:=of) (fd:=fd) (aF (hp p) (h p s'1 E _ o'1 fun ys s'2 o'2 d'2 k'2=>
  ⟨⟨hfo _ o'2.cx.sta,hfd⟩,hct.use o'2 (.cons (o'1.den k'2 d'1) d'2) fun y s3 o'3 d'3 k'3=>k y s3 o'3 d'3 (k'1.trans (k'2.trans k'3))⟩)))
theorem aDl {C:List Expr->AV->Prop}(h:nX x as=some v)(q:∀y k1 p1 z k2 p2,(y≠z/\x.length<=2^20/\z.length<=14)->C [.Constant (.str y) k1 p1,.Constant (.str z) k2 p2] (.str (Txt.replace x y z))):C as v:=by
 rcases as with _ | ⟨e,as⟩
 ·exact no1 h
 rcases e with _ | _ | _ | _ | _ | _ | _ | _ | _ | _ | _ | _ | _ | _ | _ | _ | _ | _ | _ | ⟨k,k1,p1⟩ | _ | _ | _ | _ | _ | _ | _ <;> first | exact no1 h | skip
 rcases k with _ | _ | _ | y | _ | _ | _ | _ <;> first | exact no1 h | skip
 rcases as with _ | ⟨e,as⟩
 ·exact no1 h
 rcases e with _ | _ | _ | _ | _ | _ | _ | _ | _ | _ | _ | _ | _ | _ | _ | _ | _ | _ | _ | ⟨k,k2,p2⟩ | _ | _ | _ | _ | _ | _ | _ <;> first | exact no1 h | skip
 rcases k with _ | _ | _ | z | _ | _ | _ | _ <;> first | exact no1 h | skip
 rcases as with _ | _
 ·exact bK h fun c h=>Option.some.inj h▸q _ _ _ _ _ _ c
 ·exact no1 h
theorem Ev.replace (hb:cI o=true)(hl:(ap.endLine==p.line)=true)(hn:as.length<30)(ho:Ev g f o (.str x))(e:nX x as=some v):Ev g f (.Call (.Attribute o "replace" ap) as [] p) v:=fun s E Q ok k=>
 (aDl (C:=fun as v=>as.length<30->(∀ y s',Ok g f s'->Den (hide s'.heap f.M) y v->Kp s s'->Q y s')->wpAny (model g.prog g.w) f.A (eval (.Call (.Attribute o "replace" ap) as [] p) f.env) Q E s) e fun y k1 p1 z k2 p2 hc hn k=>by
 refine aT hb hl rfl hn (ho s E _ ok fun y1 s'1 o'1 d'1 kk1 pl=>d'1.strE fun t e=> ?_);subst e;refine GM.replace (callWith_builtin rfl (aF rfl (spliced_cons (wpAny_Constant_str (k:=k1) (pos:=p1) (spliced_cons (wpAny_Constant_str (k:=k2) (pos:=p2) (spliced_nil ?_)))))));exact use (o'1.kept Kp.toks (Nat.succ_pos _)) (SC.replaceW (Nat.ne_of_gt o'1.ht) (Nat.succ_ne_zero _) (Nat.ne_of_lt (Nat.lt_succ_self _)) (beq_eq_false_iff_ne.mpr hc.1) hc.2.1 hc.2.2 fun t' k'=>⟨.str _ _,dB.toks⟩) fun y s'2 o'2 d'2 k'2=>k y s'2 o'2 d'2 (kk1.trans (Kp.toks.trans k'2))) hn k
theorem mO {b:Bool}{P:Prop}(h:pH v=some b)(q:v= .bool b->P):P:=by
 rcases v with _ | _ | _ | _ | _ | _ | _ | _ | _ | _ <;> first | exact no1 h | exact q (congrArg _ (Option.some.inj h))
theorem EvB.compare {l r:Expr}{op:CmpOp}{a b:AV}{z:Bool}(hl:Ev g f l a)(hr:Ev g f r b)(h:cmp op a b=some z)(hq:odd r=false):EvB g f (isTrue (.Compare l [op] [r] p) f.env (eval (.Compare l [op] [r] p) f.env)) z:=fun s E Q o q=>
 wpAny_isTrue_Compare1 (hl s E _ o fun x s'1 o'1 d'1 k'1=>hr s'1 E _ o'1 fun y s'2 o'2 d'2 k'2=>
  use o'2 (pM o'2.u300 h (o'1.den k'2 d'1) d'2) fun y s3 o'3 d'3 k'3=>d'3.bool_inv▸wpAny_truthy_bool (q z s3 o'3 rfl (k'1.trans (k'2.trans k'3)))) (pR hq)
theorem EvB.value {z:Bool}(h:Ev g f e (.bool z))(hs:∀{Q:Bool->Shared->Prop}{s:Shared},wpAny (model g.prog g.w) f.A (eval e f.env) (fun v s'=>wpAny (model g.prog g.w) f.A (truthy v) Q E s') E s->wpAny (model g.prog g.w) f.A (isTrue e f.env (eval e f.env)) Q E s):
  ∀(s:Shared) (Q:Bool->Shared->Prop),Ok g f s->(∀ y s',Ok g f s'->y=z->Kp s s'->Q y s')->wpAny (model g.prog g.w) f.A (isTrue e f.env (eval e f.env)) Q E s:=fun s Q o q=>
 hs (h s E _ o fun y s'1 o'1 d'1 k'1=>d'1.bool_inv▸wpAny_truthy_bool (q z s'1 o'1 rfl k'1))
theorem uE {e2:Expr}{z b:Bool}(h:Ev g f e (.bool z))(h2:z=true->Run g f (boolOp pos .And (evalEach (e2::es) f.env)) fun h y=>Den (hide h f.M) y (.bool b))(hz:z=false->b=false):
  Run g f (boolOp pos .And (evalEach (e::e2::es) f.env)) fun h y=>Den (hide h f.M) y (.bool b):=fun s E Q o q=>by
 show wpAny _ f.A (do
  let v <-eval e f.env
  standAt pos
  let t <-holding [v] (truthy v)
  match BoolOp.And,t with
  | .And,false | .Or,true=>pure v
  | _,_=>boolOp pos .And (evalEach (e2::es) f.env)) _ _ s
 refine wpAny_bind (h s E _ o fun y s'1 o'1 d'1 k'1=> ?_);rw [d'1.bool_inv];refine wpAny_bind (wpAny_standAt (wpAny_bind (wpAny_holding (wpAny_truthy_bool ?_))))
 rcases z with _ | _
 ·exact wpAny_pure (q _ _ o'1 (hz rfl▸ .bool _) k'1)
 ·exact h2 rfl s'1 E _ o'1 fun y s'2 o'2 d'2 k'2=>q y s'2 o'2 d'2 (k'1.trans k'2)
theorem zO {e2:Expr}{z b:Bool}(h:Ev g f e (.bool z))(h2:z=false->Run g f (boolOp pos .Or (evalEach (e2::es) f.env)) fun h y=>Den (hide h f.M) y (.bool b))(hz:z=true->b=true):
  Run g f (boolOp pos .Or (evalEach (e::e2::es) f.env)) fun h y=>Den (hide h f.M) y (.bool b):=fun s E Q o q=>by
 show wpAny _ f.A (do
  let v <-eval e f.env
  standAt pos
  let t <-holding [v] (truthy v)
  match BoolOp.Or,t with
  | .And,false | .Or,true=>pure v
  | _,_=>boolOp pos .Or (evalEach (e2::es) f.env)) _ _ s
 refine wpAny_bind (h s E _ o fun y s'1 o'1 d'1 k'1=> ?_);rw [d'1.bool_inv];refine wpAny_bind (wpAny_standAt (wpAny_bind (wpAny_holding (wpAny_truthy_bool ?_))))
 rcases z with _ | _
 ·exact h2 rfl s'1 E _ o'1 fun y s'2 o'2 d'2 k'2=>q y s'2 o'2 d'2 (k'1.trans k'2)
 ·exact wpAny_pure (q _ _ o'1 (hz rfl▸ .bool _) k'1)
noncomputable def gO (env:Env)(es:List Expr)(b:Bool):Sem Bool:=forIn es b fun c r=>if r=true then do let ok <-isTrue c env (eval c env); pure (ForInStep.yield ok) else pure (ForInStep.yield r)
theorem kH {Q:Bool->Shared->Prop}(q:Q false s):∀es:List Expr,wpAny (model prog w) A (gO env es false) Q E s
 | []=>wpAny_pure q
 | e::es=>by
  unfold gO;rw [List.forIn_cons];exact wpAny_bind (wpAny_pure (kH q es))
theorem mP {z b:Bool}(h:EvB g f (isTrue e f.env (eval e f.env)) z)(h2:z=true->EvB g f (gO f.env es true) b)(hz:z=false->b=false):EvB g f (gO f.env (e::es) true) b:=fun s E Q o q=>by
 unfold gO;rw [List.forIn_cons];refine wpAny_bind (wpAny_bind (h s E _ o fun y s'1 o'1 e k'1=>wpAny_pure ?_));subst e
 rcases y with _ | _
 ·exact kH (q false s'1 o'1 (hz rfl).symm k'1) es
 ·exact h2 rfl s'1 E _ o'1 fun y s'2 o'2 e k'2=>q y s'2 o'2 e (k'1.trans k'2)
theorem zP {z b:Bool}(h:EvB g f (isTrue e f.env (eval e f.env)) z)(h2:z=true->EvB g f (allTrue .And es f.env) b)(hz:z=false->b=false):EvB g f (allTrue .And (e::es) f.env) b:=fun s E Q o q=>
 wpAny_allTrue_And_cons (h s E _ o fun y s'1 o'1 e k'1=>by
  subst e
  rcases y with _ | _
  ·exact q false s'1 o'1 (hz rfl).symm k'1
  ·exact h2 rfl s'1 E _ o'1 fun y s'2 o'2 e k'2=>q y s'2 o'2 e (k'1.trans k'2))
theorem aFp {z b:Bool}(h:EvB g f (isTrue e f.env (eval e f.env)) z)(h2:z=false->EvB g f (allTrue .Or es f.env) b)(hz:z=true->b=true):EvB g f (allTrue .Or (e::es) f.env) b:=fun s E Q o q=>
 wpAny_allTrue_Or_cons (h s E _ o fun y s'1 o'1 e k'1=>by
  subst e
  rcases y with _ | _
  ·exact h2 rfl s'1 E _ o'1 fun y s'2 o'2 e k'2=>q y s'2 o'2 e (k'1.trans k'2)
  ·exact q true s'1 o'1 (hz rfl).symm k'1)
end
set_option genInjectivity false
set_option genSizeOfSpec false
theorem aQ {env:Env}{x:Str}{k:NameKind}:∀{names:List (Str × NameKind)},names.lookup x=some k->
  (names.map fun (n,k)=>if (k==NameKind.free&&env.scope.kind== .function&&env.kindOf n==some .cell) then (n,NameKind.cell) else (n,k)).lookup x=
   some (if (k==NameKind.free&&env.scope.kind== .function&&env.kindOf x==some .cell) then .cell else k)
 | [],h=>no1 h
 | (n,k')::r,h=>by
  have ih:= @aQ env x k r;rw [List.map_cons]
  rcases hx:x==n with _ | _
  ·rw [List.lookup_cons,hx] at h
   by_cases q:(k'==NameKind.free&&env.scope.kind== .function&&env.kindOf n==some .cell)=true
   ·dsimp only;rw [if_pos q,List.lookup_cons,hx]; exact ih h
   ·dsimp only;rw [if_neg q,List.lookup_cons,hx]; exact ih h
  ·obtain rfl:x=n:=by simpa using hx
   rw [List.lookup_cons,hx] at h;obtain rfl:=Option.some.inj h
   by_cases q:(k'==NameKind.free&&env.scope.kind== .function&&env.kindOf x==some .cell)=true
   ·dsimp only;rw [if_pos q,if_pos q,List.lookup_cons,hx]
   ·dsimp only;rw [if_neg q,if_neg q,List.lookup_cons,hx]
theorem iY {cl:List (Str × Addr)}{Q:Env->Shared->Prop}
  (h:Q {scope:=csc,locals:=s.heap.objs.size,globals:=env.globals,cells:=cellsFrom (s.heap.objs.size+1) csc.names cl,qual:=env.qual,func:=none,code:=env.code,frame:=env.frame,builtins:=env.builtins}
   {s with heap:=pushCells (s.heap.push {cls:= .type "dict",data:= .dict #[]}) csc.names}):
  wpAny (model prog w) A (newFunctionEnv csc env.globals cl [] env.qual none .none (some env)) Q E s:=by
 simp only [newFunctionEnv,Option.isSome_some,if_true];refine wpAny_bind (wpAny_alloc ?_);refine wpAny_bind (wpAny_layCells _ (fun name kind cells=>by rcases hkc:kind==NameKind.cell with _ | _ <;> simp [hkc]) _ _ _ _ ?_);rw [show ({s with heap:=s.heap.push {cls:= .type "dict",data:= .dict #[]}}:Shared).heap.objs.size=s.heap.objs.size+1 from Heap.size_push ..];exact wpAny_bind (wpAny_pure (wpAny_pure h))
def lZ (cenv:Env)(h:Heap)(x:Str)(c:Addr):Prop:=
 (cenv.kindOf x=some .local/\c=cenv.locals/\∃m,h.Ns cenv.locals m)\/(cenv.kindOf x=some .cell/\cenv.cells.lookup x=some c/\∃v,h.IsCell c v)
theorem lZ.ex {cenv:Env}(b:lZ cenv h x c):∃o,h.get? c=some o:=
 b.elim (fun b=>b.2.1▸b.2.2.elim fun _ h=>h.imp fun _ h=>h.elim fun _ h=>h.elim fun _ h=>h.1) fun b=>b.2.2.elim fun _ h=>h.imp fun _ h=>h.1
theorem lZ.keep {cenv:Env}(b:lZ cenv h x c)(k:∀o,h.get? c=some o->h'.get? c=some o):lZ cenv h' x c:=
 b.imp (fun b=>⟨b.1,b.2.1,b.2.2.imp fun _ hn=>hn.at' (b.2.1▸k)⟩) fun b=>⟨b.1,b.2.1,b.2.2.imp fun _ hi=>hi.imp fun _ hi=>⟨k _ hi.1,hi.2⟩⟩
theorem wG {cenv:Env}{v:Value}{Q:Unit->Shared->Prop}(hk:cenv.scope.kind= .function)(b:lZ cenv s.heap x c)
  (h:∀h' tk,lZ cenv h' x c->aY cenv h' x v->Heap.SameBut c s.heap h'->Q () {s with heap:=h',toks:=tk}):wpAny (model prog w) A (storeName cenv x v) Q E s:=by
 rcases b with ⟨q,rfl,m,hn⟩ | ⟨q,q2,u,hc⟩
 ·exact wpAny_storeName_local q hn (fun h' hn' hs=>h h' _ (.inl ⟨q,rfl,_,hn'⟩) (.inl ⟨q,_,hn',if_pos rfl⟩) hs) (by rw [hk]; rfl)
 ·exact wpAny_storeName_cell hk q q2 hc fun h' hc' hs=>h h' s.toks (.inr ⟨q,q2,_,hc'⟩) (.inr (.inl ⟨q,c,q2,hc'⟩)) hs
theorem eM (ok:dM csc x=true):csc.kind= .function/\(csc.names.lookup x=some .local\/csc.names.lookup x=some .cell)/\(∀ y∈csc.names,(y.2= .local->csc.names.lookup y.1=some .local)/\(y.2= .cell->y.1=x)/\(y.2= .free->csc.names.lookup y.1=some .free/\(y.1==("__classdict__":Str))=false)):=by
 unfold dM at ok;simp only [Bool.and_eq_true,Bool.or_eq_true,List.all_eq_true,beq_iff_eq,bne_iff_ne,ne_eq] at ok;exact ⟨ok.1.1.1,ok.1.1.2,fun y hy=>⟨(ok.1.2 y hy).1.1.resolve_left∘not_not_intro,(ok.1.2 y hy).1.2.resolve_left∘not_not_intro,fun q=>((ok.1.2 y hy).2.resolve_left (not_not_intro q)).imp id beq_eq_false_iff_ne.mpr⟩⟩
structure CE (env cenv:Env)(csc:Scope)(x:Str):Prop where
 kind:cenv.scope.kind= .function
 globals:cenv.globals=env.globals
 builtins:cenv.builtins=env.builtins
 nm:pP csc cenv
 cells:∀y c,csc.names.lookup y=some .free->y≠x->env.cells.lookup y=some c->cenv.cells.lookup y=some c
 free:∀y,csc.names.lookup y=some .free->cenv.kindOf y=some .cell\/(cenv.kindOf y=some .free/\(y==("__classdict__":Str))=false)
theorem uF {L:Nat}{cl:List (Str × Addr)}(ok:dM csc x=true)(hcl:∀y,csc.names.lookup y=some .free->cl.lookup y=env.cells.lookup y):
  CE env {scope:=relabel csc env,locals:=L,globals:=env.globals,cells:=cellsFrom n csc.names cl,qual:=env.qual,func:=none,code:=env.code,frame:=env.frame,builtins:=env.builtins} csc x where
 kind:=(eM ok).1
 globals:=rfl
 builtins:=rfl
 nm:=⟨fun y hy=>(aQ hy).trans (by simp),fun y hy=>(aQ hy).trans (by simp),fun y hy=>(aQ hy).trans (by simp),fun y hy=>by
  have:=aQ (env:=env) hy
  by_cases q:(NameKind.free==NameKind.free&&env.scope.kind== .function&&env.kindOf y==some .cell)=true
  ·rw [if_pos q] at this;exact .inl this
  ·rw [if_neg q] at this;exact .inr this⟩
 cells:=fun y c hy hyx e=>(dS _ _ _ fun p hp hpk q=>hyx (q.symm.trans (((eM ok).2.2 p hp).2.1 hpk))).trans ((hcl y hy).trans e)
 free:=fun y hy=>by
  have:=aQ (env:=env) hy
  by_cases q:(NameKind.free==NameKind.free&&env.scope.kind== .function&&env.kindOf y==some .cell)=true
  ·rw [if_pos q] at this;exact .inl this
  ·rw [if_neg q] at this;exact .inr ⟨this,(((eM ok).2.2 _ (mem_of_lookup hy)).2.2 rfl).2⟩
theorem gP {M X:List Addr}{a b:Shared}(k:KW X Zs a b)(fr:∀y∈X,a.heap.get? y=none)(tabs:∀y∈Zt,y∈M){v:Value}{d:AV}(h:Den (hide a.heap M) v d):Den (hide b.heap (M++X)) v d:=
 h.keeps fun p o e=>by
  have e':=aA.mp e;have hX:p∉X:=fun q=>no1 ((fr p q).symm.trans e'.2)
  exact aA.mpr ⟨fun q=>(List.mem_append.mp q).elim e'.1 hX,k.keep p o hX (fun q=>e'.1 (tabs p q)) e'.2⟩
theorem zQ {ρ:Loc}{y:Str}{u:Value}(hN:pP sc env)(hfree:cX sc ρ csc=true)(hy:csc.names.lookup y=some .free)(hb:aY env h y u):∃c,env.cells.lookup y=some c/\h.IsCell c (some u):=by
 have hc:=(List.all_eq_true.mp hfree) _ (mem_of_lookup hy);simp only [bne_self_eq_false,Bool.false_or,Bool.and_eq_true,Bool.or_eq_true,beq_iff_eq] at hc;have hk:env.kindOf y=some .cell\/env.kindOf y=some .free:=hc.2.elim (fun q=> .inl (hN.cell _ q)) fun q=>hN.free _ q
 rcases hb with ⟨q,_⟩ | ⟨_,c,h1,h2⟩ | ⟨_,_,c,h1,h2⟩
 ·exact hk.elim (fun z=>nomatch q.symm.trans z) fun z=>nomatch q.symm.trans z
 ·exact ⟨c,h1,h2⟩
 ·exact ⟨c,h1,h2⟩
theorem Cx.comp (S:aJt Sta mg mb){M X:List Addr}{a b:Shared}{cenv:Env}{ρ:Loc}{v:Value}{item:AV}(c:Cx Sta M env ρ a.heap)(k:KW X Zs a b)(fr:∀y∈X,a.heap.get? y=none)(hN:pP sc env)(hfree:cX sc ρ csc=true)(e:CE env cenv csc x)
  (bd:aY cenv b.heap x v) (dv:Den (hide b.heap (M++X)) v item) (lt:∀y∈X,∃o,b.heap.get? y=some o):Cx Sta (M++X) cenv (aZ ρ csc x item) b.heap where
 sta:=S.keeps _ _ (KW.into (KW.refl a) k fr) c.sta
 kind:=e.kind
 globals:=e.globals.trans c.globals
 builtins:=e.builtins.trans c.builtins
 vars:=fun y u hy=>iC hy (fun q hy=>⟨v,q▸bd,Option.some.inj hy▸dv⟩) fun hyx hy=>bK hy fun hyf hy=>by
  obtain ⟨u',hbu,hdu⟩:=c.vars y u hy;obtain ⟨c0,h1,h2⟩:=zQ hN hfree hyf hbu;have h3:=k.cell (S.zok _ c.sta) (fun q=>h2.elim fun o h=>no1 ((fr c0 q).symm.trans h.1)) h2;exact ⟨u',.inr ((e.free y hyf).imp (fun q=>⟨q,c0,e.cells y c0 hyf hyx h1,h3⟩) fun q=>⟨q.1,q.2,c0,e.cells y c0 hyf hyx h1,h3⟩),gP k fr c.tabs hdu⟩
 lt:=fun y hy=>(List.mem_append.mp hy).elim (fun q=>Kp.ex (KW.into (KW.refl a) k fr) (S.zok _ c.sta) (c.lt y q)) (lt y)
 tabs:=fun y hy=>List.mem_append_left _ (c.tabs y hy)
set_option genInjectivity false
set_option genSizeOfSpec false
structure CA (fp wr X:List Addr)(D C cx:Addr)(cenv:Env)(x:Str):Prop where
 eX:X=wr++[D,C,cx]
 nD:D∉fp
 nC:C∉fp
 nx:cx∉fp
 sub:∀b∈wr,b∈fp
 Dx:D≠cx
 DC:D≠C
 at':C=cenv.locals
 case:(cx=C/\cenv.kindOf x=some .local)\/C≠cx
 code:∀z∈Zs,z.1∉X/\z.2∉X
structure pA (St:Nat->Heap->Prop)(D C cx:Addr)(X M:List Addr)(cenv:Env)(x:Str)(s'2:Shared)(i:Nat)(outs:List AV)(s':Shared):Prop where
 toks:0<s'.toks
 st:St i s'.heap
 list:∃ys,s'.heap.PlainList D ys/\aO (hide s'.heap (M++X)) ys.toList outs
 slot:lZ cenv s'.heap x cx
 ns:∃m,s'.heap.Ns C m
 kw:KW X Zs s'2 s'
section
variable {I:Addr}{fp wr X M:List Addr}{P:Nat->Value->Prop}{St:Nat->Heap->Prop}{D cx:Addr}{cenv:Env}{outs:List AV}{tk:Nat}
theorem CA.memw (a:CA fp wr X D C cx cenv x){b:Addr}(h:b∈wr):b∈X:=a.eX▸List.mem_append_left _ h
theorem CA.memD (a:CA fp wr X D C cx cenv x):D∈X:=a.eX▸List.mem_append_right _ (.head _)
theorem CA.memC (a:CA fp wr X D C cx cenv x):C∈X:=a.eX▸List.mem_append_right _ (.tail _ (.head _))
theorem CA.memx (a:CA fp wr X D C cx cenv x):cx∈X:=a.eX▸List.mem_append_right _ (.tail _ (.tail _ (.head _)))
theorem zR {M X:List Addr}(k:∀b o,b∉X->h.get? b=some o->h'.get? b=some o):∀b o,(hide h (M++X)).get? b=some o->(hide h' (M++X)).get? b=some o:=
 aH (fun _ h1 h2=>absurd h1 h2) fun b o hb e=>k b o (fun q=>hb (List.mem_append_right _ q)) e
theorem wH {is:Array Value}{vs:Array Value}:Data.seq is n≠ .fields vs:=fun q=>nomatch q
theorem pA.draw (a:CA fp wr X D C cx cenv x)(v:pA St D C cx X M cenv x s'2 i outs s)(st:St (i+1) h')(k:∀b o,b∉wr->s.heap.get? b=some o->h'.get? b=some o)(ht:0<tk):pA St D C cx X M cenv x s'2 (i+1) outs {s with heap:=h',toks:=tk} where
 toks:=ht
 st:=st
 list:=v.list.imp fun _ h=>⟨h.1.at fun o e=>k _ o (fun q=>a.nD (a.sub _ q)) e,h.2.keeps (zR fun b o hb e=>k b o (fun q=>hb (a.memw q)) e)⟩
 slot:=v.slot.keep fun o e=>k _ o (fun q=>a.nx (a.sub _ q)) e
 ns:=v.ns.imp fun _ h=>h.at' fun o e=>k _ o (fun q=>a.nC (a.sub _ q)) e
 kw:=v.kw.trans (KW.out a.code fun b o hb e=>k b o (fun q=>hb (a.memw q)) e)
theorem pA.stored (a:CA fp wr X D C cx cenv x)(W:Walks prog w A I fp wr n P St)(v:pA St D C cx X M cenv x s'2 i outs s)(sl:lZ cenv h' x cx)(hs:Heap.SameBut cx s.heap h')(ht:0<tk):pA St D C cx X M cenv x s'2 i outs {s with heap:=h',toks:=tk} where
 toks:=ht
 st:=W.frame _ _ _ v.st fun b hb o e=>hs.extBut b o (fun q=>a.nx (q▸hb)) e
 list:=v.list.imp fun _ h=>⟨h.1.at fun o e=>hs.extBut _ o a.Dx e,h.2.keeps (zR fun b o hb e=>hs.extBut b o (fun q=>hb (q▸a.memx)) e)⟩
 slot:=sl
 ns:=a.case.elim (fun q=>sl.elim (fun z=>a.at'▸z.2.2) fun z=>nomatch q.2.symm.trans z.1) fun q=>v.ns.imp fun _ h=>h.at' fun o e=>hs.extBut _ o q e
 kw:=v.kw.trans (KW.out a.code fun b o hb e=>hs.extBut b o (fun q=>hb (q▸a.memx)) e)
theorem pA.kp (S:aJt Sta mg mb)(tabs:∀y∈Zt,y∈M)(W:Walks prog w A I fp wr n P St)(z:Zok Zs [] s.heap)(hfp:∀b∈fp,b∉Zt)(v:pA St D C cx X M cenv x s'2 i outs s)(k:Kp s s')(ht:0<s'.toks):pA St D C cx X M cenv x s'2 i outs s' where
 toks:=ht
 st:=W.frame _ _ _ v.st fun b hb o e=>k.get b o (hfp b hb) e
 list:=v.list.imp fun _ h=>⟨h.1.imp fun _ e=>k.get _ _ (z.not e fun _=>wH) e,h.2.keeps (k.hide fun y hy=>List.mem_append_left _ (tabs y hy))⟩
 slot:=v.slot.imp (fun b=>⟨b.1,b.2.1,b.2.2.imp fun _ h=>KW.ns k z (nomatch ·) h⟩) fun b=>⟨b.1,b.2.1,b.2.2.imp fun _ h=>KW.cell k z (nomatch ·) h⟩
 ns:=v.ns.imp fun _ h=>KW.ns k z (nomatch ·) h
 kw:=v.kw.trans k.wk
theorem pA.grow (a:CA fp wr X D C cx cenv x)(W:Walks prog w A I fp wr n P St)(v:pA St D C cx X M cenv x s'2 i outs s){ys:Array Value}{d:AV}(hd:aO (hide s.heap (M++X)) ys.toList outs)(hy:Den (hide s.heap (M++X)) y d)(hl:h'.PlainList D (ys.push y))(hs:Heap.SameBut D s.heap h'):pA St D C cx X M cenv x s'2 i (outs++[d]) {s with heap:=h'} where
 toks:=v.toks
 st:=W.frame _ _ _ v.st fun b hb o e=>hs.extBut b o (fun q=>a.nD (q▸hb)) e
 list:=⟨_,hl,(Array.toList_push (xs:=ys))▸(hd.keeps (zR fun b o hb e=>hs.extBut b o (fun q=>hb (q▸a.memD)) e)).append (.cons (hy.keeps (zR fun b o hb e=>hs.extBut b o (fun q=>hb (q▸a.memD)) e)) .nil)⟩
 slot:=v.slot.keep fun o e=>hs.extBut _ o (Ne.symm a.Dx) e
 ns:=v.ns.imp fun _ h=>h.at' fun o e=>hs.extBut _ o (Ne.symm a.DC) e
 kw:=v.kw.trans (KW.out a.code fun b o hb e=>hs.extBut b o (fun q=>hb (q▸a.memD)) e)
end
section
set_option genInjectivity false
set_option genSizeOfSpec false
variable {g:Eg}{f:Fr}
structure aFq (D C:Addr)(X M:List Addr)(s'2:Shared)(outs:List AV)(s':Shared):Prop where
 toks:0<s'.toks
 list:∃ys,s'.heap.PlainList D ys/\aO (hide s'.heap (M++X)) ys.toList outs
 ns:∃m,s'.heap.Ns C m
 kw:KW X Zs s'2 s'
theorem pA.fin {fp wr X M:List Addr}{St:Nat->Heap->Prop}{D cx:Addr}{cenv:Env}{outs:List AV}{tk:Nat}(a:CA fp wr X D C cx cenv x)(v:pA St D C cx X M cenv x s'2 i outs s)(k:∀b o,b∉wr->s.heap.get? b=some o->h'.get? b=some o)(ht:0<tk):
  aFq D C X M s'2 outs {s with heap:=h',toks:=tk} where
 toks:=ht
 list:=v.list.imp fun _ h=>⟨h.1.at fun o e=>k _ o (fun q=>a.nD (a.sub _ q)) e,h.2.keeps (zR fun b o hb e=>k b o (fun q=>hb (a.memw q)) e)⟩
 ns:=v.ns.imp fun _ h=>h.at' fun o e=>k _ o (fun q=>a.nC (a.sub _ q)) e
 kw:=v.kw.trans (KW.out a.code fun b o hb e=>k b o (fun q=>hb (a.memw q)) e)
structure aLe (fn:AV->Option (Option AV))(items vs:List AV)(V:Nat->List AV->Shared->Prop)(k:Nat)(s':Shared)(done rest outs vs':List AV):Prop where
 all:items=done++rest
 left:k=rest.length+1
 go:gE fn rest=some vs'
 so:vs=outs++vs'
 le:outs.length<=done.length
 inv:V done.length outs s'
theorem aLe.step {fn:AV->Option (Option AV)} {items done r outs vs' o z:List AV}{d:AV}{V:Nat->List AV->Shared->Prop}(l:aLe fn items vs V k s done (d::r) outs vs')(hg:gE fn r=some z)(ho:vs'=o++z)(hn:o.length<=1)(v:V (done.length+1) (outs++o) s'):
  ∃m,m<k/\∃done rest outs vs',aLe fn items vs V m s' done rest outs vs':=
 ⟨r.length+1,l.left▸Nat.lt_succ_self _,done++[d],r,outs++o,z,by rw [l.all,List.append_assoc]; rfl,rfl,hg,by rw [l.so,ho,List.append_assoc],by rw [List.length_append,List.length_append]; exact Nat.add_le_add l.le hn,by rw [List.length_append]; exact v⟩
set_option maxHeartbeats 1000000 in
theorem zS {I:Addr}{fp wr X:List Addr}{P:Nat->Value->Prop}{St:Nat->Heap->Prop}{D cx:Addr}{cenv:Env}{fn:AV->Option (Option AV)}{items:List AV}{iter:Expr}{ifs:List Expr}
  (a:CA fp wr X D C cx cenv x) (W:Walks g.prog g.w f.A I fp wr items.length P St) (hfp:∀b∈fp,b∉Zt) (tabs:∀y∈Zt,y∈f.M) (ck:cenv.scope.kind= .function) (hN:pP csc cenv) (room:bT f.A g.d) (hsz:items.length<=2^20) (hf:gE fn items=some vs)
  (hP:∀i v d s',P i v->items[i]? =some d->KW X Zs s'2 s'->Den (hide s'.heap (f.M++X)) v d)
  (hcx:∀i outs s' v d,pA St D C cx X f.M cenv x s'2 i outs s'->aY cenv s'.heap x v->Den (hide s'.heap (f.M++X)) v d->Cx g.Sta (f.M++X) cenv (aZ f.ρ csc x d) s'.heap)
  (hel:∀d r,fn d=some r->EvB g ⟨csc,cenv,aZ f.ρ csc x d,f.A,f.M++X⟩ (gO cenv ifs true) r.isSome/\∀v,r=some v->Ev g ⟨csc,cenv,aZ f.ρ csc x d,f.A,f.M++X⟩ elt v)
  (fin:∀s',aFq D C X f.M s'2 vs s'->R (.ok .next) s') (start:pA St D C cx X f.M cenv x s'2 0 [] s):
  codeAny (model g.prog g.w) f.A (.compLoop (.ListComp elt [⟨.Name x px,iter,ifs,0⟩] csc pos) 0 (.ref I) (.ref D) cenv) R s:=by
 refine codeAny_compLoop_tests (fun k s'=>∃done rest outs vs',aLe fn items vs (pA St D C cx X f.M cenv x s'2) k s' done rest outs vs') ?_ (items.length+1) ⟨[],items,[],vs,rfl,rfl,hf,rfl,Nat.le_refl _,start⟩
 rintro k s' ⟨done,rest,outs,vs',l⟩
 have v:=l.inv
 rcases rest with _ | ⟨d,r⟩
 ·have e:vs=outs:=by rw [l.so,<-Option.some.inj l.go,List.append_nil]
  subst e;exact wpAny_with_toks (n:=1) v.toks (W.done _ _ _ (by rw [l.all,List.append_nil]; exact v.st) fun h'1 tk1 k'1 t'1=>fin _ (v.fin a k'1 t'1))
 ·refine wpAny_with_toks (n:=1) v.toks (W.item done.length _ _ _ (by rw [l.all,List.length_append]; exact Nat.lt_add_of_pos_right (Nat.succ_pos _)) v.st fun y h'1 tk1 hP'1 st'1 k'1 t'1=> ?_);have v'1:=v.draw a st'1 k'1 t'1;refine wpAny_with_toks (n:=1) t'1 (wpAny_assign_Name (wG ck v'1.slot fun h'2 tk'2 sl bd hs t'2=> ?_));have v'2:=v'1.stored a W sl hs t'2;have o'2:=Ok.mk (g:=g) (f:=⟨csc,cenv,aZ f.ρ csc x d,f.A,f.M++X⟩) hN room (hcx _ _ _ _ _ v'2 bd (hP _ _ _ _ hP'1 (by rw [l.all,List.getElem?_append_right (Nat.le_refl _),Nat.sub_self]; rfl) v'2.kw)) t'2;refine aB l.go fun r' hr hf'=>(hel d r' hr).1 _ _ _ o'2 fun ok s3 o'3 e k'3=> ?_
  have v'3:=v'2.kp g.S tabs W (g.S.zok _ o'2.cx.sta) hfp k'3 o'3.ht;subst e
  rcases r' with _ | z
  ·exact l.step (o:=[]) hf' rfl (Nat.zero_le _) (by rw [List.append_nil]; exact v'3)
  ·refine aB hf' fun vr hvr e=>(hel d _ hr).2 z rfl _ _ _ o'3 fun y' s4 o'4 d4 k'4=> ?_
   have v'4:=v'3.kp g.S tabs W (g.S.zok _ o'3.cx.sta) hfp k'4 o'4.ht;obtain ⟨ys,hy1,hy2⟩:=v'4.list;refine wpAny_list_append_plain hy1 (fun h'5 hl'5 hs'5=>l.step (o:=[z]) hvr (Option.some.inj e).symm (Nat.le_refl _) (v'4.grow a W hy2 d4 hl'5 hs'5)) ?_;have h1:=hy2.1;have h2:=l.le;have h3:=congrArg List.length l.all;rw [Array.length_toList] at h1;rw [List.length_append] at h3;rw [sizeLine_eq]; lia
end
section
set_option genInjectivity false
set_option genSizeOfSpec false
variable {g:Eg}{f:Fr}
noncomputable def dU (env:Env)(csc:Scope)(cl:List (Str × Addr))(D:Addr):Env:=
 {scope:=relabel csc env,locals:=D+1,globals:=env.globals,cells:=cellsFrom (D+1+1) csc.names cl,qual:=env.qual,func:=none,code:=env.code,frame:=env.frame,builtins:=env.builtins}
noncomputable def fJ (h:Heap)(csc:Scope):Heap:=pushCells ((h.push {cls:= .type "list",dict:=none,data:= .seq ([]:List Value).toArray}).push {cls:= .type "dict",data:= .dict #[]}) csc.names
theorem dO (h:Heap)(csc:Scope)(b:Addr)(o:Obj)(e:h.get? b=some o):(fJ h csc).get? b=some o:=pushCells_keeps _ _ b o (Heap.get?_push_of_some _ (Heap.get?_push_of_some _ e))
theorem pU (h:Heap)(csc:Scope):(fJ h csc).PlainList h.objs.size #[]:=⟨0,pushCells_keeps _ _ _ _ (Heap.get?_push_of_some _ (Heap.get?_push_size _ rfl))⟩
theorem rS (h:Heap)(csc:Scope):∃m,(fJ h csc).Ns (h.objs.size+1) m:=by
 have:=Heap.Ns.new (h.push {cls:= .type "list",dict:=none,data:= .seq ([]:List Value).toArray}) (.type "dict");rw [Heap.size_push] at this;exact ⟨_,this.keeps (pushCells_keeps _ _)⟩
theorem zT {cl:List (Str × Addr)}(h:Heap)(hx:csc.names.lookup x=some .local\/csc.names.lookup x=some .cell):
  ∃cx,lZ (dU env csc cl h.objs.size) (fJ h csc) x cx/\h.objs.size<cx/\((cx=h.objs.size+1/\(dU env csc cl h.objs.size).kindOf x=some .local)\/h.objs.size+1≠cx):=by
 rcases hx with hx | hx
 ·have hl:(dU env csc cl h.objs.size).kindOf x=some .local:=(aQ hx).trans (by simp);exact ⟨_,.inl ⟨hl,rfl,rS h csc⟩,Nat.lt_succ_self _,.inl ⟨rfl,hl⟩⟩
 ·obtain ⟨cx,h1,h2,h3⟩:=fH csc.names ((h.push {cls:= .type "list",dict:=none,data:= .seq ([]:List Value).toArray}).push {cls:= .type "dict",data:= .dict #[]}) cl ⟨(x,.cell),mem_of_lookup hx,rfl,rfl⟩;rw [Heap.size_push,Heap.size_push] at h1 h2;exact ⟨cx,.inr ⟨(aQ hx).trans (by simp),h1,none,h3⟩,by exact Nat.le_of_lt h2,.inr (by exact Nat.ne_of_lt h2)⟩
theorem mQ (c:Cx g.Sta f.M f.env f.ρ s.heap)(hN:pP f.sc f.env)(hfree:cX f.sc f.ρ csc=true):∀y∈csc.names,y.2= .free->(f.env.cells.lookup y.1).isSome=true:=by
 intro y hy hk;have hc:=(List.all_eq_true.mp hfree) _ hy;rw [hk] at hc;simp only [bne_self_eq_false,Bool.false_or,Bool.and_eq_true,Bool.or_eq_true,beq_iff_eq] at hc;obtain ⟨u,hu⟩:=Option.isSome_iff_exists.mp hc.1;obtain ⟨u',hb,_⟩:=c.vars _ _ hu;have hk':f.env.kindOf y.1=some .cell\/f.env.kindOf y.1=some .free:=hc.2.elim (fun q=> .inl (hN.cell _ q)) fun q=>hN.free _ q
 rcases hb with ⟨q,_⟩ | ⟨_,c,h1,_⟩ | ⟨_,_,c,h1,_⟩
 ·exact hk'.elim (fun z=>nomatch q.symm.trans z) fun z=>nomatch q.symm.trans z
 ·rw [h1]; rfl
 ·rw [h1]; rfl
theorem pV {iter:Expr}{ifs:List Expr}{cl:List (Str × Addr)}{items:List AV}{fn:AV->Option (Option AV)}{I:Addr}{fp wr:List Addr}{P:Nat->Value->Prop}{St:Nat->Heap->Prop}{RR:Value->Addr->Result->Shared->Prop}
  (o:Ok g f s) (ok:dM csc x=true) (hcl:∀y,csc.names.lookup y=some .free->cl.lookup y=f.env.cells.lookup y) (hfree:cX f.sc f.ρ csc=true) (src:Itr g.prog g.w f.A f.M s items I fp wr P St s'2) (ht2:0<s'2.toks) (hsz:items.length<=2^20) (hf:gE fn items=some vs)
  (hel:∀cenv M' d r,fn d=some r->EvB g ⟨csc,cenv,aZ f.ρ csc x d,f.A,M'⟩ (gO cenv ifs true) r.isSome/\∀v,r=some v->Ev g ⟨csc,cenv,aZ f.ρ csc x d,f.A,M'⟩ elt v)
  (fin:∀D C X s',(∀ y∈X,s.heap.get? y=none)->D∈X->C∈X->D≠C->aFq D C X f.M s vs s'->RR (.ref D) C (.ok .next) s'):
  wpAny (model g.prog g.w) f.A (newList []) (fun acc s3=>wpAny (model g.prog g.w) f.A (newFunctionEnv csc f.env.globals cl [] f.env.qual none .none (some f.env)) (fun cenv s4=>
   codeAny (model g.prog g.w) f.A (.compStart (.ListComp elt [⟨.Name x px,iter,ifs,0⟩] csc pos) 0 (.ref I) acc {cenv with scope:=relabel csc f.env}) (RR acc cenv.locals) s4) E s3) E s'2:=by
 refine wpAny_newObj_type (iY ?_);obtain ⟨h2,tk2,rfl,k12⟩:=src.kept;have zok:=g.S.zok _ o.cx.sta;dsimp only;rw [Heap.size_push];obtain ⟨cx,sl,hlt,hcase⟩:=zT (env:=f.env) (cl:=cl) h2 (eM ok).2.1;have new:∀b,h2.objs.size<=b->h2.get? b=none:=fun b hb=>by
  rcases e:h2.get? b with _ | o
  ·rfl
  ·exact absurd (Heap.lt_size e) (Nat.not_lt.mpr hb)
 have news:∀b,h2.get? b=none->s.heap.get? b=none:=fun b hb=>by
  rcases e:s.heap.get? b with _ | o
  ·rfl
  ·exact no1 (hb.symm.trans (k12 b o e))
 have nfp:∀b,h2.objs.size<=b->b∉fp:=fun b hb q=>by
  obtain ⟨o,e⟩:=src.has b q;exact no1 ((new b hb).symm.trans e)
 have fr:∀y∈wr++[h2.objs.size,h2.objs.size+1,cx],s.heap.get? y=none:=fun y hy=>by
  rcases List.mem_append.mp hy with q | q
  ·exact src.fresh y q
  ·refine news y (new y ?_)
   rcases List.mem_cons.mp q with rfl | q
   ·exact Nat.le_refl _
   ·rcases List.mem_cons.mp q with rfl | q
    ·exact Nat.le_succ _
    ·exact List.mem_singleton.mp q▸Nat.le_of_lt hlt
 have code:∀z∈Zs,z.1∉wr++[h2.objs.size,h2.objs.size+1,cx]/\z.2∉wr++[h2.objs.size,h2.objs.size+1,cx]:=fun z hz=>by
  obtain ⟨ps,_,⟨o,_,e,_⟩,e2⟩:=zok.at' z hz;exact ⟨fun q=>no1 ((fr _ q).symm.trans e),fun q=>no1 ((fr _ q).symm.trans e2)⟩
 have a:CA fp wr (wr++[h2.objs.size,h2.objs.size+1,cx]) h2.objs.size (h2.objs.size+1) cx (dU f.env csc cl h2.objs.size) x:=
  ⟨rfl,nfp _ (Nat.le_refl _),nfp _ (Nat.le_succ _),nfp _ (Nat.le_of_lt hlt),src.W.sub,Nat.ne_of_lt hlt,Nat.ne_of_lt (Nat.lt_succ_self _),rfl,hcase,code⟩
 have start:pA St h2.objs.size (h2.objs.size+1) cx (wr++[h2.objs.size,h2.objs.size+1,cx]) f.M (dU f.env csc cl h2.objs.size) x s 0 [] {s with heap:=fJ h2 csc,toks:=tk2}:=
  ⟨ht2,src.W.frame _ _ _ src.st fun b _ o e=>dO h2 csc b o e,⟨#[],pU h2 csc,.nil⟩,sl,rS h2 csc,KW.of_keep fun b o e=>dO h2 csc b o (k12 b o e)⟩
 have ce:=uF (env:=f.env) (L:=h2.objs.size+1) (n:=h2.objs.size+1+1) ok hcl;have loop:=zS (g:=g) (f:=f) (elt:=elt) (iter:=iter) (ifs:=ifs) (px:=px) (pos:=pos) (R:=RR (.ref h2.objs.size) (h2.objs.size+1)) a src.W (fun b hb=> ?_) o.cx.tabs ce.kind ce.nm o.room hsz hf (fun i v d s' h1 h2 k=>gP k fr o.cx.tabs (src.item i v d h1 h2))
  (fun i outs s' v d inv bd dv=>o.cx.comp g.S inv.kw fr o.env hfree ce bd dv fun y hy=> ?_) (hel _ _) (fun s' c=>fin _ _ _ s' fr a.memD a.memC a.DC c) start
 ·exact codeAny_compStart_list loop (src.W.self 0 _ _ _ start.st loop)
 ·intro q
  by_cases hw:b∈wr
  ·rcases List.mem_cons.mp q with rfl | q
   ·exact (code _ (.head _)).2 (a.memw hw)
   ·exact (code _ (.tail _ (.head _))).2 (List.mem_singleton.mp q▸a.memw hw)
  ·obtain ⟨o',e⟩:=src.vis b hb hw;exact (aA.mp e).1 (o.cx.tabs b q)
 ·rcases List.mem_append.mp hy with q | q
  ·exact src.ex _ _ inv.st y q
  ·rcases List.mem_cons.mp q with rfl | q
   ·obtain ⟨_,⟨_,e⟩,_⟩:=inv.list;exact ⟨_,e⟩
   ·rcases List.mem_cons.mp q with rfl | q
    ·obtain ⟨_,o,_,_,e,_⟩:=inv.ns;exact ⟨o,e⟩
    ·exact List.mem_singleton.mp q▸inv.slot.ex
end
set_option genInjectivity false
set_option genSizeOfSpec false
section
variable {y:Str}{py:Pos}{it1 it2:Expr}{ifs:List Expr}{it acc:Value}
noncomputable abbrev two (elt:Expr)(x y:Str)(px py:Pos)(it1 it2:Expr)(ifs:List Expr)(csc:Scope)(pos:Pos):Expr:= .ListComp elt [⟨.Name x px,it1,[],0⟩,⟨.Name y py,it2,ifs,0⟩] csc pos
theorem zU:compTurn (two elt x y px py it1 it2 ifs csc pos) 0 it acc env=(do
  standAt it1.pos
  match <-pyNext it with
  | none=>pure (.done .next)
  | some v=>
   assign (.Name x px) env v
   let u <-eval it2 env
   standAt it2.pos
   let u <-foldedSetIterable it2 env u
   let _ <-runOwn (.compStart (two elt x y px py it1 it2 ifs csc pos) 1 (<- holding [u] (pyIter u)) acc env) env
   again (.compLoop (two elt x y px py it1 it2 ifs csc pos) 0 it acc env)):=by rfl
theorem zV:compTurn (two elt x y px py it1 it2 ifs csc pos) 1 it acc env=(do
  standAt it2.pos
  match <-pyNext it with
  | none=>pure (.done .next)
  | some v=>
   assign (.Name y py) env v
   let ok <-gO env ifs true
   if ok then (do let _ <-call (.builtin "list.append") [acc,<-eval elt env])
   again (.compLoop (two elt x y px py it1 it2 ifs csc pos) 1 it acc env)):=by rfl
theorem zW (h0:codeAny (model prog w) A (.compLoop (two elt x y px py it1 it2 ifs csc pos) 1 it acc env) R s)
  (h:wpAny (model prog w) A (pyIter it) (fun it' s'=>codeAny (model prog w) A (.compLoop (two elt x y px py it1 it2 ifs csc pos) 1 it' acc env) R s') (notedBy (model prog w) A env fun x s'=>R (.error x) s') s):
  codeAny (model prog w) A (.compStart (two elt x y px py it1 it2 ifs csc pos) 1 it acc env) R s:=by
 refine codeAny_of_tree ?_;show wpAny _ _ ((compStart (two elt x y px py it1 it2 ifs csc pos) 1 it acc env).onRaise (fun x=>do noteFrame x env;standAt theWindowsPlace)) _ _ s;refine wpAny_notedAt ?_;unfold compStart;show wpAny _ _ (ask >>= _) _ _ s;refine wpAny_bind (wpAny_askSetting (wpAny_ite ?_))
 split
 ·exact wpAny_bind (wpAny_pure (wpAny_pure (And.intro rfl h0)))
 ·exact wpAny_bind (wpAny_rule (wpAny_bind (wpAny_standAt (wpAny_bind (wpAny_mono h (fun it' s' h'=>wpAny_pure (And.intro rfl h')) fun _ _ x=>x)))))
abbrev fU (prog:Program)(w:World)(A:Around)(env:Env)(R:Result->Shared->Prop):Value->Shared->Prop:=notedBy (model prog w) A env fun e s'=>R (.error e) s'
theorem zX (hs:∀u,foldedSetIterable it2 env u=pure u)(I:Nat->Shared->Prop)
  (turn:∀n s,I n s->wpAny (model prog w) A (pyNext it) (fun r s'1=>match r with
   | none=>R (.ok .next) s'1
   | some v=>wpAny (model prog w) A (assign (.Name x px) env v) (fun _ s'2=>wpAny (model prog w) A (eval it2 env) (fun u s3=>wpAny (model prog w) A (pyIter u) (fun iv s4=>
     codeAny (model prog w) A (.compStart (two elt x y px py it1 it2 ifs csc pos) 1 iv acc env) (fun r s'=>match r with
      | .ok _=>∃m,m<n/\I m s'
      | .error e=>cameBackBy (model prog w) A env (fU prog w A env R) e s') s4) (fU prog w A env R) s3) (fU prog w A env R) s'2) (fU prog w A env R) s'1) (fU prog w A env R) s)
  (n:Nat) (h:I n s):codeAny (model prog w) A (.compLoop (two elt x y px py it1 it2 ifs csc pos) 0 it acc env) R s:=by
 refine codeAny_loop rfl I (fun n s hI=> ?_) n h;show wpAny _ A ((compTurn (two elt x y px py it1 it2 ifs csc pos) 0 it acc env).onRaise (fun x=>do noteFrame x env;theTreesLotGoes x)) _ _ s;refine wpAny_noted ?_;rw [zU];refine wpAny_bind (wpAny_standAt (wpAny_bind (wpAny_mono (turn n s hI) (fun r s'1 h'1=> ?_) fun _ _ h'=>h')))
 cases r with
 | none=>exact wpAny_pure h'1
 | some v=>
  refine wpAny_bind (wpAny_mono h'1 (fun _ s'2 h'2=>wpAny_bind (wpAny_mono h'2 (fun u s3 h'3=>wpAny_bind (wpAny_standAt (wpAny_bind (wpAny_of_eq (hs u) (wpAny_bind (wpAny_holding (wpAny_mono h'3 (fun iv s4 h'4=> ?_) fun _ _ h'=>h'))))))) fun _ _ h'=>h')) fun _ _ h'=>h');refine wpAny_bind (wpAny_runOwn (codeAny_mono h'4 fun r s' hr=> ?_))
  rcases r with e | f
  ·exact hr
  ·exact wpAny_pure ⟨rfl,hr⟩
theorem zY (I:Nat->Shared->Prop)
  (turn:∀n s,I n s->wpAny (model prog w) A (pyNext it) (fun r s'1=>match r with
   | none=>R (.ok .next) s'1
   | some v=>wpAny (model prog w) A (assign (.Name y py) env v) (fun _ s'2=>wpAny (model prog w) A (gO env ifs true) (fun ok s3=>
     if ok=true then wpAny (model prog w) A (eval elt env) (fun u s4=>wpAny (model prog w) A (call (.builtin "list.append") [acc,u]) (fun _ s5=>∃m,m<n/\I m s5) (fU prog w A env R) s4) (fU prog w A env R) s3
     else ∃m,m<n/\I m s3) (fU prog w A env R) s'2) (fU prog w A env R) s'1) (fU prog w A env R) s)
  (n:Nat) (h:I n s):codeAny (model prog w) A (.compLoop (two elt x y px py it1 it2 ifs csc pos) 1 it acc env) R s:=by
 refine codeAny_loop rfl I (fun n s hI=> ?_) n h;show wpAny _ A ((compTurn (two elt x y px py it1 it2 ifs csc pos) 1 it acc env).onRaise (fun x=>do noteFrame x env;theTreesLotGoes x)) _ _ s;refine wpAny_noted ?_;rw [zV];refine wpAny_bind (wpAny_standAt (wpAny_bind (wpAny_mono (turn n s hI) (fun r s'1 h'1=> ?_) fun _ _ h'=>h')))
 cases r with
 | none=>exact wpAny_pure h'1
 | some v=>
  refine wpAny_bind (wpAny_mono h'1 (fun _ s'2 h'2=>wpAny_bind (wpAny_mono h'2 (fun ok s3 h'3=> ?_) fun _ _ h'=>h')) fun _ _ h'=>h')
  cases ok with
  | false=>exact wpAny_pure ⟨rfl,h'3⟩
  | true=>exact wpAny_bind (wpAny_bind (wpAny_mono h'3 (fun u s4 h'4=>wpAny_bind (wpAny_mono h'4 (fun _ s5 h'5=>wpAny_pure (wpAny_pure ⟨rfl,h'5⟩)) fun _ _ h'=>h')) fun _ _ h'=>h'))
end
section
set_option genInjectivity false
set_option genSizeOfSpec false
variable {g:Eg}{f:Fr}
def mB (h:Heap)(D:Addr)(z:Int)(n:Nat):Prop:=∃ys,h.PlainList D ys/\ys.size=n/\∀V,aO V ys.toList (List.replicate n (.int z))
theorem mB.at {D:Addr}{z:Int}(x:mB h D z n)(k:∀o,h.get? D=some o->h'.get? D=some o):mB h' D z n:=x.imp fun _ q=>⟨q.1.at k,q.2⟩
structure DI (St:Nat->Heap->Prop)(D C:Addr)(Y:List Addr)(z:Int)(x:Str)(vx:Value)(s3:Shared)(j n:Nat)(s':Shared):Prop where
 toks:0<s'.toks
 st:St j s'.heap
 list:mB s'.heap D z n
 ns:∃m,s'.heap.Ns C m/\m x=some vx
 kw:KW Y Zs s3 s'
structure zZ (fn:AV->Option Nat)(items:List AV)(k:Nat)(V:Nat->Nat->Shared->Prop)(m:Nat)(s':Shared)(done rest:List AV)(n k':Nat):Prop where
 all:items=done++rest
 left:m=rest.length+1
 go:eD fn rest=some k'
 so:k=n+k'
 inv:V done.length n s'
theorem zZ.step {fn:AV->Option Nat}{items done r:List AV}{d:AV}{k' o z:Nat}{V:Nat->Nat->Shared->Prop}(l:zZ fn items k V m s done (d::r) n k')(hg:eD fn r=some z)(ho:o+z=k')(v:V (done.length+1) (n+o) s'):
  ∃m',m'<m/\∃done rest n k',zZ fn items k V m' s' done rest n k':=
 ⟨r.length+1,l.left▸Nat.lt_succ_self _,done++[d],r,n+o,z,by rw [l.all,List.append_assoc]; rfl,rfl,hg,by rw [l.so,<-ho,Nat.add_assoc],by rw [List.length_append]; exact v⟩
theorem aJ1 {fn:Option Bool}{r:Nat}{P:Prop}(h:aGv fn=some r)(q:∀b,fn=some b->r=(if b then 1 else 0)->P):P:=
 aB h fun b hb h=>q b hb (by rcases b with _ | _ <;> exact (Option.some.inj h).symm)
theorem Cx.put {M:List Addr}{ρ:Loc}{y:Str}{u:Value}{a:AV}(c:Cx Sta M env ρ h)(hb:aY env h y u)(hd:Den (hide h M) u a):Cx Sta M env (aGr ρ y a) h:=
 {c with vars:=fun z v e=>iC e (fun q e=>⟨u,q▸hb,Option.some.inj e▸hd⟩) fun _ e=>c.vars z v e}
theorem aAa {s3 s4:Shared}{cenv:Env}{y:Str}{py:Pos}{it1 it2:Expr}{ifs:List Expr}{X:List Addr}{D I:Addr}{vx:Value}{d:AV}{z:Int}{zk:Nat}{zp:Pos}{n0 nn:Nat}{items:List AV}{fp wr:List Addr}{P:Nat->Value->Prop}{St:Nat->Heap->Prop}
  (o:Ok g f s) (hN:pP csc cenv) (ce:CE f.env cenv csc x) (hfree:cX f.sc f.ρ csc=true) (hxl:cenv.kindOf x=some .local) (hyl:cenv.kindOf y=some .local) (hxy:x≠y) (atC:C=cenv.locals)
  (dx:Den (hide s.heap f.M) vx d) (kp3:Kp s s3) (frX:∀p∈X,s.heap.get? p=none) (exX:∀p∈X,∃o,s3.heap.get? p=some o) (DX:D∈X) (CX:C∈X) (DC:D≠C) (hns:∃m,s3.heap.Ns C m/\m x=some vx) (hl:mB s3.heap D z n0)
  (src:Itr g.prog g.w f.A (f.M++X) s3 items I fp wr P St s4) (ht4:0<s4.toks) (hsz:n0+items.length<=2^20) (hk:eD (fun u=>aGv (aCq g.cf nn csc (aGr (aZ f.ρ csc x d) y u) ifs)) items=some k) (hle:k<=items.length) (iT:∀f es b,aCq g.cf nn f.sc f.ρ es=some b->EvB g f (gO f.env es true) b)
  (fin:∀s',0<s'.toks->mB s'.heap D z (n0+k)->(∃ m,s'.heap.Ns C m)->KW (C::D::wr) Zs s3 s'->R (.ok .next) s'):
  codeAny (model g.prog g.w) f.A (.compStart (two (.Constant (.int z) zk zp) x y px py it1 it2 ifs csc pos) 1 (.ref I) (.ref D) cenv) R s4:=by
 subst atC;have zok:=g.S.zok _ o.cx.sta;have tabX:∀p∈X,p∉Zt:=fun p hp q=>(o.cx.lt p (o.cx.tabs p q)).elim fun _ e=>no1 ((frX p hp).symm.trans e)
 have wrX:∀p∈wr,p∉X:=fun p hp q=>(exX p q).elim fun _ e=>no1 ((src.fresh p hp).symm.trans e)
 have frW:∀p∈wr,s.heap.get? p=none:=fun p hp=>kp3.none zok (src.fresh p hp)
 have frY:∀p∈cenv.locals::D::wr,s.heap.get? p=none:=fun p hp=>(List.mem_cons.mp hp).elim (fun q=>q▸frX _ CX) fun hp=>(List.mem_cons.mp hp).elim (fun q=>q▸frX _ DX) (frW p)
 have code:∀z∈Zs,z.1∉cenv.locals::D::wr/\z.2∉cenv.locals::D::wr:=fun z hz=>by
  obtain ⟨ps,_,⟨o,_,e,_⟩,e2⟩:=zok.at' z hz;exact ⟨fun q=>no1 ((frY _ q).symm.trans e),fun q=>no1 ((frY _ q).symm.trans e2)⟩
 have fpX:∀b∈fp,b∉X:=fun b hb q=>by
  by_cases hw:b∈wr
  ·exact wrX b hw q
  ·obtain ⟨o,e⟩:=src.vis b hb hw;exact (aA.mp e).1 (List.mem_append_right _ q)
 have fpZ:∀b∈fp,b∉Zt:=fun b hb q=>by
  by_cases hw:b∈wr
  ·exact (kp3.ex zok (o.cx.lt b (o.cx.tabs b q))).elim fun _ e=>no1 ((src.fresh b hw).symm.trans e)
  ·obtain ⟨o',e⟩:=src.vis b hb hw;exact (aA.mp e).1 (List.mem_append_left _ (o.cx.tabs b q))
 have mC:cenv.locals∈cenv.locals::D::wr:= .head _;have mD:D∈cenv.locals::D::wr:= .tail _ (.head _);have mW:∀b∈wr,b∈cenv.locals::D::wr:=fun b hb=> .tail _ (.tail _ hb)
 have to:∀{j j' n n':Nat} {s'1:Shared} {h':Heap} {tk:Nat},DI St D cenv.locals (cenv.locals::D::wr) z x vx s3 j n s'1->St j' h'->mB h' D z n'->(∃ m,h'.Ns cenv.locals m/\m x=some vx)->(∀ b o,b∉cenv.locals::D::wr->s'1.heap.get? b=some o->h'.get? b=some o)->0<tk->
   DI St D cenv.locals (cenv.locals::D::wr) z x vx s3 j' n' {s'1 with heap:=h',toks:=tk}:=fun v st l m k t=>⟨t,st,l,m,v.kw.trans (KW.out code k)⟩
 have loop:codeAny (model g.prog g.w) f.A (.compLoop (two (.Constant (.int z) zk zp) x y px py it1 it2 ifs csc pos) 1 (.ref I) (.ref D) cenv) R s4:=by
  refine zY (fun m s'=>∃done rest n k',zZ (fun u=>aGv (aCq g.cf nn csc (aGr (aZ f.ρ csc x d) y u) ifs)) items k (fun j n s'=>n<=j/\DI St D cenv.locals (cenv.locals::D::wr) z x vx s3 j (n0+n) s') m s' done rest n k') ?_ (items.length+1)
   ⟨[],items,0,k,rfl,rfl,hk,(Nat.zero_add _).symm,Nat.le_refl _,ht4,src.st,hl.at fun o e=>src.kept.get _ _ e,hns.imp fun _ h=>⟨h.1.at' fun o e=>src.kept.get _ _ e,h.2⟩,src.kept.kp.wk⟩
  rintro m s' ⟨done,rest,n,k',l⟩
  obtain ⟨hnj,v⟩:=l.inv
  rcases rest with _ | ⟨a,r⟩
  ·have e:k=n:=by rw [l.so,<-Option.some.inj l.go,Nat.add_zero]
   refine wpAny_with_toks (n:=1) v.toks (src.W.done _ _ _ (by rw [l.all,List.append_nil]; exact v.st) fun h'1 tk1 k'1 t'1=> ?_);exact fin _ t'1 (e▸v.list.at fun o e=>k'1 _ o (fun q=>wrX _ q DX) e) (v.ns.imp fun _ h=>h.1.at' fun o e=>k'1 _ o (fun q=>wrX _ q CX) e) (v.kw.trans (KW.out code fun b o hb e=>k'1 b o (fun q=>hb (mW b q)) e))
  ·refine wpAny_with_toks (n:=1) v.toks (src.W.item done.length _ _ _ (by rw [l.all,List.length_append]; exact Nat.lt_add_of_pos_right (Nat.succ_pos _)) v.st fun yv h'1 tk1 hP'1 st'1 k'1 t'1=> ?_);have v'1:=to v st'1 (v.list.at fun o e=>k'1 _ o (fun q=>wrX _ q DX) e) (v.ns.imp fun _ h=>⟨h.1.at' fun o e=>k'1 _ o (fun q=>wrX _ q CX) e,h.2⟩) (fun b o hb e=>k'1 b o (fun q=>hb (mW b q)) e) t'1;obtain ⟨mm,hm,hmx⟩:=v'1.ns;refine wpAny_with_toks (n:=1) t'1 (wpAny_assign_Name (wpAny_storeName_local hyl hm (fun h'2 hn'2 hs'2 t'2=> ?_) (by rw [ce.kind]; rfl)));have v'2:=to v'1 (src.W.frame _ _ _ v'1.st fun b hb o e=>hs'2.extBut b o (fun q=>fpX b hb (q▸CX)) e) (v'1.list.at fun o e=>hs'2.extBut _ o DC e) ⟨_,hn'2,(if_neg hxy).trans hmx⟩ (fun b o hb e=>hs'2.extBut b o (fun q=>hb (q▸mC)) e) t'2;have kpS:=KW.into kp3 v'2.kw frY;have frX2:∀p∈X++wr,s.heap.get? p=none:=fun p hp=>(List.mem_append.mp hp).elim (frX p) (frW p)
   have cx:=(o.cx.comp g.S kpS.wk frX2 o.env hfree ce (.inl ⟨hxl,_,hn'2,(if_neg hxy).trans hmx⟩) (gP kpS.wk frX2 o.cx.tabs dx) fun p hp=> ?_).put (y:=y) (u:=yv) (a:=a) (.inl ⟨hyl,_,hn'2,if_pos rfl⟩) ((src.item _ _ _ hP'1 (by rw [l.all,List.getElem?_append_right (Nat.le_refl _),Nat.sub_self]; rfl)).keeps fun p ob e=> ?_)
   ·refine aB l.go fun r' hr hgo=>aB hgo fun z' hz hsum=>aJ1 hr fun bb hbb hrr=>iT ⟨csc,cenv,aGr (aZ f.ρ csc x d) y a,f.A,f.M++(X++wr)⟩ ifs bb hbb _ _ _ ⟨hN,o.room,cx,t'2⟩ fun ok s5 o5 e k'5=> ?_
    have v'3:DI St D cenv.locals (cenv.locals::D::wr) z x vx s3 (done.length+1) (n0+n) s5:=⟨o5.ht,src.W.frame _ _ _ v'2.st fun b hb o e=>k'5.get b o (fpZ b hb) e,v'2.list.at fun o e=>k'5.get _ o (tabX _ DX) e,v'2.ns.imp fun _ h=>⟨KW.ns k'5 (g.S.zok _ cx.sta) (nomatch ·) h.1,h.2⟩,v'2.kw.trans k'5.wk⟩;subst e
    rcases ok with _ | _
    ·exact l.step (o:=0) hz (by rw [hrr] at hsum;exact Option.some.inj hsum) ⟨Nat.le_succ_of_le hnj,v'3⟩
    ·refine wpAny_Constant_int ?_;obtain ⟨ys,hp,hsz2,hd⟩:=v'3.list;have e3:=congrArg List.length l.all;rw [List.length_append,List.length_cons] at e3;refine wpAny_list_append_plain hp (fun h'6 hl'6 hs6=>l.step (o:=1) hz (by rw [hrr] at hsum;exact Option.some.inj hsum) ⟨Nat.succ_le_succ hnj,?_⟩) (by rw [sizeLine_eq]; lia);refine ⟨Nat.succ_pos _,src.W.frame _ _ _ v'3.st fun b hb o e=>hs6.extBut b o (fun q=>fpX b hb (q▸DX)) e,⟨_,hl'6,by rw [Array.size_push,hsz2]; rfl,fun V=> ?_⟩,v'3.ns.imp fun _ h=>⟨h.1.at' fun o e=>hs6.extBut _ o (Ne.symm DC) e,h.2⟩,v'3.kw.trans (KW.out (s:=s5) (h':=h'6) code fun b o hb e=>hs6.extBut b o (fun q=>hb (q▸mD)) e)⟩;rw [Array.toList_push,<-Nat.add_assoc,List.replicate_succ'];exact (hd V).append (.cons (.int _ _) .nil)
   ·rcases List.mem_append.mp hp with q | q
    ·by_cases e1:p=cenv.locals
     ·exact e1▸hn'2.elim fun o h=>h.elim fun _ h=>h.elim fun _ h=>⟨o,h.1⟩
     ·by_cases e2:p=D
      ·exact e2▸v'2.list.elim fun _ h=>h.1.elim fun _ h=>⟨_,h⟩
      ·exact (exX p q).imp fun o e=>v'2.kw.keep p o (fun q'=>(List.mem_cons.mp q').elim e1 fun q'=>(List.mem_cons.mp q').elim e2 fun q'=>wrX p q' q) (tabX p q) e
    ·exact src.ex _ _ v'2.st p q
   ·have e':=aA.mp e;have np:p∉wr:=fun q=>no1 ((src.fresh p q).symm.trans e'.2)
    refine aA.mpr ⟨fun q=>(List.mem_append.mp q).elim (fun q=>e'.1 (List.mem_append_left _ q)) fun q=>(List.mem_append.mp q).elim (fun q=>e'.1 (List.mem_append_right _ q)) np,v'2.kw.keep p ob (fun q=> ?_) (fun q=>e'.1 (List.mem_append_left _ (o.cx.tabs p q))) e'.2⟩
    rcases List.mem_cons.mp q with rfl | q
    ·exact e'.1 (List.mem_append_right _ CX)
    ·rcases List.mem_cons.mp q with rfl | q
     ·exact e'.1 (List.mem_append_right _ DX)
     ·exact np q
 exact zW loop (src.W.self 0 _ _ _ src.st loop)
end
section
variable {g:Eg}{f:Fr}
theorem uG {iter:Expr}{ifs:List Expr}{xv:AV}{items:List AV}{fn:AV->Option (Option AV)}{use:Option (Value->Sem Unit)}
  (o:Ok g f s) (ok:dM csc x=true) (hfree:cX f.sc f.ρ csc=true) (hit:Ev g f iter xv) (hodd:odd iter=false) (hl:aV xv=some items) (hsz:items.length<=2^20) (hf:gE fn items=some vs)
  (hel:∀cenv M' d r,fn d=some r->EvB g ⟨csc,cenv,aZ f.ρ csc x d,f.A,M'⟩ (gO cenv ifs true) r.isSome/\∀v,r=some v->Ev g ⟨csc,cenv,aZ f.ρ csc x d,f.A,M'⟩ elt v)
  (fin:∀s'1 D C X s',Ok g f s'1->Kp s s'1->(∀ y∈X,s'1.heap.get? y=none)->D∈X->C∈X->D≠C->aFq D C X f.M s'1 vs s'->compPost (model g.prog g.w) f.A E use Q (.ref D) C (.ok .next) s'):
  wpAny (model g.prog g.w) f.A (comprehension (.ListComp elt [⟨.Name x px,iter,ifs,0⟩] csc pos) csc f.env (firstIterPos [⟨.Name x px,iter,ifs,0⟩] pos) (newList []) (firstAsync [⟨.Name x px,iter,ifs,0⟩]) (firstIter [⟨.Name x px,iter,ifs,0⟩] f.env) use) Q E s:=by
 obtain ⟨cl,hcl1,hcl2⟩:=iH (mQ o.cx o.env hfree);refine wpAny_comprehension_free (use:=use) rfl (fun x=>eK hodd x) hcl1 (eM ok).1 (fun y hy hk=>((eM ok).2.2 y hy).1 hk) ?_;exact hit s _ _ o fun x1 s'1 o'1 d'1 k'1=>wpAny_with_toks (n:=1) o'1.ht (bG o'1.room.handled hl d'1 fun I fp wr P St s'2 src t'2=>
  pV (RR:=fun acc C=>compPost (model g.prog g.w) f.A E use Q acc C) o'1 ok hcl2 hfree src t'2 hsz hf hel fun D C X s' fr hD hC hDC c=>fin s'1 D C X s' o'1 k'1 fr hD hC hDC c)
theorem aFq.den {D:Addr}{X M:List Addr}(c:aFq D C X M s'1 vs s')(fr:∀y∈X,s'1.heap.get? y=none)(lt:∀a∈M,∃o,s'1.heap.get? a=some o)(hD:D∈X)(hC:C∈X)(hDC:D≠C)(hs:Heap.SameBut C s'.heap h'):Den (hide h' M) (.ref D) (.list vs):=by
 obtain ⟨ys,⟨n,h1⟩,h2⟩:=c.list;refine .mkList ⟨n,aA.mpr ⟨fun q=>(lt D q).elim fun o e=>no1 ((fr D hD).symm.trans e),hs.extBut _ _ hDC h1⟩⟩ (h2.keeps fun p o e=> ?_);have e':=aA.mp e;exact aA.mpr ⟨fun q=>e'.1 (List.mem_append_left _ q),hs.extBut p o (fun q=>e'.1 (List.mem_append_right _ (q▸hC))) e'.2⟩
theorem aFq.code {D:Addr}{X M:List Addr}(c:aFq D C X M s'1 vs s')(z:Zok Zs [] s'1.heap)(fr:∀y∈X,s'1.heap.get? y=none)(hC:C∈X)(hs:Heap.SameBut C s'.heap h'):Kp s'1 {s' with heap:=h'}:=
 KW.into (KW.refl s'1) (c.kw.trans (KW.out (tk:=s'.toks) (fun z' hz=>by
  obtain ⟨ps,_,⟨o,_,e,_⟩,e2⟩:=z.at' z' hz;exact ⟨fun q=>no1 ((fr _ q).symm.trans e),fun q=>no1 ((fr _ q).symm.trans e2)⟩) fun b o hb e=>hs.extBut b o (fun q=>hb (q▸hC)) e)) fr
theorem Ev.comp {iter:Expr}{ifs:List Expr}{xv:AV}{items:List AV}{fn:AV->Option (Option AV)}
  (ok:dM csc x=true) (hfree:cX f.sc f.ρ csc=true) (hit:Ev g f iter xv) (hodd:odd iter=false) (hl:aV xv=some items) (hsz:items.length<=2^20) (hf:gE fn items=some vs)
  (hel:∀cenv M' d r,fn d=some r->EvB g ⟨csc,cenv,aZ f.ρ csc x d,f.A,M'⟩ (gO cenv ifs true) r.isSome/\∀v,r=some v->Ev g ⟨csc,cenv,aZ f.ρ csc x d,f.A,M'⟩ elt v):
  Ev g f (.ListComp elt [⟨.Name x px,iter,ifs,0⟩] csc pos) (.list vs):=fun s E Q o q=>by
 rw [eval_ListComp];refine uG (use:=none) o ok hfree hit hodd hl hsz hf hel fun s'1 D C X s' o'1 k'1 fr hD hC hDC c=>c.ns.elim fun m hm=>⟨m,hm,fun h' hs=> ?_⟩
 have k'2:=c.code (g.S.zok _ o'1.cx.sta) fr hC hs;exact q _ _ (o'1.kept k'2 c.toks) (c.den fr o'1.cx.lt hD hC hDC hs) (k'1.trans k'2)
def SE (g:Eg)(n:Nat):Prop:=∀f e v,evE g.cf n f.sc f.ρ e=some v->Ev g f e v
def SL (g:Eg)(n:Nat):Prop:=∀f es vs,jH g.cf n f.sc f.ρ es=some vs->Evs g f es vs
def SB (g:Eg)(n:Nat):Prop:=∀f op es b,evB g.cf n f.sc f.ρ op es=some b->∀pos,Run g f (boolOp pos op (evalEach es f.env)) fun h y=>Den (hide h f.M) y (.bool b)
def ST (g:Eg)(n:Nat):Prop:=∀f es b,aCq g.cf n f.sc f.ρ es=some b->EvB g f (gO f.env es true) b
def SI (g:Eg)(n:Nat):Prop:=∀f e b,evT g.cf n f.sc f.ρ e=some b->EvB g f (isTrue e f.env (eval e f.env)) b
def SA (g:Eg)(n:Nat):Prop:=∀f op es b,evA g.cf n f.sc f.ρ op es=some b->EvB g f (allTrue op es f.env) b
theorem SL.succ (iE:SE g n)(iL:SL g n):SL g (n+1):=fun f es vs h pos s E Q o q=>by
 rcases es with _ | ⟨e,es⟩
 ·obtain rfl:=Option.some.inj h;exact wpAny_items_nil (q _ _ o .nil (Kp.refl s))
 ·exact aB h fun v hv h=>aB h fun r hr h=>wpAny_items_cons (iE f e v hv s E _ o fun y s'1 o'1 d'1 k'1=>iL f es r hr pos s'1 E _ o'1 fun ys s'2 o'2 d'2 k'2=>q _ _ o'2 (Option.some.inj h▸ .cons (o'1.den k'2 d'1) d'2) (k'1.trans k'2)) (bH (cD hv))
theorem SB.succ (iE:SE g n)(iB:SB g n):SB g (n+1):=fun f op es b h pos=>by
 rcases es with _ | ⟨e,_ | ⟨e2,es⟩⟩
 ·rcases op with _ | _ <;> exact no1 h
 ·have:(evE g.cf n f.sc f.ρ e).bind pH=some b:=by rcases op with _ | _ <;> exact h
  exact aB this fun v hv ht=>mO ht fun e=>by subst e;exact iE f _ _ hv
 ·rcases op with _ | _
  ·refine aB h fun z hz h=>aB hz fun v hv ht=>mO ht fun e=> ?_
   subst e
   rcases z with _ | _
   ·exact uE (iE f _ _ hv) (fun q=>no3 q) fun _=>(Option.some.inj h).symm
   ·exact uE (iE f _ _ hv) (fun _=>iB f .And _ b h pos) fun q=>no4 q
  ·refine aB h fun z hz h=>aB hz fun v hv ht=>mO ht fun e=> ?_
   subst e
   rcases z with _ | _
   ·exact zO (iE f _ _ hv) (fun _=>iB f .Or _ b h pos) fun q=>no3 q
   ·exact zO (iE f _ _ hv) (fun q=>no4 q) fun _=>(Option.some.inj h).symm
theorem ST.succ (iI:SI g n)(iT:ST g n):ST g (n+1):=fun f es b h=>by
 rcases es with _ | ⟨e,es⟩
 ·obtain rfl:=Option.some.inj h;exact fun s E Q o q=>wpAny_pure (q _ _ o rfl (Kp.refl s))
 ·refine aB h fun z hz h=> ?_
  rcases z with _ | _
  ·exact mP (iI f e _ hz) (fun q=>no3 q) fun _=>(Option.some.inj h).symm
  ·exact mP (iI f e _ hz) (fun _=>iT f es b h) fun q=>no4 q
theorem SA.succ (iI:SI g n)(iA:SA g n):SA g (n+1):=fun f op es b h=>by
 rcases es with _ | ⟨e,es⟩
 ·rcases op with _ | _ <;> obtain rfl:=Option.some.inj h
  ·exact fun s E Q o q=>wpAny_allTrue_And_nil (q _ _ o rfl (Kp.refl s))
  ·exact fun s E Q o q=>wpAny_allTrue_Or_nil (q _ _ o rfl (Kp.refl s))
 ·rcases op with _ | _ <;> refine aB h fun z hz h=> ?_ <;> rcases z with _ | _
  ·exact zP (iI f e _ hz) (fun q=>no3 q) fun _=>(Option.some.inj h).symm
  ·exact zP (iI f e _ hz) (fun _=>iA f .And es b h) fun q=>no4 q
  ·exact aFp (iI f e _ hz) (fun _=>iA f .Or es b h) fun q=>no3 q
  ·exact aFp (iI f e _ hz) (fun q=>no4 q) fun _=>(Option.some.inj h).symm
theorem SI.succ (iE:SE g n)(iA:SA g n):SI g (n+1):=fun f e b h=>by
 rcases e with ⟨op,es,p⟩ | _ | _ | _ | _ | _ | _ | _ | _ | _ | _ | _ | _ | _ | _ | ⟨l,ops,rs,p⟩ | ⟨ce,as,ks,p⟩ | _ | _ | _ | ⟨e,x,p⟩ | _ | _ | ⟨x,p⟩ | _ | _ | _ <;> first | exact no1 h | skip
 ·exact fun s E Q o q=>wpAny_isTrue_BoolOp (iA f op es b h s E Q o q)
 ·rcases ops with _ | ⟨op,_ | _⟩ <;> first | exact no1 h | (rcases rs with _ | ⟨r,_ | _⟩ <;> first | exact no1 h | exact aB h fun a ha h=>aB h fun c hc h=> .compare (iE f _ _ ha) (iE f _ _ hc) h (cD hc))
 ·exact aB h fun v hv h=>mO h fun e=>fun s E Q o q=>EvB.value (E:=E) (e▸iE f _ _ hv) (fun hh=>wpAny_isTrue_value hh) s Q o q
 ·exact aB h fun v hv h=>mO h fun e=>fun s E Q o q=>EvB.value (E:=E) (e▸iE f _ _ hv) (fun hh=>wpAny_isTrue_value hh) s Q o q
 ·exact aB h fun v hv h=>mO h fun e=>fun s E Q o q=>EvB.value (E:=E) (e▸iE f _ _ hv) (fun hh=>wpAny_isTrue_value hh) s Q o q
end
section
set_option genInjectivity false
set_option genSizeOfSpec false
variable {g:Eg}{f:Fr}
structure EI (St:Nat->Heap->Prop)(D C:Addr)(z:Int)(s:Shared)(i n:Nat)(s':Shared):Prop where
 toks:0<s'.toks
 st:St i s'.heap
 list:mB s'.heap D z n
 ns:∃m,s'.heap.Ns C m
 kp:Kp s s'
theorem aFr {y:Str}(h:iF csc x y=true):dM csc x=true/\csc.names.lookup x=some .local/\csc.names.lookup y=some .local/\x≠y:=by
 unfold iF at h;unfold dM;simp only [Bool.and_eq_true,Bool.or_eq_true,List.all_eq_true,beq_iff_eq,bne_iff_ne,ne_eq] at h ⊢;exact ⟨⟨⟨⟨h.1.1.1.1.1.1,.inl h.1.1.1.1.1.2⟩,fun z hz=>⟨⟨((h.1.1.2 z hz).1.1),.inl (h.1.1.2 z hz).1.2⟩,(h.1.1.2 z hz).2⟩⟩,h.1.2⟩,h.1.1.1.1.1.2,h.1.1.1.1.2,h.1.1.1.2⟩
theorem uH {fn:AV->Option Bool}:∀{l:List AV} {k:Nat},eD (fun u=>aGv (fn u)) l=some k->k<=l.length
 | [],k,h=>Option.some.inj h▸Nat.le_refl _
 | a::r,k,h=>aB h fun o ho h=>aB h fun z hz e=>aJ1 ho fun b _ hb=>by
  have:=uH hz;have e:=Option.some.inj e;rw [List.length_cons,<-e,hb]
  rcases b with _ | _
  ·show 0+z<=_;lia
  ·show 1+z<=_;lia
noncomputable abbrev aAb (g:Eg)(nn:Nat)(csc:Scope)(it2:Expr)(ifs:List Expr)(x y:Str)(ρ:Loc)(v:AV):Option Nat:=
 (evE g.cf nn csc (aZ ρ csc x v) it2).bind fun b=>(aV b).bind fun l2=>if l2.length<=1000 then eD (fun u=>aGv (aCq g.cf nn csc (aGr (aZ ρ csc x v) y u) ifs)) l2 else none
theorem aDm {y:Str}{py:Pos}{it1 it2:Expr}{ifs:List Expr}{cl:List (Str × Addr)}{z:Int}{zk:Nat}{zp:Pos}{nn:Nat}{items:List AV}{I:Addr}{fp wr:List Addr}{P:Nat->Value->Prop}{St:Nat->Heap->Prop}{RR:Value->Addr->Result->Shared->Prop}
  (iE:SE g nn) (iT:ST g nn) (o:Ok g f s) (ok:iF csc x y=true) (hcl:∀y,csc.names.lookup y=some .free->cl.lookup y=f.env.cells.lookup y) (hfree:cX f.sc f.ρ csc=true) (src:Itr g.prog g.w f.A f.M s items I fp wr P St s'2) (ht2:0<s'2.toks) (hsz:items.length<=1000)
  (hf:eD (aAb g nn csc it2 ifs x y f.ρ) items=some k) (hodd:odd it2=false)
  (fin:∀D C s',s.heap.get? D=none->s.heap.get? C=none->D≠C->0<s'.toks->mB s'.heap D z k->(∃ m,s'.heap.Ns C m)->Kp s s'->RR (.ref D) C (.ok .next) s'):
  wpAny (model g.prog g.w) f.A (newList []) (fun acc s3=>wpAny (model g.prog g.w) f.A (newFunctionEnv csc f.env.globals cl [] f.env.qual none .none (some f.env)) (fun cenv s4=>
   codeAny (model g.prog g.w) f.A (.compStart (two (.Constant (.int z) zk zp) x y px py it1 it2 ifs csc pos) 0 (.ref I) acc {cenv with scope:=relabel csc f.env}) (RR acc cenv.locals) s4) E s3) E s'2:=by
 refine wpAny_newObj_type (iY ?_);obtain ⟨ok1,hx,hy,hxy⟩:=aFr ok;obtain ⟨h2,tk2,rfl,k12⟩:=src.kept;have zok:=g.S.zok _ o.cx.sta;dsimp only;rw [Heap.size_push];have new:∀b,h2.objs.size<=b->h2.get? b=none:=fun b hb=>by
  rcases e:h2.get? b with _ | o
  ·rfl
  ·exact absurd (Heap.lt_size e) (Nat.not_lt.mpr hb)
 have news:∀b,h2.get? b=none->s.heap.get? b=none:=fun b hb=>by
  rcases e:s.heap.get? b with _ | o
  ·rfl
  ·exact no1 (hb.symm.trans (k12 b o e))
 have frD:s.heap.get? h2.objs.size=none:=news _ (new _ (Nat.le_refl _));have frC:s.heap.get? (h2.objs.size+1)=none:=news _ (new _ (Nat.le_succ _));have nfp:∀b,h2.objs.size<=b->b∉fp:=fun b hb q=>by
  obtain ⟨o,e⟩:=src.has b q;exact no1 ((new b hb).symm.trans e)
 have DC:h2.objs.size≠h2.objs.size+1:=Nat.ne_of_lt (Nat.lt_succ_self _);have frX:∀p∈wr++[h2.objs.size,h2.objs.size+1],s.heap.get? p=none:=fun p hp=>(List.mem_append.mp hp).elim (src.fresh p) fun q=>(List.mem_cons.mp q).elim (fun q=>q▸frD) fun q=>List.mem_singleton.mp q▸frC
 have mD:h2.objs.size∈wr++[h2.objs.size,h2.objs.size+1]:=List.mem_append_right _ (.head _);have mC:h2.objs.size+1∈wr++[h2.objs.size,h2.objs.size+1]:=List.mem_append_right _ (.tail _ (.head _));have tabX:∀p,s.heap.get? p=none->p∉Zt:=fun p hp q=>(o.cx.lt p (o.cx.tabs p q)).elim fun _ e=>no1 (hp.symm.trans e)
 have fpZ:∀b∈fp,b∉Zt:=fun b hb q=>by
  by_cases hw:b∈wr
  ·exact tabX b (src.fresh b hw) q
  ·obtain ⟨o',e⟩:=src.vis b hb hw;exact (aA.mp e).1 (o.cx.tabs b q)
 have fpEx:∀{i:Nat} {s':Shared},St i s'.heap->Kp s s'->∀b∈fp,∃o,s'.heap.get? b=some o:=fun st k b hb=>by
  by_cases hw:b∈wr
  ·exact src.ex _ _ st b hw
  ·obtain ⟨o',e⟩:=src.vis b hb hw;exact k.ex zok ⟨o',(aA.mp e).2⟩
 have ce:=uF (env:=f.env) (L:=h2.objs.size+1) (n:=h2.objs.size+1+1) ok1 hcl;have hxl:(dU f.env csc cl h2.objs.size).kindOf x=some .local:=ce.nm.loc x hx;have hyl:(dU f.env csc cl h2.objs.size).kindOf y=some .local:=ce.nm.loc y hy;have to:∀{i i' n:Nat} {s'1:Shared} {h':Heap} {tk:Nat} {Y:List Addr},EI St h2.objs.size (h2.objs.size+1) z s i n s'1->St i' h'->mB h' h2.objs.size z n->(∃ m,h'.Ns (h2.objs.size+1) m)->(∀ p∈Y,s.heap.get? p=none)->(∀ b o,b∉Y->s'1.heap.get? b=some o->h'.get? b=some o)->0<tk->
   EI St h2.objs.size (h2.objs.size+1) z s i' n {s'1 with heap:=h',toks:=tk}:=fun v st l m fy k t=>⟨t,st,l,m,KW.into v.kp (KW.out (fun z hz=>by
    obtain ⟨ps,_,⟨o,_,e,_⟩,e2⟩:=zok.at' z hz;exact ⟨fun q=>no1 ((fy _ q).symm.trans e),fun q=>no1 ((fy _ q).symm.trans e2)⟩) k) fy⟩
 have loop:codeAny (model g.prog g.w) f.A (.compLoop (two (.Constant (.int z) zk zp) x y px py it1 it2 ifs csc pos) 0 (.ref I) (.ref h2.objs.size) (dU f.env csc cl h2.objs.size)) (RR (.ref h2.objs.size) (h2.objs.size+1)) {s with heap:=fJ h2 csc,toks:=tk2}:=by
  refine zX (fun u=>eK hodd u) (fun m s'=>∃done rest n k',zZ (aAb g nn csc it2 ifs x y f.ρ) items k (fun i n s'=>n<=1000*i/\EI St h2.objs.size (h2.objs.size+1) z s i n s') m s' done rest n k') ?_ (items.length+1)
   ⟨[],items,0,k,rfl,rfl,hf,(Nat.zero_add _).symm,Nat.zero_le _,ht2,src.W.frame _ _ _ src.st fun b _ o e=>dO h2 csc b o e,⟨#[],pU h2 csc,rfl,fun _=> .nil⟩,rS h2 csc,KW.of_keep fun b o e=>dO h2 csc b o (k12 b o e)⟩
  rintro m s' ⟨done,rest,n,k',l⟩
  obtain ⟨hnj,v⟩:=l.inv
  rcases rest with _ | ⟨a,r⟩
  ·have e:k=n:=by rw [l.so,<-Option.some.inj l.go,Nat.add_zero]
   refine wpAny_with_toks (n:=1) v.toks (src.W.done _ _ _ (by rw [l.all,List.append_nil]; exact v.st) fun h'1 tk1 k'1 t'1=> ?_);have nwD:h2.objs.size∉wr:=fun q=>nfp _ (Nat.le_refl _) (src.W.sub _ q)
   have nwC:h2.objs.size+1∉wr:=fun q=>nfp _ (Nat.le_succ _) (src.W.sub _ q)
   exact fin _ _ _ frD frC DC t'1 (e▸v.list.at fun o e=>k'1 _ o nwD e) (v.ns.imp fun _ h=>h.at' fun o e=>k'1 _ o nwC e) (KW.into v.kp (KW.out (fun z hz=>by
    obtain ⟨ps,_,⟨o,_,e,_⟩,e2⟩:=zok.at' z hz;exact ⟨fun q=>no1 ((src.fresh _ q).symm.trans e),fun q=>no1 ((src.fresh _ q).symm.trans e2)⟩) k'1) src.fresh)
  ·refine wpAny_with_toks (n:=1) v.toks (src.W.item done.length _ _ _ (by rw [l.all,List.length_append]; exact Nat.lt_add_of_pos_right (Nat.succ_pos _)) v.st fun yv h'1 tk1 hP'1 st'1 k'1 t'1=> ?_);have nwD:h2.objs.size∉wr:=fun q=>nfp _ (Nat.le_refl _) (src.W.sub _ q)
   have nwC:h2.objs.size+1∉wr:=fun q=>nfp _ (Nat.le_succ _) (src.W.sub _ q)
   have v'1:=to v st'1 (v.list.at fun o e=>k'1 _ o nwD e) (v.ns.imp fun _ h=>h.at' fun o e=>k'1 _ o nwC e) src.fresh k'1 t'1;obtain ⟨mm,hm⟩:=v'1.ns;refine wpAny_with_toks (n:=1) t'1 (wpAny_assign_Name (wpAny_storeName_local hxl hm (fun h'2 hn'2 hs'2 t'2=> ?_) (by rw [show (dU f.env csc cl h2.objs.size).scope.kind= .function from ce.kind]; rfl)));have v'2:=to (Y:=[h2.objs.size+1]) v'1 (src.W.frame _ _ _ v'1.st fun b hb o e=>hs'2.extBut b o (fun q=>nfp _ (Nat.le_succ _) (show h2.objs.size+1∈fp from (show b=h2.objs.size+1 from q)▸hb)) e) (v'1.list.at fun o e=>hs'2.extBut _ o DC e) ⟨_,hn'2⟩ (fun p hp=>List.mem_singleton.mp hp▸frC) (fun b o hb e=>hs'2.extBut b o (fun q=>hb (q▸ .head _)) e) t'2;have dx:=src.item _ _ _ hP'1 (by rw [l.all,List.getElem?_append_right (Nat.le_refl _),Nat.sub_self]; rfl);have exX:∀{i n:Nat} {s':Shared},EI St h2.objs.size (h2.objs.size+1) z s i n s'->∀p∈wr++[h2.objs.size,h2.objs.size+1], ∃o,s'.heap.get? p=some o:=fun v p hp=>by
    rcases List.mem_append.mp hp with q | q
    ·exact src.ex _ _ v.st p q
    ·rcases List.mem_cons.mp q with rfl | q
     ·exact v.list.elim fun _ h=>h.1.elim fun _ h=>⟨_,h⟩
     ·exact List.mem_singleton.mp q▸v.ns.elim fun m h=>h.elim fun o h=>h.elim fun _ h=>h.elim fun _ h=>⟨o,h.1⟩
   have cx:=o.cx.comp g.S v'2.kp.wk frX o.env hfree ce (.inl ⟨hxl,_,hn'2,if_pos rfl⟩) (gP v'2.kp.wk frX o.cx.tabs dx) (exX v'2);refine aB l.go fun c hc hgo=>aB hgo fun z' hz hsum=>aB hc fun b hb hc=>aB hc fun l2 hl2 hc=>bK hc fun hn2 hc=> ?_
   refine iE ⟨csc,_,aZ f.ρ csc x a,f.A,f.M++(wr++[h2.objs.size,h2.objs.size+1])⟩ it2 b hb _ _ _ ⟨ce.nm,o.room,cx,t'2⟩ fun u s3 o'3 d'3 k'3=>wpAny_with_toks (n:=1) o'3.ht (bG o'3.room.handled hl2 d'3 fun I2 fp2 wr2 P2 St2 s4 src2 t4=> ?_)
   have v'3:EI St h2.objs.size (h2.objs.size+1) z s (done.length+1) n s3:=⟨o'3.ht,src.W.frame _ _ _ v'2.st fun b hb o e=>k'3.get b o (fpZ b hb) e,v'2.list.at fun o e=>k'3.get _ o (tabX _ frD) e,v'2.ns.imp fun _ h=>KW.ns k'3 (g.S.zok _ cx.sta) (nomatch ·) h,v'2.kp.trans k'3⟩;have e3:=congrArg List.length l.all;rw [List.length_append,List.length_cons] at e3;have hc2:=uH hc;refine aAa o ce.nm ce hfree hxl hyl hxy rfl dx v'3.kp frX (exX v'3) mD mC DC ⟨_,KW.ns k'3 (g.S.zok _ cx.sta) (nomatch ·) hn'2,if_pos rfl⟩ v'3.list src2 t4 (by lia) hc hc2 iT fun s5 t5 l5 n'5 k'5=> ?_
   refine l.step (o:=c) hz (Option.some.inj hsum) ⟨by rw [Nat.mul_succ]; lia,t5,src.W.frame _ _ _ v'3.st fun b hb o e=> ?_,l5,n'5,KW.into v'3.kp k'5 fun p hp=> ?_⟩
   ·refine k'5.keep b o (fun q=> ?_) (fpZ b hb) e
    rcases List.mem_cons.mp q with rfl | q
    ·exact nfp _ (Nat.le_succ _) hb
    ·rcases List.mem_cons.mp q with rfl | q
     ·exact nfp _ (Nat.le_refl _) hb
     ·exact no1 ((src2.fresh b q).symm.trans e)
   ·rcases List.mem_cons.mp hp with rfl | q
    ·exact frC
    ·rcases List.mem_cons.mp q with rfl | q
     ·exact frD
     ·exact v'3.kp.none zok (src2.fresh p q)
 exact codeAny_compStart_list loop (src.W.self 0 _ _ _ (src.W.frame _ _ _ src.st fun b _ o e=>dO h2 csc b o e) loop)
end
section
variable {g:Eg}{f:Fr}
theorem jN (h:jH g.cf n f.sc f.ρ es=some vs):wF f es:=oA h
theorem aNi {β:Type}{c:Bool}{a b:Cl β}{ρ:Loc}{v:β}{P:Prop}(h:(if c=true then a else b).run ρ=some v)(q1:c=true->a.run ρ=some v->P)(q2:c=false->b.run ρ=some v->P):P:=by
 rcases c with _ | _
 ·exact q2 rfl h
 ·exact q1 rfl h
theorem aJ2 {β:Type}{c:Bool}{a:Cl β}{ρ:Loc}{v:β}{P:Prop}(h:(if c=true then a else iD).run ρ=some v)(q:c=true->a.run ρ=some v->P):P:=aNi h q fun _ h=>no1 h
theorem aL9 {β:Type}{c:Prop} [Decidable c] {a:Cl β}{ρ:Loc}{v:β}{P:Prop}(h:(if c then a else iD).run ρ=some v)(q:c->a.run ρ=some v->P):P:=by
 by_cases e:c
 ·rw [if_pos e] at h;exact q e h
 ·rw [if_neg e] at h;exact no1 h
theorem aMa {a b:Option AV}{P:Prop}(h:orE a b=some v)(q1:a=some v->P)(q2:b=some v->P):P:=by
 rcases a with _ | u
 ·exact q2 h
 ·exact q1 h
theorem SE.unary (iE:SE g n){op:UnaryOp}(h:evE g.cf (n+1) f.sc f.ρ (.UnaryOp op e p)=some v):Ev g f (.UnaryOp op e p) v:=by
 rcases op with _ | _ | _ | _ <;> first | exact no1 h | skip
 refine aB h fun a ha h=> ?_
 rcases a with _ | _ | i | _ | _ | _ | _ | _ | _ | _ <;> first | exact no1 h | exact Option.some.inj h▸ .minus (iE f _ _ ha)
theorem SE.cmp (iE:SE g n){l:Expr}{ops:List CmpOp}{rs:List Expr}(h:evE g.cf (n+1) f.sc f.ρ (.Compare l ops rs p)=some v):Ev g f (.Compare l ops rs p) v:=by
 rcases ops with _ | ⟨op,_ | _⟩ <;> first | exact no1 h | (rcases rs with _ | ⟨r,_ | _⟩ <;> first | exact no1 h | skip)
 exact aB h fun z hz h=>aB hz fun a ha hz=>aB hz fun b hb hz=>Option.some.inj h▸ .compare (iE f _ _ ha) (iE f _ _ hb) hz (cD hb)
theorem SE.subs (iE:SE g n){i:Expr}(h:evE g.cf (n+1) f.sc f.ρ (.Subscript e i p)=some v):Ev g f (.Subscript e i p) v:=
 aNi (show (aLd (cE g.cf n f.sc) e i).run f.ρ=some v from h) (fun hi h=>aB h fun a ha h=> .rev hi (iE f _ _ ha) h) fun _ h=>aB h fun _ ha h=>aB h fun _ hb h=> .item (iE f _ _ ha) (iE f _ _ hb) h
theorem SE.callName (iL:SL g n)(h:evE g.cf (n+1) f.sc f.ρ (.Call (.Name x q) as [] p)=some v):Ev g f (.Call (.Name x q) as [] p) v:=
 aJ2 (show (aGu g.cf f.sc (cE g.cf n f.sc) (cL g.cf n f.sc as) as p (.Name x q)).run f.ρ=some v from h) fun hc h=>aB h fun vs hvs h=>by
  rw [Bool.and_eq_true,beq_iff_eq] at hc;have hd:¬(x==("__debug__":Str))=true:=by have:=hc.2;rw [bne,Bool.not_eq_true'] at this;exact Bool.eq_false_iff.mp this
  refine aMa h (fun hb=> .bi hc.1 hd (jN hvs) (iL f _ _ hvs) hb) fun h=>aMa h (fun ht=> .ty hc.1 hd (jN hvs) (iL f _ _ hvs) ht) fun h=>aMa h (fun hf=> .fn hc.1 hd (jN hvs) (iL f _ _ hvs) hf) fun h'=> ?_
  rcases as with _ | ⟨e,as⟩
  ·have:vs=[]:=by rcases n with _ | n <;> first | exact no1 hvs | exact (Option.some.inj hvs).symm
   exact absurd this (g.C.cl x vs v h').2.1
  ·exact kF hvs fun m _ _ hm he hr _=> .cl hc.1 hd (cD he) (oA hr) (iL f _ _ hvs) h'
theorem SE.attr (iE:SE g n)(h:evE g.cf (n+1) f.sc f.ρ (.Attribute e x p)=some v):Ev g f (.Attribute e x p) v:=by
 refine aJ2 (show (if cI e=true then (⟨fun ρ=>((cE g.cf n f.sc e).run ρ).bind (aJl g.cf x)⟩:Cl AV) else iD).run f.ρ=some v from h) fun hb h=>aB h fun a ha h=> ?_
 rcases a with _ | _ | _ | _ | _ | _ | _ | ⟨c,fs⟩ | _ | _ <;> first | exact no1 h | skip
 refine bK h fun hc h1=> ?_
 rw [Bool.and_eq_true,beq_iff_eq] at hc;have ha:evE g.cf n f.sc f.ρ e=some (.inst g.cf.c fs):=hc.1▸ha;exact .attr hb (iE f _ _ ha) (by simpa using hc.2) h1
theorem SE.meth (iE:SE g n)(iL:SL g n){m:Str}(h:evE g.cf (n+1) f.sc f.ρ (.Call (.Attribute o m ap) as [] p)=some v):Ev g f (.Call (.Attribute o m ap) as [] p) v:=by
 refine aJ2 (show (aGu g.cf f.sc (cE g.cf n f.sc) (cL g.cf n f.sc as) as p (.Attribute o m ap)).run f.ρ=some v from h) fun hc h=>aB h fun a ha h=> ?_
 simp only [Bool.and_eq_true,decide_eq_true_eq] at hc
 rcases a with _ | _ | _ | x | _ | _ | _ | ⟨c,fs⟩ | _ | _ <;> first | exact no1 h | skip
 ·refine bK h fun e h1=> ?_
  rw [beq_iff_eq.mp e];exact .replace hc.1.1 hc.1.2 hc.2 (iE f _ _ ha) h1
 ·refine bK h fun hq h1=>aB h1 fun vs hvs h2=> ?_
  rw [Bool.and_eq_true,beq_iff_eq] at hq;have ha:evE g.cf n f.sc f.ρ o=some (.inst g.cf.c fs):=hq.1▸ha;exact .meth hc.1.1 hc.1.2 hc.2 (jN hvs) (iE f _ _ ha) hq.2 (iL f _ _ hvs) (hq.1▸h2)
theorem aFs {ifs:List Expr}(iE:SE g n)(iT:ST g n):∀cenv M' d r,aC7 (aCq g.cf n csc (aZ f.ρ csc x d) ifs) (evE g.cf n csc (aZ f.ρ csc x d) elt)=some r->
  EvB g ⟨csc,cenv,aZ f.ρ csc x d,f.A,M'⟩ (gO cenv ifs true) r.isSome/\∀v,r=some v->Ev g ⟨csc,cenv,aZ f.ρ csc x d,f.A,M'⟩ elt v:=fun cenv M' d r h=>
 aB h fun z hz h=>by
  rcases z with _ | _
  ·obtain rfl:=Option.some.inj h;exact ⟨iT ⟨csc,cenv,aZ f.ρ csc x d,f.A,M'⟩ ifs false hz,fun v e=>no1 e⟩
  ·refine aB h fun v hv h=> ?_
   obtain rfl:=Option.some.inj h;exact ⟨iT ⟨csc,cenv,aZ f.ρ csc x d,f.A,M'⟩ ifs true hz,fun v' e=>Option.some.inj e▸iE ⟨csc,cenv,aZ f.ρ csc x d,f.A,M'⟩ elt v hv⟩
theorem Ev.comp2 {y:Str}{py:Pos}{it1 it2:Expr}{ifs:List Expr}{z:Int}{zk:Nat}{zp:Pos}{xv:AV}{items:List AV}
  (iE:SE g n) (iT:ST g n) (ok:iF csc x y=true) (hfree:cX f.sc f.ρ csc=true) (hit:Ev g f it1 xv) (hodd:odd it1=false) (hodd2:odd it2=false) (hl:aV xv=some items) (hsz:items.length<=1000) (hf:eD (aAb g n csc it2 ifs x y f.ρ) items=some k):
  Ev g f (two (.Constant (.int z) zk zp) x y px py it1 it2 ifs csc pos) (.list (List.replicate k (.int z))):=fun s E Q o q=>by
 rw [eval_ListComp];obtain ⟨ok1,_⟩:=aFr ok;obtain ⟨cl,hcl1,hcl2⟩:=iH (mQ o.cx o.env hfree);refine wpAny_comprehension_free (use:=none) rfl (fun x=>eK hodd x) hcl1 (eM ok1).1 (fun y hy hk=>((eM ok1).2.2 y hy).1 hk) ?_;refine hit s _ _ o fun x1 s'1 o'1 d'1 k'1=>wpAny_with_toks (n:=1) o'1.ht (bG o'1.room.handled hl d'1 fun I fp wr P St s'2 src t'2=>
  aDm (RR:=fun acc C=>compPost (model g.prog g.w) f.A E none Q acc C) iE iT o'1 ok hcl2 hfree src t'2 hsz hf hodd2 fun D C s' fD fC DC t' l n k'2=>n.elim fun m hm=>⟨m,hm,fun h' hs=> ?_⟩)
 obtain ⟨ys,⟨i,hp⟩,_,hd⟩:=l;have k3:=KW.into k'2 (KW.out (W:=[C]) (h':=h') (tk:=s'.toks) (fun z hz=>by
  obtain ⟨ps,_,⟨o,_,e,_⟩,e2⟩:=(g.S.zok _ o'1.cx.sta).at' z hz;exact ⟨fun q=>no1 (fC.symm.trans (List.mem_singleton.mp q▸e)),fun q=>no1 (fC.symm.trans (List.mem_singleton.mp q▸e2))⟩) fun b o hb e=>hs.extBut b o (fun q=>hb (q▸ .head _)) e) fun p hp=>List.mem_singleton.mp hp▸fC
 exact q _ _ (o'1.kept k3 t') (.mkList ⟨i,aA.mpr ⟨fun q=>(o'1.cx.lt D q).elim fun o e=>no1 (fD.symm.trans e),hs.extBut _ _ DC hp⟩⟩ (hd _)) (k'1.trans k3)
theorem oB (h:bQ e=some x):∃p,e= .Name x p:=by
 rcases e with _ | _ | _ | _ | _ | _ | _ | _ | _ | _ | _ | _ | _ | _ | _ | _ | _ | _ | _ | _ | _ | _ | _ | ⟨y,p⟩ | _ | _ | _ <;> first | exact no1 h | exact ⟨p,by rw [Option.some.inj h]⟩
theorem aJ3 {z:Int}(h:intE e=some z):∃k p,e= .Constant (.int z) k p:=by
 rcases e with _ | _ | _ | _ | _ | _ | _ | _ | _ | _ | _ | _ | _ | _ | _ | _ | _ | _ | _ | ⟨c,k,p⟩ | _ | _ | _ | _ | _ | _ | _ <;> first | exact no1 h | skip
 rcases c with _ | _ | i | _ | _ | _ | _ | _ <;> first | exact no1 h | skip
 exact ⟨k,p,by rw [show i=z from Option.some.inj h]⟩
theorem aAc {c:Comprehension}(h:bQ c.target=some x)(h2:(c.is_async==0)=true):∃px,c=⟨.Name x px,c.iter,c.ifs,0⟩:=by
 obtain ⟨p,e⟩:=oB h
 rcases c with ⟨t,it,ifs,k⟩
 obtain rfl:k=0:=beq_iff_eq.mp h2;exact ⟨p,by rw [show t=_ from e]⟩
theorem aG4 {ρ:Loc}{gens:List Comprehension}{C:Expr->List Comprehension->AV->Prop}(h:evE cf (n+1) sc ρ (.ListComp elt gens csc p)=some v)
  (q:∀x px it ifs xv l vs,dM csc x=true->cX sc ρ csc=true->evE cf n sc ρ it=some xv->aV xv=some l->l.length<=2^20->
   gE (fun v=>aC7 (aCq cf n csc (aZ ρ csc x v) ifs) (evE cf n csc (aZ ρ csc x v) elt)) l=some vs->C elt [⟨.Name x px,it,ifs,0⟩] (.list vs))
  (q2:∀z zk zp x px y py it it2 ifs xv l k,iF csc x y=true->odd it2=false->cX sc ρ csc=true->evE cf n sc ρ it=some xv->aV xv=some l->l.length<=1000->
   eD (fun v=>(evE cf n csc (aZ ρ csc x v) it2).bind fun b=>(aV b).bind fun l2=>if l2.length<=1000 then eD (fun u=>aGv (aCq cf n csc (aGr (aZ ρ csc x v) y u) ifs)) l2 else none) l=some k->
   C (.Constant (.int z) zk zp) [⟨.Name x px,it,[],0⟩,⟨.Name y py,it2,ifs,0⟩] (.list (List.replicate k (.int z)))):C elt gens v:=by
 rcases gens with _ | ⟨c,_ | ⟨c2,_ | _⟩⟩ <;> first | exact no1 h | skip
 ·replace h:(aFj (cE cf n) (cQ cf n) sc elt csc c (bQ c.target)).run ρ=some v:=h
  rcases hx:bQ c.target with _ | x <;> rw [hx] at h
  ·exact no1 h
  refine aJ2 h fun hk h=> ?_
  rw [Bool.and_eq_true] at hk;obtain ⟨px,e⟩:=aAc hx hk.2;refine bK h fun hc h=>aB h fun xv hxv h=>aB h fun l hl h=>bK h fun hn h=>gJ h fun vs hvs e2=> ?_
  rw [e,<-e2];exact q x px _ _ xv l vs hk.1 hc hxv hl hn hvs
 ·replace h:(aFi (cE cf n) (cQ cf n) sc csc c c2 (bQ c.target) (bQ c2.target) (intE elt)).run ρ=some v:=h
  rcases hx:bQ c.target with _ | x <;> rw [hx] at h
  ·exact no1 h
  rcases hy:bQ c2.target with _ | y <;> rw [hy] at h
  ·exact no1 h
  rcases hz:intE elt with _ | z <;> rw [hz] at h
  ·exact no1 h
  refine aJ2 h fun hk h=> ?_
  rw [Bool.and_eq_true,Bool.and_eq_true,Bool.and_eq_true,Bool.and_eq_true,Bool.not_eq_true'] at hk;obtain ⟨hk,ho⟩:=hk;obtain ⟨px,e⟩:=aAc hx hk.1.1.2;obtain ⟨py,e2⟩:=aAc hy hk.1.2;obtain ⟨zk,zp,e3⟩:=aJ3 hz;refine bK h fun hc h=>aB h fun xv hxv h=>aB h fun l hl h=>bK h fun hn h=>gJ h fun k hk2 e4=> ?_
  rw [e,e2,e3,<-e4,show c.ifs=[] from List.isEmpty_iff.mp hk.2];exact q2 z zk zp x px y py _ _ _ xv l k hk.1.1.1 ho hc hxv hl hn hk2
theorem SE.succ (iE:SE g n)(iL:SL g n)(iB:SB g n)(iT:ST g n):SE g (n+1):=fun f e v h=>by
 rcases e with ⟨op,es,p⟩ | _ | ⟨l,op,r,p⟩ | _ | _ | _ | _ | _ | ⟨elt,gens,csc,p⟩ | _ | _ | _ | _ | _ | _ | _ | ⟨fe,as,ks,p⟩ | _ | _ | ⟨k,_,_⟩ | _ | _ | _ | ⟨x,p⟩ | ⟨es,p⟩ | ⟨es,k,p⟩ | _ <;> first | exact no1 h | skip
 ·exact aB h fun b hb h=>Option.some.inj h▸fun s E Q o q=>iB f op es b hb p s E Q o q
 ·exact aB h fun a ha h=>aB h fun b hb h=>(EvF.bin (iE f _ _ ha) (iE f _ _ hb) h).ev
 ·exact iE.unary h
 ·exact aG4 (C:=fun elt gens v=>Ev g f (.ListComp elt gens csc p) v) h (fun x px it ifs xv l vs h1 h2 h3 h4 h5 h6=> .comp h1 h2 (iE f _ _ h3) (cD h3) h4 h5 h6 (aFs iE iT))
   fun z zk zp x px y py it it2 ifs xv l k h1 h7 h2 h3 h4 h5 h6=> .comp2 iE iT h1 h2 (iE f _ _ h3) (cD h3) h7 h4 h5 h6
 ·exact iE.cmp h
 ·rcases ks with _ | _
  ·rcases fe with _ | _ | _ | _ | _ | _ | _ | _ | _ | _ | _ | _ | _ | _ | _ | _ | _ | _ | _ | _ | _ | _ | _ | _ | _ | _ | _ <;> first | exact no1 h | exact iE.meth iL h | exact SE.callName iL h
  ·exact no1 h
 ·exact .const h
 ·exact iE.attr h
 ·exact iE.subs h
 ·exact aNp h fun hd h=> .name hd h
 ·exact aL9 h fun hn h=>gJ h fun vs hvs e=>e▸(EvF.list hn (dT hvs) (iL f _ _ hvs)).ev
 ·exact aL9 h fun hn h=>gJ h fun vs hvs e=>e▸ .tuple hn (dT hvs) (iL f _ _ hvs)
theorem aAd (g:Eg):∀n,SE g n/\SL g n/\SB g n/\ST g n/\SI g n/\SA g n
 | 0=>⟨fun _ _ _ h=>no1 h,fun _ _ _ h=>no1 h,fun _ _ _ _ h=>no1 h,fun _ _ _ h=>no1 h,fun _ _ _ h=>no1 h,fun _ _ _ _ h=>no1 h⟩
 | n+1=>by obtain ⟨iE,iL,iB,iT,iI,iA⟩:=aAd g n;exact ⟨SE.succ iE iL iB iT,SL.succ iE iL,SB.succ iE iB,ST.succ iI iT,SI.succ iE iA,SA.succ iI iA⟩
end
section
variable {g:Eg}{f:Fr}
theorem iK (h:evE g.cf n f.sc f.ρ e=some v):Ev g f e v:=(aAd g n).1 f e v h
theorem aFt {b:Bool}(h:evT g.cf n f.sc f.ρ e=some b):EvB g f (isTrue e f.env (eval e f.env)) b:=(aAd g n).2.2.2.2.1 f e b h
theorem uI (hf:kA e=true)(h:evE g.cf n f.sc f.ρ e=some v):EvF g f e v:=by
 rcases n with _ | n
 ·exact no1 h
 rcases e with _ | _ | ⟨l,op,r,p⟩ | _ | _ | _ | _ | _ | _ | _ | _ | _ | _ | _ | _ | _ | _ | _ | _ | _ | _ | _ | _ | _ | ⟨es,p⟩ | _ | _ <;> first | exact no3 hf | skip
 ·exact aB h fun a ha h=>aB h fun b hb h=> .bin (iK ha) (iK hb) h
 ·exact aL9 h fun hn h=>gJ h fun vs hvs e=>e▸ .list hn (dT hvs) ((aAd g n).2.1 f es vs hvs)
end
set_option genInjectivity false
set_option genSizeOfSpec false
def aDn (h:Heap)(O:List Addr):Prop:=∀a∈O,∃o,h.get? a=some o/\o.cls≠ .type "tuple"
theorem aS (a:AV)(r:List AV):aN (a::r)=(flat a&&aN r):=rfl
theorem kI:∀{l:List AV} (i:Nat) (h:i<l.length),aN l=true->flat l[i]=true
 | a::r,0,_,h=>by rw [aS] at h;exact (Bool.and_eq_true_iff.mp h).1
 | a::r,i+1,hi,h=>by
  rw [aS] at h;exact kI i (Nat.lt_of_succ_lt_succ hi) (Bool.and_eq_true_iff.mp h).2
theorem Den.flat_hide {M:List Addr}(hO:aDn h O)(hd:Den (hide h M) y v):flat v=true->Den (hide h (M++O)) y v:=by
 induction hd with
 | none=>intro _;exact .none
 | bool b=>intro _;exact .bool b
 | int i t=>intro _;exact .int i t
 | str s t=>intro _;exact .str s t
 | list _ _ _ _=>intro e;exact no3 e
 | range _=>intro e;exact no3 e
 | alt s t l h=>intro _;exact .alt s t l h
 | inst _ _ _ _=>intro e;exact no3 e
 | addr a=>intro _;exact .addr a
 | tup ht hl _ ih=>
  intro e
  replace e:aN _=true:=e
  obtain ⟨o,ho,hc,hdat⟩:=ht;obtain ⟨hm,ho⟩:=aA.mp ho;refine .tup ⟨o,aA.mpr ⟨fun q=> ?_,ho⟩,hc,hdat⟩ hl fun i hi=>ih i hi (kI i hi e)
  rcases List.mem_append.mp q with q | q
  ·exact hm q
  ·obtain ⟨o',e',hn⟩:=hO _ q;exact hn (Option.some.inj (ho.symm.trans e')▸hc)
theorem aO.flat_hide {M:List Addr}(hO:aDn h O){l:List AV}(hd:aO (hide h M) ys l)(e:aN l=true):aO (hide h (M++O)) ys l:=
 ⟨hd.1,fun i y v h1 h2=>(hd.2 i y v h1 h2).flat_hide hO (by
  obtain ⟨hi,rfl⟩:=List.getElem?_eq_some_iff.mp h2;exact kI i hi e)⟩
def Nst (h:Heap)(M O:List Addr)(a:Addr)(vs:Array Value)(l:List AV):Prop:=
 ∃us l' p ws w,vs.toList=us++[.ref p]/\l=l'++[.list w]/\aO (hide h M) us l'/\p∈O/\p≠a/\h.PlainList p ws/\aO (hide h M) ws.toList w/\aN w=true
def Own (h:Heap)(M O:List Addr)(a:Addr):AV->Prop
 | .list l=>∃vs,h.PlainList a vs/\((aO (hide h M) vs.toList l/\aN l=true)\/(aN l=false/\Nst h M O a vs l))
 | _=>False
noncomputable def nst:AV->Bool
 | .list l=> !aN l
 | _=>false
theorem Own.listE {M:List Addr}{P:Prop}(o:Own h M O a v)(q:∀l vs,v= .list l->h.PlainList a vs->((aO (hide h M) vs.toList l/\aN l=true)\/(aN l=false/\Nst h M O a vs l))->P):P:=by
 rcases v with _ | _ | _ | _ | l | _ | _ | _ | _ | _ <;> first | exact o.elim | skip
 obtain ⟨vs,h1,h2⟩:=o;exact q l vs rfl h1 h2
theorem Own.up {M M' O':List Addr}(up:∀b o,(hide h M).get? b=some o->(hide h' M').get? b=some o)(ka:∀o,h.get? a=some o->h'.get? a=some o)(kp:nst v=true->∀p∈O,p≠a->p∈O'/\∀o,h.get? p=some o->h'.get? p=some o)(o:Own h M O a v):Own h' M' O' a v:=
 o.listE fun l vs e hp hd=>by
  subst e;refine ⟨vs,hp.at ka,hd.imp (fun q=>⟨q.1.keeps up,q.2⟩) fun q=>⟨q.1,?_⟩⟩;obtain ⟨us,l',p,ws,w,h1,h2,h3,h4,h5,h6,h7,h8⟩:=q.2;have k:=kp (by show (!aN l)=true;rw [q.1]; rfl) p h4 h5;exact ⟨us,l',p,ws,w,h1,h2,h3.keeps up,k.1,h5,h6.at k.2,h7.keeps up,h8⟩
theorem Own.den {M M':List Addr}(up:∀b o,(hide h M).get? b=some o->(hide h M').get? b=some o)(ha:a∉M')(hO:∀p∈O,p≠a->p∉M')(o:Own h M O a v):Den (hide h M') (.ref a) v:=
 o.listE fun l vs e hp hd=>by
  subst e;obtain ⟨n,hp⟩:=hp;refine .mkList ⟨n,aA.mpr ⟨ha,hp⟩⟩ ?_
  rcases hd with hd | ⟨_,us,l',p,⟨ws⟩,w,h1,h2,h3,h4,h5,⟨m,h6⟩,h7,_⟩
  ·exact hd.1.keeps up
  ·rw [h1,h2];exact (h3.keeps up).append (.cons (.mkList ⟨m,aA.mpr ⟨hO p h4 h5,h6⟩⟩ (h7.keeps up)) .nil)
structure Bk where
 sc:Scope
 env:Env
 A:Around
 s'0:Shared
 F:List Addr
 mu:List Str
structure aNj (g:Eg)(b:Bk):Prop where
 env:pP b.sc b.env
 room:bT b.A g.d
 sta:g.Sta b.s'0.heap
 kind:b.env.scope.kind= .function
 globals:b.env.globals=mainGlobals
 builtins:b.env.builtins=builtinsNs
 new:∀a∈b.F,b.s'0.heap.get? a=none
 loc:b.env.locals∈b.F
 cell:∀x c,b.env.cells.lookup x=some c->c∈b.F/\c≠b.env.locals
 apart:∀x y c,b.env.cells.lookup x=some c->b.env.cells.lookup y=some c->x=y
 all:∀x,b.env.kindOf x=some .cell->(b.env.cells.lookup x).isSome=true
structure Rel (g:Eg)(b:Bk)(S O:List Addr)(ρ:St)(s:Shared):Prop where
 ok:aNj g b
 kp:Kp b.s'0 s
 newO:∀a∈O,b.s'0.heap.get? a=none
 noTup:aDn s.heap O
 ex:∀a∈S++b.F++O,∃o,s.heap.get? a=some o
 apF:∀a∈O,a∉b.F
 apS:∀a∈O,a∉S
 tabs:∀y∈Zt,y∈S
 frame:∃m,s.heap.Ns b.env.locals m
 cells:∀x c,b.env.cells.lookup x=some c->∃v,s.heap.IsCell c v
 vals:∀x v,ρ x=some (.val v)->∃u,aY b.env s.heap x u/\Den (hide s.heap (S++b.F++O)) u v
 owns:∀x v,ρ x=some (.own v)->∃a,aY b.env s.heap x (.ref a)/\a∈O/\Own s.heap (S++b.F++O) O a v
 mus:∀x v,ρ x=some (.own v)->x∈b.mu/\(nst v=true->b.mu=[x])
 ownsAp:∀x y v v' a,ρ x=some (.own v)->ρ y=some (.own v')->aY b.env s.heap x (.ref a)->aY b.env s.heap y (.ref a)->x=y
theorem aFu {m m':Str->Option Value}(x:h.Ns a m)(y:h.Ns a m'):m=m':=funext fun n=>x.agree y n
theorem uJ {u v:Option Value}(x:h.IsCell c u)(y:h.IsCell c v):u=v:=by
 obtain ⟨o,ho,hd⟩:=x;obtain ⟨o',ho',hd'⟩:=y;obtain rfl:=Option.some.inj (ho.symm.trans ho');exact Data.cell.inj (hd.symm.trans hd')
theorem aY.inj {u v:Value}(a:aY env h x u)(b:aY env h x v):u=v:=by
 rcases a with ⟨q,m,hn,hm⟩ | ⟨q,c,hc,hi⟩ | ⟨q,_,c,hc,hi⟩ <;> rcases b with ⟨q',m',hn',hm'⟩ | ⟨q',c',hc',hi'⟩ | ⟨q',_,c',hc',hi'⟩ <;> first | exact absurd (q.symm.trans q') (by decide) | skip
 ·exact Option.some.inj (hm.symm.trans ((congrFun (aFu hn hn') x).trans hm'))
 ·exact Option.some.inj (uJ hi (Option.some.inj (hc'.symm.trans hc)▸hi'))
 ·exact Option.some.inj (uJ hi (Option.some.inj (hc'.symm.trans hc)▸hi'))
section
variable {g:Eg}{b:Bk}
theorem Rel.sta (R:Rel g b S O ρ s):g.Sta s.heap:=g.S.keeps _ _ R.kp R.ok.sta
theorem Rel.zok (R:Rel g b S O ρ s):Zok Zs [] s.heap:=g.S.zok _ R.sta
theorem Rel.code (R:Rel g b S O ρ s):∀z∈Zs,z.1∉b.F++O/\z.2∉b.F++O:=fun z hz=>by
 obtain ⟨ps,_,⟨o,_,e,_⟩,e2⟩:=(g.S.zok _ R.ok.sta).at' z hz;have n:∀y∈b.F++O,b.s'0.heap.get? y=none:=fun y hy=>(List.mem_append.mp hy).elim (R.ok.new y) (R.newO y)
 exact ⟨fun q=>no1 ((n _ q).symm.trans e),fun q=>no1 ((n _ q).symm.trans e2)⟩
theorem Rel.fresh (R:Rel g b S O ρ s):∀y∈b.F++O,b.s'0.heap.get? y=none:=fun y hy=>(List.mem_append.mp hy).elim (R.ok.new y) (R.newO y)
theorem Rel.sub {ρ':St}(R:Rel g b S O ρ s)(h:∀x sl,ρ' x=some sl->ρ x=some sl):Rel g b S O ρ' s:=
 {R with
  vals:=fun x v e=>R.vals x v (h _ _ e)
  owns:=fun x v e=>R.owns x v (h _ _ e)
  mus:=fun x v e=>R.mus x v (h _ _ e)
  ownsAp:=fun x y v v' a e e'=>R.ownsAp x y v v' a (h _ _ e) (h _ _ e')}
theorem Rel.step {S'1:List Addr}(R:Rel g b S'1 O ρ s)(apS:∀a∈O,a∉S)(tabs:∀y∈Zt,y∈S)(kp:Kp b.s'0 s')(ex:∀a∈S++b.F++O,∃o,s'.heap.get? a=some o)(nt:aDn s'.heap O)(up:∀p o,(hide s.heap (S'1++b.F++O)).get? p=some o->(hide s'.heap (S++b.F++O)).get? p=some o)
  (fr:∃m,s'.heap.Ns b.env.locals m) (ce:∀x c,b.env.cells.lookup x=some c->∃v,s'.heap.IsCell c v) (bd:∀x u,(ρ x).isSome=true->aY b.env s.heap x u->aY b.env s'.heap x u)
  (ow:∀x v a,ρ x=some (.own v)->aY b.env s.heap x (.ref a)->a∈O->Own s.heap (S'1++b.F++O) O a v->Own s'.heap (S++b.F++O) O a v):Rel g b S O ρ s':=
 {R with
  apS:=apS
  tabs:=tabs
  kp:=kp
  noTup:=nt
  ex:=ex
  frame:=fr
  cells:=ce
  vals:=fun x v e=>(R.vals x v e).imp fun u h=>⟨bd x u (e▸rfl) h.1,h.2.keeps up⟩
  owns:=fun x v e=>(R.owns x v e).imp fun a h=>⟨bd x _ (e▸rfl) h.1,h.2.1,ow x v a e h.1 h.2.1 h.2.2⟩
  ownsAp:=fun x y v v' a e e' h1 h2=>by
   obtain ⟨a1,g1,_,_⟩:=R.owns x v e;obtain ⟨a2,g2,_,_⟩:=R.owns y v' e';have e1:=(bd x _ (e▸rfl) g1).inj h1;have e2:=(bd y _ (e'▸rfl) g2).inj h2;exact R.ownsAp x y v v' a e e' (e1▸g1) (e2▸g2)}
theorem Rel.kept (R:Rel g b S O ρ s)(k:Kp s s'):Rel g b S O ρ s':=
 have nO:∀a∈O,a∉Zt:=fun a ha q=>R.apS a ha (R.tabs a q)
 R.step R.apS R.tabs (R.kp.trans k) (fun a ha=>k.ex R.zok (R.ex a ha)) (fun a ha=>(R.noTup a ha).imp fun o h=>⟨k.get _ _ (nO a ha) h.1,h.2⟩) (k.hide fun y hy=>List.mem_append_left _ (List.mem_append_left _ (R.tabs y hy)))
  (R.frame.imp fun _ h=>KW.ns k R.zok (nomatch ·) h) (fun x c e=>(R.cells x c e).imp fun _ h=>KW.cell k R.zok (nomatch ·) h) (fun x u _ h=>k.bound R.zok h) fun x v a _ _ ha ho=>ho.up (k.hide fun y hy=>List.mem_append_left _ (List.mem_append_left _ (R.tabs y hy))) (fun o e=>k.get _ _ (nO a ha) e) fun _ p hp _=>⟨hp,fun o e=>k.get _ _ (nO p hp) e⟩
theorem rT (e:ρ.frozen x=some v):ρ x=some (.val v):=by
 unfold St.frozen at e
 rcases h:ρ x with _ | ⟨v' | v'⟩ <;> rw [h] at e
 ·exact no1 e
 ·exact congrArg _ (congrArg _ (Option.some.inj e))
 ·exact no1 e
theorem Rel.cxFrozen (R:Rel g b S O ρ s)(ht:0<s.toks):Ok g ⟨b.sc,b.env,ρ.frozen,b.A,S++b.F++O⟩ s where
 env:=R.ok.env
 room:=R.ok.room
 ht:=ht
 cx:=⟨R.sta,R.ok.kind,R.ok.globals,R.ok.builtins,fun x v e=>R.vals x v (rT e),R.ex,fun y hy=>List.mem_append_left _ (List.mem_append_left _ (R.tabs y hy))⟩
theorem Rel.cxAll (R:Rel g b S O ρ s)(ht:0<s.toks):Ok g ⟨b.sc,b.env,ρ.all,b.A,S++b.F⟩ s where
 env:=R.ok.env
 room:=R.ok.room
 ht:=ht
 cx:=⟨R.sta,R.ok.kind,R.ok.globals,R.ok.builtins,fun x v e=>by
  have up:∀p o,(hide s.heap (S++b.F++O)).get? p=some o->(hide s.heap (S++b.F)).get? p=some o:=aH (fun p h1 h2=>absurd (List.mem_append_left _ h1) h2) fun p o _ e=>e
  refine gJ (show (ρ x).map Slot.av=some v from e) fun sl hs e=> ?_
  rcases sl with v' | v'
  ·obtain rfl:v'=v:=e;exact (R.vals x _ hs).imp fun u h=>⟨h.1,h.2.keeps up⟩
  ·obtain rfl:v'=v:=e;obtain ⟨a,h1,h2,h3⟩:=R.owns x _ hs;exact ⟨_,h1,h3.den up (fun q=>(List.mem_append.mp q).elim (R.apS a h2) (R.apF a h2)) fun p hp _ q=>(List.mem_append.mp q).elim (R.apS p hp) (R.apF p hp)⟩,fun a ha=>R.ex a (List.mem_append_left _ ha),fun y hy=>List.mem_append_left _ (R.tabs y hy)⟩
end
section
variable {g:Eg}{b:Bk}{X:List Addr}{tk:Nat}
theorem Rel.addS (R:Rel g b S O ρ s)(k:Kp s s')(fr:∀y∈X,s.heap.get? y=none)(ex:∀y∈X,∃o,s'.heap.get? y=some o):Rel g b (S++X) O ρ s':=by
 have R':=R.kept k;have nx:∀p,(∃ o,s.heap.get? p=some o)->p∉X:=fun p e q=>e.elim fun o e=>no1 ((fr p q).symm.trans e)
 have nO:∀a∈O,a∉Zt:=fun a ha q=>R.apS a ha (R.tabs a q)
 have up:∀p o,(hide s.heap (S++b.F++O)).get? p=some o->(hide s'.heap (S++X++b.F++O)).get? p=some o:=fun p o e=>by
  have e':=aA.mp e;refine aA.mpr ⟨fun q=>e'.1 ?_,(aA.mp (k.hide (M:=S++b.F++O) (fun y hy=>List.mem_append_left _ (List.mem_append_left _ (R.tabs y hy))) p o e)).2⟩;simp only [List.mem_append] at q ⊢;exact q.imp (fun q=>q.imp (fun q=>q.resolve_right (nx p ⟨o,e'.2⟩)) id) id
 refine R.step (fun a ha q=>(List.mem_append.mp q).elim (R.apS a ha) (nx a (R.ex a (List.mem_append_right _ ha)))) (fun y hy=>List.mem_append_left _ (R.tabs y hy)) R'.kp (fun a ha=> ?_) R'.noTup up R'.frame R'.cells (fun x u _ h=>k.bound R.zok h) fun x v a _ _ ha ho=>ho.up up (fun o e=>k.get _ _ (nO a ha) e) fun _ p hp _=>⟨hp,fun o e=>k.get _ _ (nO p hp) e⟩
 simp only [List.mem_append] at ha
 rcases ha with ((q | q) | q) | q
 ·exact R'.ex a (List.mem_append_left _ (List.mem_append_left _ q))
 ·exact ex a q
 ·exact R'.ex a (List.mem_append_left _ (List.mem_append_right _ q))
 ·exact R'.ex a (List.mem_append_right _ q)
theorem Rel.move {S'1:List Addr}(R:Rel g b S'1 O ρ s)(hS:∀y∈S,y∈S'1)(tabs:∀y∈Zt,y∈S)(hX:∀y∈X,y∈S'1/\y∉b.F/\b.s'0.heap.get? y=none)(ex:∀y∈X,y∈S->∃o,h'.get? y=some o)(k:∀p o,p∉X->s.heap.get? p=some o->h'.get? p=some o):Rel g b S O ρ {s with heap:=h',toks:=tk}:=by
 have cd:∀z∈Zs,z.1∉X/\z.2∉X:=fun z hz=>by
  obtain ⟨ps,_,⟨o,_,e,_⟩,e2⟩:=(g.S.zok _ R.ok.sta).at' z hz;exact ⟨fun q=>no1 ((hX _ q).2.2.symm.trans e),fun q=>no1 ((hX _ q).2.2.symm.trans e2)⟩
 have kw:KW X Zs s {s with heap:=h',toks:=tk}:=KW.out cd k;have nF:∀a∈b.F,a∉X:=fun a ha q=>(hX a q).2.1 ha
 have nO:∀a∈O,a∉X:=fun a ha q=>R.apS a ha (hX a q).1
 have sub:∀p,p∈S++b.F++O->p∈S'1++b.F++O:=fun p q=>by
  simp only [List.mem_append] at q ⊢;exact q.imp (fun q=>q.imp (hS p) id) id
 have up:∀p o,(hide s.heap (S'1++b.F++O)).get? p=some o->(hide h' (S++b.F++O)).get? p=some o:=aH (fun p h1 h2=>absurd (sub p h1) h2) fun p o hp e=>k p o (fun q=>hp (List.mem_append_left _ (List.mem_append_left _ (hX p q).1))) e
 refine R.step (fun a ha q=>R.apS a ha (hS a q)) tabs (KW.into R.kp kw fun y hy=>(hX y hy).2.2) (fun a ha=> ?_) (fun a ha=>(R.noTup a ha).imp fun o h=>⟨k _ _ (nO a ha) h.1,h.2⟩) up
  (R.frame.imp fun _ h=>kw.ns R.zok (nF _ R.ok.loc) h) (fun x c e=>(R.cells x c e).imp fun _ h=>kw.cell R.zok (nF _ (R.ok.cell x c e).1) h) (fun x u _ h=>h.kw kw R.zok (nF _ R.ok.loc) fun c e=>nF _ (R.ok.cell x c e).1) fun x v a _ _ ha ho=>ho.up up (fun o e=>k _ _ (nO a ha) e) fun _ p hp _=>⟨hp,fun o e=>k _ _ (nO p hp) e⟩
 by_cases q:a∈X
 ·rcases List.mem_append.mp ha with z | z
  ·exact (List.mem_append.mp z).elim (ex a q) fun z=>absurd q (nF a z)
  ·exact absurd q (nO a z)
 ·exact (R.ex a (sub a ha)).imp fun o e=>k a o q e
def pW (b:Bk)(ρ:St)(h:Heap)(M O:List Addr)(x:Str)(y:Value):Slot->Prop
 | .val v=>Den (hide h M) y v
 | .own v=>∃a,y= .ref a/\a∈O/\Own h M O a v/\(∀ z v',z≠x->ρ z=some (.own v')->¬aY b.env h z (.ref a))/\x∈b.mu/\(nst v=true->b.mu=[x])
theorem aIs {z:Str}{sl sl':Slot}{C:Prop}(e:(ρ.set x sl) z=some sl')(q1:z=x->sl=sl'->C)(q2:z≠x->(ρ.del x) z=some sl'->C):C:=by
 by_cases q:z=x
 ·exact q1 q (Option.some.inj ((if_pos q).symm.trans e))
 ·exact q2 q ((if_neg q).trans ((if_neg q).symm.trans e))
theorem yF {z:Str}{sl:Slot}(e:(ρ.del x) z=some sl):z≠x/\ρ z=some sl:=by
 by_cases q:z=x
 ·exact no1 ((if_pos q).symm.trans e)
 ·exact ⟨q,(if_neg q).symm.trans e⟩
theorem Rel.put (R:Rel g b S O (ρ.del x) s){sl:Slot}(bd:aY b.env s.heap x y)(hok:pW b ρ s.heap (S++b.F++O) O x y sl):Rel g b S O (ρ.set x sl) s:=
 {R with
  vals:=fun z v e=>aIs e (fun q e1=>by subst q e1;exact ⟨y,bd,hok⟩) fun _ e=>R.vals z v e
  owns:=fun z v e=>aIs e (fun q e1=>by subst q e1;obtain ⟨a,rfl,h1,h2,_⟩:=hok;exact ⟨a,bd,h1,h2⟩) fun _ e=>R.owns z v e
  mus:=fun z v e=>aIs e (fun q e1=>by subst q e1;obtain ⟨a,rfl,h1,h2,_,h3⟩:=hok;exact h3) fun _ e=>R.mus z v e
  ownsAp:=fun z z' v v' a e e' h h'=>aIs e
   (fun q e1=>aIs e' (fun q' _=>q.trans q'.symm) fun q' e2=>by
    subst q e1;obtain ⟨a',rfl,_,_,h3,_⟩:=hok;exact absurd (Value.ref.inj (bd.inj h)▸h') (h3 z' v' q' (yF e2).2))
   fun q e2=>aIs e' (fun q' e1=>by
    subst q' e1;obtain ⟨a',rfl,_,_,h3,_⟩:=hok;exact absurd (Value.ref.inj (bd.inj h')▸h) (h3 z v q (yF e2).2)) fun _ e'=>R.ownsAp z z' v v' a e2 e' h h'}
theorem Rel.stored (R:Rel g b S O ρ s){sl:Slot}(hc:c∈b.F)(hs:Heap.SameBut c s.heap h')(ex:∃o,h'.get? c=some o)(fr:∃m,h'.Ns b.env.locals m)(ce:∀x c,b.env.cells.lookup x=some c->∃v,h'.IsCell c v)
  (bd:∀z u,z≠x->aY b.env s.heap z u->aY b.env h' z u) (bx:aY b.env h' x y) (hok:pW b ρ s.heap (S++b.F++O) O x y sl):Rel g b S O (ρ.set x sl) {s with heap:=h',toks:=tk}:=by
 have nO:∀a∈O,a≠c:=fun a ha q=>R.apF a ha (q▸hc)
 have up:∀p o,(hide s.heap (S++b.F++O)).get? p=some o->(hide h' (S++b.F++O)).get? p=some o:=aH (fun p h1 h2=>absurd h1 h2) fun p o hp e=>hs.extBut p o (fun q=>hp (q▸List.mem_append_left _ (List.mem_append_right _ hc))) e
 have kw:KW (b.F++O) Zs s {s with heap:=h',toks:=tk}:=KW.out R.code fun p o hp e=>hs.extBut p o (fun q=>hp (q▸List.mem_append_left _ hc)) e
 refine Rel.put ((R.sub fun z sl e=>(yF e).2).step (s':={s with heap:=h',toks:=tk}) R.apS R.tabs (KW.into R.kp kw R.fresh) (fun a ha=> ?_) (fun a ha=>(R.noTup a ha).imp fun o h=>⟨hs.extBut _ _ (nO a ha) h.1,h.2⟩) up fr ce (fun z u e h=> ?_) fun z v a _ _ ha ho=>ho.up up (fun o e=>hs.extBut _ _ (nO a ha) e) fun _ p hp _=>⟨hp,fun o e=>hs.extBut _ _ (nO p hp) e⟩) bx ?_
 ·by_cases q:a=c
  ·exact q▸ex
  ·exact (R.ex a ha).imp fun o e=>hs.extBut a o q e
 ·obtain ⟨sl',e⟩:=Option.isSome_iff_exists.mp e;exact bd z u (yF e).1 h
 ·rcases sl with v | v
  ·exact Den.keeps up hok
  ·obtain ⟨a,e,h1,h2,h3,h4⟩:=hok;refine ⟨a,e,h1,h2.up up (fun o e=>hs.extBut _ _ (nO a h1) e) fun _ p hp _=>⟨hp,fun o e=>hs.extBut _ _ (nO p hp) e⟩,fun z v' hz e' hb=> ?_,h4⟩;obtain ⟨a',g1,_,_⟩:=R.owns z v' e';exact h3 z v' hz e' (Value.ref.inj ((bd z _ hz g1).inj hb)▸g1)
theorem pX (R:Rel g b S O ρ s){sl:Slot}(ht:0<s.toks)(hx:b.env.kindOf x=some .local\/b.env.kindOf x=some .cell)(hok:pW b ρ s.heap (S++b.F++O) O x y sl){Q:Unit->Shared->Prop}
  (h:∀h' tk c,c∈b.F->Heap.SameBut c s.heap h'->Rel g b S O (ρ.set x sl) {s with heap:=h',toks:=tk}->0<tk->Q () {s with heap:=h',toks:=tk}):wpAny (model g.prog g.w) b.A (storeName b.env x y) Q E s:=by
 rcases hx with hx | hx
 ·obtain ⟨m,hn⟩:=R.frame;refine wpAny_with_toks (n:=1) ht (wpAny_storeName_local hx hn (fun h' hn' hs ht'=>h h' _ _ R.ok.loc hs (R.stored R.ok.loc hs (by obtain ⟨o,_,_,e,_⟩:=hn';exact ⟨o,e⟩) ⟨_,hn'⟩ (fun x c e=>(R.cells x c e).imp fun _ h=>h.sameBut hs (R.ok.cell x c e).2) (fun z u hz hb=> ?_) (.inl ⟨hx,_,hn',if_pos rfl⟩) hok) ht') (by rw [R.ok.kind]; rfl))
  rcases hb with ⟨q,m',hn2,hm⟩ | ⟨q,c,hc,hi⟩ | ⟨q,q2,c,hc,hi⟩
  ·exact .inl ⟨q,_,hn',(if_neg hz).trans ((congrFun (aFu hn hn2) z).trans hm)⟩
  ·exact .inr (.inl ⟨q,c,hc,hi.sameBut hs (R.ok.cell z c hc).2⟩)
  ·exact .inr (.inr ⟨q,q2,c,hc,hi.sameBut hs (R.ok.cell z c hc).2⟩)
 ·obtain ⟨c,hc⟩:=Option.isSome_iff_exists.mp (R.ok.all x hx);obtain ⟨hcF,hcL⟩:=R.ok.cell x c hc;obtain ⟨v,hv⟩:=R.cells x c hc;refine wpAny_with_toks (n:=1) ht (wpAny_storeName_cell R.ok.kind hx hc hv fun h' hi hs ht'=>h h' _ _ hcF hs (R.stored hcF hs (hi.imp fun o e=>e.1) (R.frame.imp fun _ h=>h.sameBut hs (Ne.symm hcL)) (fun z c' e=> ?_) (fun z u hz hb=> ?_) (.inr (.inl ⟨hx,c,hc,hi⟩)) hok) ht')
  ·by_cases q:c'=c
   ·exact ⟨_,q▸hi⟩
   ·exact (R.cells z c' e).imp fun _ h=>h.sameBut hs q
  ·have ne:∀c',b.env.cells.lookup z=some c'->c'≠c:=fun c' e q=>hz (R.ok.apart z x c (q▸e) hc)
   rcases hb with ⟨q,m',hn2,hm⟩ | ⟨q,c',hc',hi'⟩ | ⟨q,q2,c',hc',hi'⟩
   ·exact .inl ⟨q,m',hn2.sameBut hs (Ne.symm hcL),hm⟩
   ·exact .inr (.inl ⟨q,c',hc',hi'.sameBut hs (ne c' hc')⟩)
   ·exact .inr (.inr ⟨q,q2,c',hc',hi'.sameBut hs (ne c' hc')⟩)
theorem Rel.addO (R:Rel g b S O ρ s)(k:Kp s s')(fr:s.heap.get? a=none)(ex:∃o,s'.heap.get? a=some o/\o.cls≠ .type "tuple"):Rel g b S (a::O) ρ s':=by
 have R':=R.kept k;have nx:∀p,(∃ o,s.heap.get? p=some o)->p≠a:=fun p e q=>e.elim fun o e=>no1 (fr.symm.trans (q▸e))
 have up:∀p o,(hide s.heap (S++b.F++O)).get? p=some o->(hide s'.heap (S++b.F++a::O)).get? p=some o:=fun p o e=>by
  have e':=aA.mp e;refine aA.mpr ⟨fun q=>e'.1 ?_,(aA.mp (k.hide (M:=S++b.F++O) (fun y hy=>List.mem_append_left _ (List.mem_append_left _ (R.tabs y hy))) p o e)).2⟩
  rcases List.mem_append.mp q with q | q
  ·exact List.mem_append_left _ q
  ·exact List.mem_append_right _ ((List.mem_cons.mp q).resolve_left (nx p ⟨o,e'.2⟩))
 exact {R' with
  newO:=fun p hp=>(List.mem_cons.mp hp).elim (fun q=>q▸R.kp.none (g.S.zok _ R.ok.sta) fr) (R.newO p)
  noTup:=fun p hp=>(List.mem_cons.mp hp).elim (fun q=>q▸ex) (R'.noTup p)
  ex:=fun p hp=>(List.mem_append.mp hp).elim (fun q=>R'.ex p (List.mem_append_left _ q)) fun q=>(List.mem_cons.mp q).elim (fun q=>q▸ex.imp fun _ h=>h.1) fun q=>R'.ex p (List.mem_append_right _ q)
  apF:=fun p hp=>(List.mem_cons.mp hp).elim (fun q z=>nx p (R.ex p (List.mem_append_left _ (List.mem_append_right _ z))) q) (R.apF p)
  apS:=fun p hp=>(List.mem_cons.mp hp).elim (fun q z=>nx p (R.ex p (List.mem_append_left _ (List.mem_append_left _ z))) q) (R.apS p)
  vals:=fun x v e=>(R.vals x v e).imp fun u h=>⟨k.bound R.zok h.1,h.2.keeps up⟩
  owns:=fun x v e=>(R.owns x v e).imp fun p h=>⟨k.bound R.zok h.1,List.mem_cons_of_mem _ h.2.1,h.2.2.up up (k.get _ · fun q=>R.apS p h.2.1 (R.tabs p q)) fun _ q hq _=>⟨List.mem_cons_of_mem _ hq,(k.get _ · fun z=>R.apS q hq (R.tabs q z))⟩⟩}
theorem Rel.chg (R:Rel g b S O ρ s)(ha:a∈O)(hs:Heap.SameBut a s.heap h')(ex:∃o,h'.get? a=some o/\o.cls≠ .type "tuple")(ow:∀x v c,ρ x=some (.own v)->aY b.env s.heap x (.ref c)->c∈O->c≠a/\(nst v=true->∀p∈O,p≠c->p≠a)):Rel g b S O ρ {s with heap:=h',toks:=tk}/\∀z u,aY b.env s.heap z u->aY b.env h' z u:=by
 have nF:∀p∈b.F,p≠a:=fun p hp q=>R.apF a ha (q▸hp)
 have kw:KW (b.F++O) Zs s {s with heap:=h',toks:=tk}:=KW.out R.code fun p o hp e=>hs.extBut p o (fun q=>hp (q▸List.mem_append_right _ ha)) e
 have bd:∀z u,aY b.env s.heap z u->aY b.env h' z u:=fun z u hb=>by
  rcases hb with ⟨q,m',hn2,hm⟩ | ⟨q,c',hc',hi'⟩ | ⟨q,q2,c',hc',hi'⟩
  ·exact .inl ⟨q,m',hn2.sameBut hs (nF _ R.ok.loc),hm⟩
  ·exact .inr (.inl ⟨q,c',hc',hi'.sameBut hs (nF _ (R.ok.cell z c' hc').1)⟩)
  ·exact .inr (.inr ⟨q,q2,c',hc',hi'.sameBut hs (nF _ (R.ok.cell z c' hc').1)⟩)
 have up:∀p o,(hide s.heap (S++b.F++O)).get? p=some o->(hide h' (S++b.F++O)).get? p=some o:=aH (fun p h1 h2=>absurd h1 h2) fun p o hp e=>hs.extBut p o (fun q=>hp (q▸List.mem_append_right _ ha)) e
 refine ⟨R.step (s':={s with heap:=h',toks:=tk}) R.apS R.tabs (KW.into R.kp kw R.fresh) (fun p hp=> ?_) (fun p hp=> ?_) up (R.frame.imp fun _ h=>h.sameBut hs (nF _ R.ok.loc)) (fun x c e=>(R.cells x c e).imp fun _ h=>h.sameBut hs (nF _ (R.ok.cell x c e).1)) (fun z u _ h=>bd z u h)
  fun z v c e hb hc ho=>ho.up up (fun o e'=>hs.extBut _ _ (ow z v c e hb hc).1 e') fun hn p hp hpc=>⟨hp,fun o e'=>hs.extBut _ _ ((ow z v c e hb hc).2 hn p hp hpc) e'⟩,bd⟩
 ·by_cases q:p=a
  ·exact q▸ex.imp fun _ h=>h.1
  ·exact (R.ex p hp).imp fun o e=>hs.extBut p o q e
 ·by_cases q:p=a
  ·exact q▸ex
  ·exact (R.noTup p hp).imp fun o e=>⟨hs.extBut p o q e.1,e.2⟩
theorem Rel.only (R:Rel g b S O ρ s)(hmu:b.mu=[x]){z:Str}(e:ρ z=some (.own v)):z=x:=List.mem_singleton.mp (hmu▸(R.mus z v e).1)
theorem Rel.turn (R:Rel g b S O ρ s){v':AV}(hx:ρ x=some (.own v))(hbx:aY b.env s.heap x (.ref a))(ha:a∈O)(hc:c∈O)(hca:c=a\/b.mu=[x])(hs:Heap.SameBut c s.heap h')(ex:∃o,h'.get? c=some o/\o.cls≠ .type "tuple")(own:Own h' (S++b.F++O) O a v')(hn:nst v'=true->b.mu=[x]):Rel g b S O (ρ.set x (.own v')) {s with heap:=h',toks:=tk}:=by
 obtain ⟨R',bd⟩:=(R.sub (ρ':=ρ.del x) fun z sl e=>(yF e).2).chg (tk:=tk) hc hs ex fun z w d e hb hd=>by
  have e':=(yF e).2
  rcases hca with q | q
  ·subst q;exact ⟨fun q=>(yF e).1 (R.ownsAp z x _ _ c e' hx (q▸hb) hbx),fun hn p hp hpd q=>(yF e).1 (List.mem_singleton.mp ((R.mus z w e').2 hn▸(R.mus x v hx).1)).symm⟩
  ·exact absurd (R.only q e') (yF e).1
 refine Rel.put (y:= .ref a) R' (bd _ _ hbx) ⟨a,rfl,ha,own,fun z v'' hz e hb=> ?_,(R.mus x v hx).1,hn⟩;obtain ⟨a',g1,_,_⟩:=R.owns z v'' e;exact hz (R.ownsAp z x _ _ a e hx (Value.ref.inj ((bd z _ g1).inj hb)▸g1) hbx)
theorem Rel.shrink {O':List Addr}(R:Rel g b S O ρ s)(hO:∀p∈O',p∈O)(no:∀x v,ρ x=some (.own v)->False):Rel g b S O' ρ s:=by
 have sub:∀p,p∈S++b.F++O'->p∈S++b.F++O:=fun p q=>(List.mem_append.mp q).elim (List.mem_append_left _) fun q=>List.mem_append_right _ (hO p q)
 have up:∀p o,(hide s.heap (S++b.F++O)).get? p=some o->(hide s.heap (S++b.F++O')).get? p=some o:=aH (fun p h1 h2=>absurd (sub p h1) h2) fun p o _ e=>e
 exact {R with
  newO:=fun p hp=>R.newO p (hO p hp)
  noTup:=fun p hp=>R.noTup p (hO p hp)
  ex:=fun p hp=>R.ex p (sub p hp)
  apF:=fun p hp=>R.apF p (hO p hp)
  apS:=fun p hp=>R.apS p (hO p hp)
  vals:=fun x v e=>(R.vals x v e).imp fun u h=>⟨h.1,h.2.keeps up⟩
  owns:=fun x v e=>(no x v e).elim
  ownsAp:=fun x _ v _ _ e=>(no x v e).elim}
end
section
set_option genInjectivity false
set_option genSizeOfSpec false
variable {g:Eg}{b:Bk}{ρ':St}
structure On (g:Eg)(b:Bk)(S O:List Addr)(s:Shared)(ρ':St)(O':List Addr)(s':Shared):Prop where
 toks:0<s'.toks
 kw:KW (b.F++O) Zs s s'
 new:∀a∈O',a∈O\/s.heap.get? a=none
 rel:Rel g b S O' ρ' s'
structure Rt (b:Bk)(S O:List Addr)(s:Shared)(v:AV)(y:Value)(s':Shared):Prop where
 toks:0<s'.toks
 den:Den (hide s'.heap S) y v
 kw:KW (b.F++O) Zs s s'
 kp:Kp b.s'0 s'
def aG5 (g:Eg)(b:Bk)(S O:List Addr)(s:Shared)(Q:Flow->Shared->Prop)(ρ':St):Fl->Prop
 | .next=>∀O' s',On g b S O s ρ' O' s'->Q .next s'
 | .brk=>∀O' s',On g b S O s ρ' O' s'->Q .brk s'
 | .ret v=>∀y s',Rt b S O s v y s'->Q (.ret y) s'
def Ex (g:Eg)(b:Bk)(t:Sem Flow)(ρ:St)(fl:Fl)(ρ':St):Prop:=
 ∀(S O:List Addr) (s:Shared) (E:Value->Shared->Prop) (Q:Flow->Shared->Prop),Rel g b S O ρ s->0<s.toks->aG5 g b S O s Q ρ' fl->wpAny (model g.prog g.w) b.A t Q E s
theorem KW.nil {a c:Shared}{y:Addr}(k:KW W Zs a c)(z:Zok Zs [] a.heap)(hy:y∉W)(h:c.heap.get? y=none):a.heap.get? y=none:=by
 rcases e:a.heap.get? y with _ | o
 ·rfl
 ·by_cases q:y∈Zs.map (·.2)
  ·obtain ⟨z',hz,rfl⟩:=List.mem_map.mp q;obtain ⟨ps,hp⟩:=z.at' z' hz;obtain ⟨m,hm⟩:=k.tab z' hz ps hp;exact no1 (h.symm.trans hm.2.2)
  ·exact no1 (h.symm.trans (k.keep y o hy q e))
theorem KW.thru {W':List Addr}{a c d:Shared}(x:KW W Zs a c)(y:KW W' Zs c d)(h:∀p∈W',p∈W\/a.heap.get? p=none):KW W Zs a d where
 keep:=fun p o h1 h2 e=>y.keep p o (fun q=>(h p q).elim h1 fun z=>no1 (z.symm.trans e)) h2 (x.keep p o h1 h2 e)
 tab:=(KW.trans (W:=W++W') (x.weaken fun _=>List.mem_append_left _) (y.weaken fun _=>List.mem_append_right _)).tab
 bare:=fun h=>y.bare (x.bare h)
 drawn:=y.drawn.trans x.drawn
 os:=y.os.trans x.os
variable {O1 O2:List Addr}
theorem On.memF (x:On g b S O s ρ O1 s'1):∀p∈b.F++O1,p∈b.F++O\/s.heap.get? p=none:=fun p hp=>(List.mem_append.mp hp).elim (fun q=> .inl (List.mem_append_left _ q)) fun q=>(x.new p q).imp (List.mem_append_right _) id
theorem On.trans (z:Zok Zs [] s.heap)(x:On g b S O s ρ O1 s'1){ρ'2:St}(y:On g b S O1 s'1 ρ'2 O2 s'):On g b S O s ρ'2 O2 s' where
 toks:=y.toks
 kw:=x.kw.thru y.kw x.memF
 new:=fun a ha=>(y.new a ha).elim (x.new a) fun q=>by
  by_cases hO:a∈O
  ·exact .inl hO
  ·exact .inr (x.kw.nil z (fun z=>(List.mem_append.mp z).elim (fun z=>(x.rel.ex a (List.mem_append_left _ (List.mem_append_right _ z))).elim fun o e=>no1 (q.symm.trans e)) hO) q)
 rel:=y.rel
theorem Rt.thru (x:On g b S O s ρ O1 s'1)(r:Rt b S O1 s'1 v y s'):Rt b S O s v y s':={r with kw:=x.kw.thru r.kw x.memF}
theorem aG5.thru (z:Zok Zs [] s.heap)(x:On g b S O s ρ O1 s'1){ρ'2:St}{Q:Flow->Shared->Prop}:∀{fl:Fl},aG5 g b S O s Q ρ'2 fl->aG5 g b S O1 s'1 Q ρ'2 fl
 | .next,q=>fun O' s' y=>q O' s' (x.trans z y)
 | .brk,q=>fun O' s' y=>q O' s' (x.trans z y)
 | .ret _,q=>fun y s' r=>q y s' (r.thru x)
theorem On.of (R:Rel g b S O ρ s)(k:Kp s s'1)(ht:0<s'1.toks):On g b S O s ρ O s'1:=⟨ht,k.wk,fun _ h=> .inl h,R.kept k⟩
theorem aJ4 {sl:Slot}(h:evS g.cf b.mu n b.sc ρ x e=some sl)(R:Rel g b S O ρ s)(ht:0<s.toks)
  (q:∀y s'1 O1,On g b S O s ρ O1 s'1->pW b ρ s'1.heap (S++b.F++O1) O1 x y sl->Q y s'1):wpAny (model g.prog g.w) b.A (eval e b.env) Q E s:=by
 refine aB h fun v hv h=>iC h (fun hf h=> ?_) fun _ h=>iC h (fun hm h=> ?_) fun _ h=> ?_
 ·obtain rfl:=Option.some.inj h;exact iK (f:=⟨b.sc,b.env,ρ.all,b.A,S++b.F⟩) hv s E Q (R.cxAll ht) fun y s'1 o d k=>q y s'1 O (.of R k o.ht) (d.flat_hide (R.kept k).noTup hf)
 ·rw [Bool.and_eq_true] at hm;refine uI (f:=⟨b.sc,b.env,ρ.all,b.A,S++b.F⟩) hm.2 hv s E Q (R.cxAll ht) fun y s'1 o d k fr=> ?_
  rcases v with _ | _ | _ | _ | l | _ | _ | _ | _ | _ <;> first | exact no1 h | skip
  refine bK h fun hl h=>d.listE fun a vs e hp hd=> ?_
  obtain rfl:=Option.some.inj h;have fa:=fr a e;obtain ⟨i,hp⟩:=hp;have R'1:=R.addO k fa ⟨_,(aA.mp hp).2,fun q=>absurd (Value.type.inj q) (by decide)⟩;refine q y s'1 (a::O) ⟨o.ht,k.wk,fun p hp=>(List.mem_cons.mp hp).elim (fun z=> .inr (z▸fa)) .inl,R'1⟩ ⟨a,e,.head _,⟨vs,⟨i,(aA.mp hp).2⟩,.inl ⟨hd.flat_hide R'1.noTup hl,hl⟩⟩,fun z v' _ e hb=> ?_,by simpa using hm.1,fun z=>absurd hl (by have:(!aN l)=true:=z;rw [Bool.not_eq_true'] at this;rw [this]; exact Bool.false_ne_true)⟩;obtain ⟨a',g1,g2,_⟩:=R.owns z v' e;exact (R.ex a' (List.mem_append_right _ g2)).elim fun o e=>no1 (fa.symm.trans (Value.ref.inj ((k.bound R.zok g1).inj hb)▸e))
 ·refine gJ h fun v' hv' e=> ?_
  subst e;exact iK (f:=⟨b.sc,b.env,ρ.frozen,b.A,S++b.F++O⟩) hv' s E Q (R.cxFrozen ht) fun y s'1 o d k=>q y s'1 O (.of R k o.ht) d
theorem mR (h:bE b.sc x=true)(ok:aNj g b):b.env.kindOf x=some .local\/b.env.kindOf x=some .cell:=by
 unfold bE at h;rw [Bool.or_eq_true,beq_iff_eq,beq_iff_eq] at h;exact h.imp (ok.env.loc x) (ok.env.cell x)
theorem gQ (R:Rel g b S O ρ s)(ht:0<s.toks){sl:Slot}(hx:bE b.sc x=true)(hok:pW b ρ s.heap (S++b.F++O) O x y sl){Q:Unit->Shared->Prop}(h:∀s',On g b S O s (ρ.set x sl) O s'->Q () s'):wpAny (model g.prog g.w) b.A (storeName b.env x y) Q E s:=
 pX R ht (mR hx R.ok) hok fun h' tk c hc hs R' ht'=>h _ ⟨ht',KW.out R.code fun p o hp e=>hs.extBut p o (fun q=>hp (q▸List.mem_append_left _ hc)) e,fun _ h=> .inl h,R'⟩
theorem fR (env:Env)(elt:Expr)(gens:List Comprehension)(csc:Scope)(p:Pos)(use:Value->Sem Unit):
  evalThenUse (.ListComp elt gens csc p) env use=(do
   let _ <-comprehension (.ListComp elt gens csc p) csc env (firstIterPos gens p) (newList []) (firstAsync gens) (firstIter gens env) (some use)):=rfl
theorem aDo {gens:List Comprehension}{pos':Pos}{Q:Unit->Shared->Prop}(R:Rel g b S O ρ s)(ht:0<s.toks)(hx:bE b.sc x=true)(h:evE g.cf n b.sc ρ.frozen (.ListComp elt gens csc p)=some v)(h1c:aC8 (.ListComp elt gens csc p)=false)(q:∀s',On g b S O s (ρ.set x (.val v)) O s'->Q () s'):
  wpAny (model g.prog g.w) b.A (evalThenUse (.ListComp elt gens csc p) b.env (assign (.Name x pos') b.env)) Q E s:=by
 rcases n with _ | n
 ·exact no1 h
 refine aG4 (C:=fun elt gens v=>aC8 (.ListComp elt gens csc p)=false->(∀ s',On g b S O s (ρ.set x (.val v)) O s'->Q () s')->wpAny (model g.prog g.w) b.A (evalThenUse (.ListComp elt gens csc p) b.env (assign (.Name x pos') b.env)) Q E s) h (fun x' px it ifs xv l vs h1 h2 h3 h4 h5 h6 _ q=> ?_) (fun _ _ _ _ _ _ _ _ _ _ _ _ _ _ _ _ _ _ _ _ h=>nomatch h) h1c q;rw [fR];obtain ⟨iE,_,_,iT,_⟩:=aAd g n;refine wpAny_bind (uG (f:=⟨b.sc,b.env,ρ.frozen,b.A,S++b.F++O⟩) (use:=some _) (R.cxFrozen ht) h1 h2 (iE ⟨b.sc,b.env,ρ.frozen,b.A,S++b.F++O⟩ _ _ h3) (cD h3) h4 h5 h6 (aFs (f:=⟨b.sc,b.env,ρ.frozen,b.A,S++b.F++O⟩) iE iT) fun s'1 D C X s' o'1 k'1 fr hD hC hDC c=> ?_);have R'1:=R.kept k'1;have k'2:Kp s'1 s':=KW.into (KW.refl s'1) c.kw fr;have RC:=R'1.addS (X:=[C]) k'2 (fun y hy=>List.mem_singleton.mp hy▸fr C hC) (fun y hy=>List.mem_singleton.mp hy▸c.ns.elim fun m h=>h.elim fun o h=>h.elim fun _ h=>h.elim fun _ h=>⟨o,h.1⟩);have hd:Den (hide s'.heap (S++[C]++b.F++O)) (.ref D) (.list vs):=by
  obtain ⟨ys,⟨i,h1⟩,h2⟩:=c.list;refine .mkList ⟨i,aA.mpr ⟨fun q=> ?_,h1⟩⟩ (h2.keeps (aH (fun p h3 h4=>absurd ?_ h4) fun p o _ e=>e))
  ·simp only [List.mem_append,List.mem_singleton] at q
   rcases q with ((q | q) | q) | q
   ·exact (R'1.ex D (by simp [q])).elim fun o e=>no1 ((fr D hD).symm.trans e)
   ·exact hDC q
   ·exact (R'1.ex D (by simp [q])).elim fun o e=>no1 ((fr D hD).symm.trans e)
   ·exact (R'1.ex D (by simp [q])).elim fun o e=>no1 ((fr D hD).symm.trans e)
  ·simp only [List.mem_append,List.mem_singleton] at h3 ⊢
   rcases h3 with ((q | q) | q) | q
   ·exact .inl (.inl (.inl q))
   ·exact .inr (q▸hC)
   ·exact .inl (.inl (.inr q))
   ·exact .inl (.inr q)
 have nC:∀a∈b.F,a≠C:=fun a ha e=>(R'1.ex a (by simp [ha])).elim fun o e'=>no1 ((fr C hC).symm.trans (e▸e'))
 have fC:s.heap.get? C=none:=k'1.none R.zok (fr C hC);have cd:∀z∈Zs,z.1∉[C]/\z.2∉[C]:=fun z hz=>by
  obtain ⟨ps,_,⟨o,_,e,_⟩,e2⟩:=R.zok.at' z hz;exact ⟨fun q=>no1 (fC.symm.trans (List.mem_singleton.mp q▸e)),fun q=>no1 (fC.symm.trans (List.mem_singleton.mp q▸e2))⟩
 refine wpAny_assign_Name (pX RC c.toks (mR hx R.ok) (sl:= .val (.list vs)) hd fun h' tk c' hc' hs R' ht'=> ?_);obtain ⟨m,hm⟩:=c.ns;refine ⟨m,hm.sameBut hs (Ne.symm (nC c' hc')),fun h'' hs''=>wpAny_pure (q _ ⟨ht',?_,fun _ h=> .inl h,?_⟩)⟩
 ·exact (KW.trans (KW.wk (k'1.trans k'2)) (KW.out R.code fun p o hp e=>hs.extBut p o (fun q=>hp (q▸List.mem_append_left _ hc')) e:KW (b.F++O) Zs s' {s' with heap:=h',toks:=tk})).thru
   (KW.out cd fun p o hp e=>hs''.extBut p o (fun q=>hp (List.mem_singleton.mpr q)) e:KW [C] Zs {s' with heap:=h',toks:=tk} {s' with heap:=h'',toks:=tk}) fun p hp=> .inr (List.mem_singleton.mp hp▸fC)
 ·exact R'.move (X:=[C]) (fun y hy=>List.mem_append_left _ hy) R.tabs (fun y hy=>by rw [List.mem_singleton.mp hy]; exact ⟨List.mem_append_right _ (.head _),fun z=>nC C z rfl,R'1.kp.none (g.S.zok _ R.ok.sta) (fr C hC)⟩)
   (fun y hy hS=>(R'1.ex y (by simp [hS])).elim fun o e=>no1 ((fr C hC).symm.trans (List.mem_singleton.mp hy▸e))) fun p o hp e=>hs''.extBut p o (fun q=>hp (List.mem_singleton.mpr q)) e
end
section
set_option genInjectivity false
set_option genSizeOfSpec false
variable {g:Eg}{b:Bk}{ρ':St}
structure aN5 (g:Eg)(b:Bk)(S wr O:List Addr)(s'1:Shared)(St:Nat->Heap->Prop)(F:List AV->Mine.St->Prop)(l:List AV)(k:Nat)(s':Shared)(done rest:List AV)(ρ'1:Mine.St)(O1:List Addr):Prop where
 all:l=done++rest
 left:k=rest.length+1
 st:St done.length s'.heap
 on:On g b (S++wr) O s'1 ρ'1 O1 s'
 go:F rest ρ'1
section
variable {I:Addr}{fp wr:List Addr}{P:Nat->Value->Prop}{St:Nat->Heap->Prop}{l:List AV}
theorem Itr.apart (src:Itr g.prog g.w b.A (S++b.F++O) s'1 l I fp wr P St s'2)(R:Rel g b S O ρ s'1){y:Addr}(hy:y∈fp):y∉b.F++O/\y∉Zt:=by
 by_cases hw:y∈wr
 ·have fr:=src.fresh y hw;refine ⟨fun q=> ?_,fun q=>(R.ex y (List.mem_append_left _ (List.mem_append_left _ (R.tabs y q)))).elim fun o e=>no1 (fr.symm.trans e)⟩;exact (R.ex y ((List.mem_append.mp q).elim (fun z=>List.mem_append_left _ (List.mem_append_right _ z)) (List.mem_append_right _))).elim fun o e=>no1 (fr.symm.trans e)
 ·obtain ⟨o,e⟩:=src.vis y hy hw;have m:=(aA.mp e).1;exact ⟨fun q=>m ((List.mem_append.mp q).elim (fun z=>List.mem_append_left _ (List.mem_append_right _ z)) (List.mem_append_right _)),fun q=>m (List.mem_append_left _ (List.mem_append_left _ (R.tabs y q)))⟩
theorem Itr.nwr (src:Itr g.prog g.w b.A (S++b.F++O) s'1 l I fp wr P St s'2)(R:Rel g b S O ρ s'1):∀y∈wr,y∈S++wr/\y∉b.F/\b.s'0.heap.get? y=none:=fun y hy=>
 ⟨List.mem_append_right _ hy,fun q=>(src.apart R (src.W.sub y hy)).1 (List.mem_append_left _ q),R.kp.none (g.S.zok _ R.ok.sta) (src.fresh y hy)⟩
theorem Itr.kw (src:Itr g.prog g.w b.A (S++b.F++O) s'1 l I fp wr P St s'2)(R:Rel g b S O ρ s'1){tk:Nat}(k:KW (b.F++O) Zs s'1 s')(hk:∀p o,p∉wr->s'.heap.get? p=some o->h'.get? p=some o):KW (b.F++O) Zs s'1 {s' with heap:=h',toks:=tk}:=
 k.thru (KW.out (fun z hz=>by
  obtain ⟨ps,_,⟨o,_,e,_⟩,e2⟩:=R.zok.at' z hz;exact ⟨fun q=>no1 ((src.fresh _ q).symm.trans e),fun q=>no1 ((src.fresh _ q).symm.trans e2)⟩) hk) fun p hp=> .inr (src.fresh p hp)
theorem Itr.over (src:Itr g.prog g.w b.A (S++b.F++O) s'1 l I fp wr P St s'2)(R:Rel g b S O ρ s'1){ρ'1:Mine.St}{O1:List Addr}(on:On g b (S++wr) O s'1 ρ'1 O1 s'){tk:Nat}(hk:∀p o,p∉wr->s'.heap.get? p=some o->h'.get? p=some o)(ht:0<tk):On g b S O s'1 ρ'1 O1 {s' with heap:=h',toks:=tk} where
 toks:=ht
 kw:=src.kw R on.kw hk
 new:=on.new
 rel:=on.rel.move (fun y hy=>List.mem_append_left _ hy) R.tabs (src.nwr R) (fun y hy hS=>(R.ex y (List.mem_append_left _ (List.mem_append_left _ hS))).elim fun o e=>no1 ((src.fresh y hy).symm.trans e)) hk
theorem Itr.drawn (src:Itr g.prog g.w b.A (S++b.F++O) s'1 l I fp wr P St s'2)(R:Rel g b S O ρ s'1){ρ'1:Mine.St}{O1:List Addr}(on:On g b (S++wr) O s'1 ρ'1 O1 s'){tk:Nat}(st:St i h')(hk:∀p o,p∉wr->s'.heap.get? p=some o->h'.get? p=some o)(ht:0<tk):On g b (S++wr) O s'1 ρ'1 O1 {s' with heap:=h',toks:=tk} where
 toks:=ht
 kw:=src.kw R on.kw hk
 new:=on.new
 rel:=on.rel.move (fun y hy=>hy) (fun y hy=>List.mem_append_left _ (R.tabs y hy)) (src.nwr R) (fun y hy _=>src.ex i _ st y hy) hk
theorem Itr.den (src:Itr g.prog g.w b.A (S++b.F++O) s'1 l I fp wr P St s'2)(R:Rel g b S O ρ s'1){ρ'1:Mine.St}{O1:List Addr}(on:On g b (S++wr) O s'1 ρ'1 O1 s'){v:Value}{a:AV}(d:Den (hide s'1.heap (S++b.F++O)) v a):Den (hide s'.heap (S++wr++b.F++O1)) v a:=
 d.keeps fun p o e=>by
  have e':=aA.mp e;refine aA.mpr ⟨fun q=> ?_,on.kw.keep p o (fun q=>e'.1 ?_) (fun q=>e'.1 (List.mem_append_left _ (List.mem_append_left _ (R.tabs p q)))) e'.2⟩
  ·simp only [List.mem_append] at q
   rcases q with ((q | q) | q) | q
   ·exact e'.1 (by simp [q])
   ·exact no1 ((src.fresh p q).symm.trans e'.2)
   ·exact e'.1 (by simp [q])
   ·exact (on.new p q).elim (fun q=>e'.1 (by simp [q])) fun z=>no1 (z.symm.trans e'.2)
  ·exact (List.mem_append.mp q).elim (fun z=>List.mem_append_left _ (List.mem_append_right _ z)) (List.mem_append_right _)
theorem Itr.nO (src:Itr g.prog g.w b.A (S++b.F++O) s'1 l I fp wr P St s'2)(R:Rel g b S O ρ s'1){ρ'1:Mine.St}{O1:List Addr}(on:On g b (S++wr) O s'1 ρ'1 O1 s'){y:Addr}(hy:y∈fp):y∉b.F++O1:=fun q=>by
 have ap:=(src.apart R hy).1
 rcases List.mem_append.mp q with q | q
 ·exact ap (List.mem_append_left _ q)
 ·by_cases hw:y∈wr
  ·exact on.rel.apS y q (List.mem_append_right _ hw)
  ·exact (on.new y q).elim (fun z=>ap (List.mem_append_right _ z)) fun z=>(src.vis y hy hw).elim fun o e=>no1 (z.symm.trans (aA.mp e).2)
theorem On.dropS {wr O1:List Addr}{ρ'1:Mine.St}(tabs:∀y∈Zt,y∈S)(on:On g b (S++wr) O s'1 ρ'1 O1 s'):On g b S O s'1 ρ'1 O1 s':=
 ⟨on.toks,on.kw,on.new,on.rel.move (X:=[]) (tk:=s'.toks) (fun y hy=>List.mem_append_left _ hy) tabs (fun _ h=>nomatch h) (fun _ h=>nomatch h) fun _ _ _ e=>e⟩
theorem uK {f:Fl}{G:Mine.St->Option (Fl × Mine.St)}{Q:Flow->Shared->Prop}{QE:Value->Shared->Prop}(src:Itr g.prog g.w b.A (S++b.F++O) s'1 l I fp wr P St s'2)(R:Rel g b S O ρ s'1)(ht2:0<s'2.toks)(hx:bE b.sc x=true)
  (hbody:∀ρ'1 f ρ',G ρ'1=some (f,ρ')->Ex g b (execs body b.env) ρ'1 f ρ') (hfor:vZ (fun a ρ=>G (ρ.set x (.val a))) l ρ=some (f,ρ')) (q:aG5 g b S O s'1 Q ρ' f):
  codeAny (model g.prog g.w) b.A (.forLoop (.Name x px) (.ref I) body [] b.env) (fun r s'=>match r with
   | .ok fl=>Q fl s'
   | .error e=>QE e s') s'2:=by
 refine codeAny_forLoop_any (fun k s'=>∃done rest ρ'1 O1,aN5 g b S wr O s'1 St (fun rest ρ'1=>vZ (fun a ρ=>G (ρ.set x (.val a))) rest ρ'1=some (f,ρ')) l k s' done rest ρ'1 O1) ?_ (l.length+1)
  ⟨[],l,ρ,O,rfl,rfl,src.st,⟨ht2,src.kept.kp.wk,fun _ h=> .inl h,R.addS src.kept.kp src.fresh (fun y hy=>src.ex 0 _ src.st y hy)⟩,hfor⟩
 rintro k s' ⟨done,rest,ρ'1,O1,v⟩
 rcases rest with _ | ⟨a,r⟩
 ·obtain ⟨rfl,rfl⟩:=Prod.mk.inj (Option.some.inj v.go);exact wpAny_with_toks (n:=1) v.on.toks (src.W.done _ _ _ (by rw [v.all,List.append_nil]; exact v.st) fun h'3 tk3 hk3 t'3=>wpAny_execs_nil (q _ _ (src.over R v.on hk3 t'3)))
 ·refine wpAny_with_toks (n:=1) v.on.toks (src.W.item done.length _ _ _ (by rw [v.all,List.length_append]; exact Nat.lt_add_of_pos_right (Nat.succ_pos _)) v.st fun y h'3 tk3 hP st'3 hk3 t'3=> ?_);have on3:=src.drawn R v.on st'3 hk3 t'3;have hd:=src.den R on3 (src.item _ _ _ hP (by rw [v.all,List.getElem?_append_right (Nat.le_refl _),Nat.sub_self]; rfl));refine wpAny_pure (wpAny_assign_Name (gQ on3.rel t'3 hx (sl:= .val a) hd fun s4 on'4=> ?_));have st4:St (done.length+1) s4.heap:=src.W.frame _ _ _ st'3 fun z hz o e=>on'4.kw.keep z o (src.nO R on3 hz) (src.apart R hz).2 e
  have on4:=on3.trans R.zok on'4;refine aB v.go fun p hg hgo=>hbody _ p.1 p.2 hg (S++wr) O1 s4 _ _ on'4.rel on'4.toks ?_
  rcases p with ⟨f'1 | f'1 | u,ρ'2⟩
  ·exact fun O2 s5 on5=>⟨r.length+1,v.left▸Nat.lt_succ_self _,done++[a],r,ρ'2,O2,by rw [v.all,List.append_assoc]; rfl,rfl,by
    rw [List.length_append];exact src.W.frame _ _ _ st4 fun z hz o e=>on5.kw.keep z o (src.nO R on4 hz) (src.apart R hz).2 e,on4.trans R.zok on5,hgo⟩
  ·obtain ⟨rfl,rfl⟩:=Prod.mk.inj (Option.some.inj hgo);exact fun O2 s5 on5=>q _ _ ((on4.trans R.zok on5).dropS R.tabs)
  ·obtain ⟨rfl,rfl⟩:=Prod.mk.inj (Option.some.inj hgo);exact fun y s5 r5=>q y s5 {r5.thru on4 with den:=r5.den.keeps (aH (fun p h1 h2=>absurd (List.mem_append_left _ h1) h2) fun _ _ _ e=>e)}
end
theorem Ex.for {it:Expr}{xv:AV}{l:List AV}{G:Mine.St->Option (Fl × Mine.St)}{f:Fl}(hx:bE b.sc x=true)(hbody:∀ρ'1 f ρ',G ρ'1=some (f,ρ')->Ex g b (execs body b.env) ρ'1 f ρ')(hit:evE g.cf n b.sc ρ.frozen it=some xv)(hl:aV xv=some l)
  (hfor:vZ (fun a ρ=>G (ρ.set x (.val a))) l ρ=some (f,ρ')):Ex g b (exec (.For (.Name x px) it body [] p) b.env) ρ f ρ':=fun S O s E Q R ht q=>
 wpAny_For (iK (f:=⟨b.sc,b.env,ρ.frozen,b.A,S++b.F++O⟩) hit s E _ (R.cxFrozen ht) fun xvv s'1 o'1 d'1 k'1=>wpAny_with_toks (n:=1) o'1.ht (bG o'1.room.handled hl d'1 fun I fp wr P St s'2 src t'2=>
  uK src (R.kept k'1) t'2 hx hbody hfor (aG5.thru R.zok (.of R k'1 o'1.ht) q))) (fun y=>pS hit y)
theorem Ex.while {t:Expr}{G:Mine.St->Option (Fl × Mine.St)}{f:Fl}(hbody:∀ρ'1 f ρ',G ρ'1=some (f,ρ')->Ex g b (execs body b.env) ρ'1 f ρ')
  (h:pJ (fun ρ=>evT g.cf n b.sc ρ.all t) G k ρ=some (f,ρ')):Ex g b (exec (.While t body [] p) b.env) ρ f ρ':=fun S O s E Q R ht q=>by
 refine wpAny_While (codeAny_whileLoop (fun m s'=>∃ρ'1 O1,On g b S O s ρ'1 O1 s'/\pJ (fun ρ=>evT g.cf n b.sc ρ.all t) G m ρ'1=some (f,ρ')) ?_ k ⟨ρ,O,.of R (Kp.refl s) ht,h⟩)
 rintro m s' ⟨ρ'1,O1,on,hg⟩
 rcases m with _ | m
 ·exact no1 hg
 refine aB hg fun z hz hg=>aFt (f:=⟨b.sc,b.env,ρ'1.all,b.A,S++b.F⟩) hz s' _ _ (on.rel.cxAll on.toks) fun y s'1 o'1 e k'1=> ?_
 have on1:=on.trans R.zok (.of on.rel k'1 o'1.ht);subst e
 rcases y with _ | _
 ·obtain ⟨rfl,rfl⟩:=Prod.mk.inj (Option.some.inj hg);rw [if_neg Bool.false_ne_true];exact wpAny_execs_nil (q O1 s'1 on1)
 ·rw [if_pos rfl];refine aB hg fun p hp hgo=>hbody _ p.1 p.2 hp S O1 s'1 _ _ on1.rel on1.toks ?_
  rcases p with ⟨f'1 | f'1 | u,ρ'2⟩
  ·exact fun O2 s'2 on2=>⟨m,Nat.lt_succ_self _,ρ'2,O2,on1.trans R.zok on2,hgo⟩
  ·obtain ⟨rfl,rfl⟩:=Prod.mk.inj (Option.some.inj hgo);exact fun O2 s'2 on2=>q _ _ (on1.trans R.zok on2)
  ·obtain ⟨rfl,rfl⟩:=Prod.mk.inj (Option.some.inj hgo);exact fun y s'2 r'2=>q y s'2 (r'2.thru on1)
theorem rU (e:Expr)(x:Str)(p:Pos)(line:Nat)(env:Env){P:Prop}(q1:swapsWith e (some (.Name x p)) line env=pure false->P)(q2:∀elt gens csc q,e= .ListComp elt gens csc q->swapsWith e (some (.Name x p)) line env=pure true->P)(q3:(∀ elt gens csc q,e≠ .ListComp elt gens csc q)->swapsWith e (some (.Name x p)) line env=pure true->(∀ (cf:CallF) n sc ρ,evE cf n sc ρ e=none)->P):P:=by
 have key:∀c:Bool,(pure c:Sem Bool)=pure false\/(pure c:Sem Bool)=pure true:=fun c=>by rcases c with _ | _;exact .inl rfl;exact .inr rfl
 rcases e with _ | _ | _ | _ | _ | _ | _ | _ | ⟨elt,gens,csc,q⟩ | _ | _ | _ | _ | _ | _ | _ | _ | _ | _ | _ | _ | _ | _ | _ | _ | _ | _ <;> first | exact q1 rfl | skip
 ·exact (key _).elim q1 (q2 _ _ _ _ rfl)
 ·exact (key _).elim q1 fun z=>q3 (fun _ _ _ _ e=>nomatch e) z fun cf n sc ρ=>by rcases n with _ | _ <;> rfl
 ·exact (key _).elim q1 fun z=>q3 (fun _ _ _ _ e=>nomatch e) z fun cf n sc ρ=>by rcases n with _ | _ <;> rfl
end
theorem jI (its:Array Value)(n j:Nat)(x:Value):
  ∃n',Obj.mapSeq (·.setIfInBounds j x) {cls:= .type "list",data:= .seq its n}={cls:= .type "list",data:= .seq (its.setIfInBounds j x) n'}:=by
 unfold Obj.mapSeq;exact ⟨_,rfl⟩
theorem oC {l:Addr}{items:Array Value}{k:Int}{v:Value}{Q:Unit->Shared->Prop}(hl:s.heap.PlainList l items)
  (hj:(0<=k/\k<items.size/\j=k.toNat)\/(k<0/\ -(items.size:Int)<=k/\j=(k+items.size).toNat)) (hsz:items.size<=2^20)
  (hQ:∀h',h'.PlainList l (items.setIfInBounds j v)->Heap.SameBut l s.heap h'->Q () {s with heap:=h'}):
  wpAny (model prog w) A (setItem (.ref l) (.int k t) v) Q E s:=by
 obtain ⟨n,ho⟩:=id hl;have hi:=hl.isList;have fin:(s.heap.update l (Obj.mapSeq (·.setIfInBounds j v))).PlainList l (items.setIfInBounds j v):=by
  obtain ⟨n',e⟩:=jI items n j v;refine ⟨n',?_⟩;rw [Heap.get?_update_self _ ho (by rw [e]; rfl),e]
 unfold setItem
 try with_reducible refine wpAny_holding ?_
 first | refine wpAny_bind (wpAny_pure ?_) | skip
 refine wpAny_bind (wpAny_sequenceKey hi.typeIs (by decide) ?_);refine wpAny_bind (wpAny_callSpecial?_slot (name:=ofString "__setitem__") hi.typeIs slot_list_setitem
  (wpAny_call_entry slot_list_setitem hi.typeIs entry_list_setitem ?_ (args_list_setitem _ _ _)))
 show wpAny _ _ (Builtin.List.listSubscript? (.int k t) >>= _) _ _ s;have hjs:j<items.size:=by omega
 have hx':items[j]? =some items[j]:=Array.getElem?_eq_getElem hjs;refine wpAny_bind (wpAny_listSubscript_int (by unfold Builtin.List.listFitsIndex;simp only [Bool.and_eq_true,decide_eq_true_eq]; omega) ?_)
 rcases hj with ⟨h0,h1,rfl⟩ | ⟨h0,h1,rfl⟩
 ·obtain ⟨j,rfl⟩:=Int.eq_ofNat_of_zero_le h0;show wpAny _ _ ((seqItemAt l j >>= fun r=>pure (r.map (j,·))) >>= _) _ _ s;refine wpAny_bind (wpAny_bind (wpAny_seqItemAt ho rfl (wpAny_pure ?_)))
  change items[j]? =_ at hx'
  rw [hx'];show wpAny _ _ (setSeqItemAt l j v >>= _) _ _ s;refine wpAny_bind (wpAny_setSeqItemAt ho rfl ?_)
  first
   | exact wpAny_bind (wpAny_pure (wpAny_pure ⟨.none,rfl,wpAny_pure (hQ _ fin (Heap.SameBut.update ..))⟩))
   | exact wpAny_pure ⟨.none,rfl,wpAny_pure (hQ _ fin (Heap.SameBut.update ..))⟩
 ·have hidx:=seqIndex_neg h0 h1;obtain ⟨m,rfl⟩:∃j:Nat,k=Int.negSucc j:=by
   rcases k with n | n
   ·exact absurd h0 (Int.not_lt.mpr (Int.natCast_nonneg n))
   ·exact ⟨n,rfl⟩
  show wpAny _ _ ((Builtin.List.listItems (.ref l) >>= fun xs=>pure ((seqIndex? (Int.negSucc m) xs.size).bind fun i=>xs[i]?.map (i,·))) >>= _) _ _ s;refine wpAny_bind (wpAny_bind ?_);show wpAny _ _ (seqItems? (.ref l) >>= _) _ _ s;refine wpAny_bind (wpAny_seqItems ho rfl (wpAny_pure (wpAny_pure ?_)));rw [hidx];simp only [Option.bind_some,hx',Option.map_some];refine wpAny_bind (wpAny_setSeqItemAt ho rfl ?_)
  first
   | exact wpAny_bind (wpAny_pure (wpAny_pure ⟨.none,rfl,wpAny_pure (hQ _ fin (Heap.SameBut.update ..))⟩))
   | exact wpAny_pure ⟨.none,rfl,wpAny_pure (hQ _ fin (Heap.SameBut.update ..))⟩
section
variable {g:Eg}{b:Bk}{ρ':St}
theorem Ex.assign {sl:Slot}(hx:bE b.sc x=true)(h1c:aC8 e=false)(h:evS g.cf b.mu n b.sc ρ x e=some sl):Ex g b (exec (.Assign [.Name x p'] e p) b.env) ρ .next (ρ.set x sl):=fun S O s E Q R ht q=>by
 refine rU e x p' p.line b.env (fun hs=> ?_) (fun elt gens csc q' he hs=> ?_) fun _ hs no=> ?_
 ·exact wpAny_Assign_Name (aJ4 h R ht fun y s'1 O1 on hok=>gQ on.rel on.toks hx hok fun s' on'=>q O1 s' (on.trans R.zok on')) hs
 ·subst he;rw [exec_Assign_Name_used x p' _ p hs];refine wpAny_bind (wpAny_standAt (wpAny_bind ?_));refine aB h fun v hv h=> ?_
  have hl:flat v=false:=by
   rcases n with _ | n
   ·exact no1 hv
   ·exact aG4 (C:=fun _ _ v=>flat v=false) hv (fun _ _ _ _ _ _ _ _ _ _ _ _ _=>rfl) fun _ _ _ _ _ _ _ _ _ _ _ _ _ _ _ _ _ _ _ _=>rfl
  unfold aGx at h;rw [if_neg (by rw [hl]; exact Bool.false_ne_true),if_neg (by rw [show kA (.ListComp elt gens csc q')=false from rfl,Bool.and_false]; exact Bool.false_ne_true)] at h;refine gJ h fun v' hv' e=> ?_
  subst e;exact aDo R ht hx hv' h1c fun s' on=>wpAny_pure (q O s' on)
 ·exact aB h fun v hv _=>no1 ((no _ _ _ _).symm.trans hv)
theorem kJ (e o i:Expr)(p:Pos)(line:Nat)(env:Env):swapsWith e (some (.Subscript o i p)) line env=pure false:=by
 rcases e with _ | _ | _ | _ | _ | _ | _ | _ | _ | _ | _ | _ | _ | _ | _ | _ | _ | _ | _ | _ | _ | _ | _ | _ | _ | _ | _ <;> rfl
theorem aDp {k:Int}(h:vY n k=some j):(0<=k/\k<n/\j=k.toNat)\/(k<0/\ -(n:Int)<=k/\j=(k+n).toNat):=
 iC h (fun h0 h=>bK h fun h1 h=> .inl ⟨h0,h1,(Option.some.inj h).symm⟩) fun h0 h=>bK h fun h1 h=> .inr ⟨Int.not_le.mp h0,h1,(Option.some.inj h).symm⟩
theorem aO.set {V:Heap}{vs:List Value}{l:List AV}(h:aO V vs l)(j:Nat)(hy:Den V y v):aO V (vs.set j y) (l.set j v):=by
 refine ⟨by rw [List.length_set,List.length_set,h.1],fun i y' v' h1 h2=> ?_⟩;rw [List.getElem?_set] at h1 h2
 by_cases q:j=i
 ·rw [if_pos q] at h1 h2;exact bK h1 fun _ h1=>bK h2 fun _ h2=>Option.some.inj h1▸Option.some.inj h2▸hy
 ·rw [if_neg q] at h1 h2;exact h.2 i y' v' h1 h2
theorem pY:∀{l:List AV} {v:AV} (j:Nat),aN l=true->flat v=true->aN (l.set j v)=true
 | [],_,_,h,_=>h
 | a::r,v,0,h,hv=>by
  rw [aS,Bool.and_eq_true] at h;show aN (v::r)=true;rw [aS,hv,h.2]; rfl
 | a::r,v,j+1,h,hv=>by
  rw [aS,Bool.and_eq_true] at h;show aN (a::r.set j v)=true;rw [aS,h.1,pY j h.2 hv]; rfl
theorem dD:∀{l k:List AV},aN l=true->aN k=true->aN (l++k)=true
 | [],_,_,h=>h
 | a::r,k,h,hk=>by
  rw [aS,Bool.and_eq_true] at h;show aN (a::(r++k))=true;rw [aS,h.1,dD h.2 hk]; rfl
theorem kK {vs:Array Value}(x:h.PlainList a vs):∃o,h.get? a=some o/\o.cls≠ .type "tuple":=x.elim fun n e=>⟨_,e,fun q=>absurd (Value.type.inj q) (by decide)⟩
theorem Rel.turn_on {v':AV}{tk:Nat}(R:Rel g b S O ρ s)(ht:0<tk)(hx:ρ x=some (.own v))(hbx:aY b.env s.heap x (.ref a))(ha:a∈O)(hc:c∈O)(hca:c=a\/b.mu=[x])(hs:Heap.SameBut c s.heap h')(ex:∃o,h'.get? c=some o/\o.cls≠ .type "tuple")(own:Own h' (S++b.F++O) O a v')(hn:nst v'=true->b.mu=[x]):On g b S O s (ρ.set x (.own v')) O {s with heap:=h',toks:=tk}:=
 ⟨ht,KW.out R.code fun p o hp e=>hs.extBut p o (fun q=>hp (q▸List.mem_append_right _ hc)) e,fun _ h=> .inl h,R.turn hx hbx ha hc hca hs ex own hn⟩
theorem Rel.turn_flat {l:List AV}{vs:Array Value}{tk:Nat}(R:Rel g b S O ρ s)(ht:0<tk)(hx:ρ x=some (.own v))(hbx:aY b.env s.heap x (.ref a))(ha:a∈O)(hs:Heap.SameBut a s.heap h')(hp:h'.PlainList a vs)(hd:aO (hide h' (S++b.F++O)) vs.toList l)(hl:aN l=true):On g b S O s (ρ.set x (.own (.list l))) O {s with heap:=h',toks:=tk}:=
 R.turn_on ht hx hbx ha ha (.inl rfl) hs (kK hp) ⟨vs,hp,.inl ⟨hd,hl⟩⟩ fun q=>absurd (show (!aN l)=true from q) (by rw [hl]; exact Bool.false_ne_true)
theorem Own.flat {M:List Addr}{l:List AV}(o:Own h M O a (.list l))(hf:aN l=true):∃vs,h.PlainList a vs/\aO (hide h M) vs.toList l:=by
 obtain ⟨vs,h1,h2⟩:=o;exact ⟨vs,h1,h2.elim (fun q=>q.1) fun q=>no4 (hf.symm.trans q.1)⟩
theorem mS {M:List Addr}(ha:a∈M)(hs:Heap.SameBut a h h'):∀p o,(hide h M).get? p=some o->(hide h' M).get? p=some o:=aH (fun p h1 h2=>absurd h1 h2) fun p o hp e=>hs.extBut p o (fun q=>hp (q▸ha)) e
theorem aG6 {i:Expr}{p'':Pos}{k:Int}{w:AV}(hd:(x==("__debug__":Str))=false)(hv:evE g.cf n b.sc ρ.all e=some v)(hi:evE g.cf n b.sc ρ.all i=some (.int k))(hx:ρ x=some (.own w))
   {Q:Flow->Shared->Prop} (R:Rel g b S O ρ s) (ht:0<s.toks)
  (q:∀y s' a t,On g b S O s ρ O s'->aY b.env s'.heap x (.ref a)->a∈O->Own s'.heap (S++b.F++O) O a w->Den (hide s'.heap (S++b.F)) y v->wpAny (model g.prog g.w) b.A (setItem (.ref a) (.int k t) y) (fun _ s''=>Q .next s'') E s'):
  wpAny (model g.prog g.w) b.A (exec (.Assign [.Subscript (.Name x p'') i p'] e p) b.env) Q E s:=by
 refine wpAny_Assign_Subscript (iK (f:=⟨b.sc,b.env,ρ.all,b.A,S++b.F⟩) hv s E _ (R.cxAll ht) fun y s'1 o'1 d'1 k'1=> ?_) (kJ ..);have R'1:=R.kept k'1;obtain ⟨a,hba,ha,_⟩:=R'1.owns x _ hx;refine bF R.ok.kind hba hd (iK (f:=⟨b.sc,b.env,ρ.all,b.A,S++b.F⟩) hi s'1 E _ (R'1.cxAll o'1.ht) fun iv s'2 o'2 d'2 k'2=>d'2.intE fun t e=> ?_);subst e;have R'2:=R'1.kept k'2;obtain ⟨a',hba',ha',ho⟩:=R'2.owns x _ hx;obtain rfl:=Value.ref.inj ((k'2.bound R'1.zok hba).inj hba');exact q y s'2 a t (.of R (k'1.trans k'2) o'2.ht) hba' ha ho (o'1.den k'2 d'1)
theorem Ex.setlist {i:Expr}{p'':Pos}{l:List AV}{k:Int}(hd:(x==("__debug__":Str))=false)
  (hv:evE g.cf n b.sc ρ.all e=some v) (hi:evE g.cf n b.sc ρ.all i=some (.int k)) (hx:ρ x=some (.own (.list l))) (hj:vY l.length k=some j) (hf:flat v=true) (hfl:aN l=true) (hl:l.length<=2^20):
  Ex g b (exec (.Assign [.Subscript (.Name x p'') i p'] e p) b.env) ρ .next (ρ.set x (.own (.list (l.set j v)))):=fun S O s E Q R ht q=>
 aG6 hd hv hi hx R ht fun y s' a t on hb ha ho hy=>by
  obtain ⟨vs,hp,hden⟩:=ho.flat hfl;have hsz:vs.size=l.length:=by simpa using hden.1
  refine oC hp (by rw [hsz]; exact aDp hj) (by exact Nat.le_trans (Nat.le_of_eq hsz) hl) fun h' hp' hs'=>q O _ (on.trans R.zok (on.rel.turn_flat on.toks hx hb ha hs' hp' ?_ (pY j hfl hf)))
  have up:=mS (List.mem_append_right (S++b.F) ha) hs';rw [Array.toList_setIfInBounds];exact (hden.keeps up).set j ((hy.flat_hide on.rel.noTup hf).keeps up)
theorem Ex.append {l:List AV}(hd:(x==("__debug__":Str))=false)(hl':(ap.endLine==p.line)=true)
  (hv:evE g.cf n b.sc ρ.all e=some v) (hx:ρ x=some (.own (.list l))) (hf:flat v=true) (hfl:aN l=true) (hl:l.length<=2^20):
  Ex g b (exec (.Expr (.Call (.Attribute (.Name x xp) "append" ap) [e] [] p) p') b.env) ρ .next (ρ.set x (.own (.list (l++[v])))):=fun S O s E Q R ht q=>by
 refine wpAny_Expr ?_ (by unfold interactive;rw [R.ok.kind]; rfl) rfl;have htrees:backTo p (starEach [e] b.env)=[(false,eval e b.env)]:=by rw [bH (cD hv)]; rfl
 refine wpAny_Call_append rfl (by rw [htrees]; rfl) hl' htrees ?_;obtain ⟨a,hba,ha,ho⟩:=R.owns x _ hx;obtain ⟨vs,hp,hden⟩:=ho.flat hfl;refine bF R.ok.kind hba hd ⟨a,vs,rfl,hp.elim fun k e=>⟨_,k,e,rfl,rfl,rfl⟩,iK (f:=⟨b.sc,b.env,ρ.all,b.A,S++b.F⟩) hv s E _ (R.cxAll ht) fun y s'1 o'1 d'1 k'1=> ?_⟩;have R'1:=R.kept k'1;have hp1:s'1.heap.PlainList a vs:=hp.at (k'1.get a · fun z=>R.apS a ha (R.tabs a z));have hsz:vs.size=l.length:=by simpa using hden.1
 refine wpAny_list_append_plain hp1 (fun h' hp' hs'=>q O _ ((On.of R k'1 o'1.ht).trans R.zok (R'1.turn_flat o'1.ht hx (k'1.bound R.zok hba) ha hs' hp' ?_ (dD hfl (by rw [aS,hf]; rfl))))) (by rw [sizeLine_eq]; exact lit (hsz▸hl) rfl);have up:=mS (List.mem_append_right (S++b.F) ha) hs';rw [Array.toList_push];exact ((hden.keeps (k'1.hide fun y hy=>List.mem_append_left _ (List.mem_append_left _ (R.tabs y hy)))).keeps up).append (.cons ((d'1.flat_hide R'1.noTup hf).keeps up) .nil)
theorem pZ {vs:Array Value}(hp:h.get? a=some {cls:= .type "list",data:= .seq vs n})(F:Array Value->Array Value):(h.update a (Obj.mapSeq F)).PlainList a (F vs):=
 ⟨_,(Heap.get?_update_self _ hp rfl).trans (show some (Obj.mapSeq F {cls:= .type "list",data:= .seq vs n})=some {cls:= .type "list",data:= .seq (F vs) (if (F vs).size==vs.size then n else n+1)} from rfl)⟩
theorem qA {m:Str}{vs:Array Value}{Q:Flow->Shared->Prop}(R:Rel g b S O ρ s)(hd:(x==("__debug__":Str))=false)(hb:aY b.env s.heap x (.ref a))(hp:s.heap.PlainList a vs)(hline:(ap.endLine==p.line)=true)(hs:(backTo p (starEach as b.env)).any (·.1)=false)(hn:as.length<30)
  (slot:PySem.Slot "list" m id) (hty:typeOf (.builtin id)=pure (.type "method_descriptor")) (h:wpAny (model g.prog g.w) b.A (callWith p (.builtin id) [.ref a] (backTo p (starEach as b.env)) []) (fun _=>Q .next) E s):wpAny (model g.prog g.w) b.A (exec (.Expr (.Call (.Attribute (.Name x xp) m ap) as [] p) p') b.env) Q E s:=
 wpAny_Expr_any (aT rfl hline hs hn (bF R.ok.kind hb hd fun pl=>getMethod_builtin hp.isList.typeIs PySem.F.plainAttrs_list slot hty (fun a' e=>by obtain ⟨n,e'⟩:=hp;cases e;exact ⟨_,e',rfl⟩) h)) (by unfold interactive;rw [R.ok.kind]; rfl) rfl
theorem Ex.extend {l k:List AV}(hd:(x==("__debug__":Str))=false)(hl':(ap.endLine==p.line)=true)
  (hv:evE g.cf n b.sc ρ.all e=some (.list k)) (hx:ρ x=some (.own (.list l))) (hfl:aN l=true) (hfk:aN k=true) (hl:l.length<=2^20) (hk:k.length<=2^20):
  Ex g b (exec (.Expr (.Call (.Attribute (.Name x xp) "extend" ap) [e] [] p) p') b.env) ρ .next (ρ.set x (.own (.list (l++k)))):=fun S O s E Q R ht q=>by
 have htrees:backTo p (starEach [e] b.env)=[(false,eval e b.env)]:=by rw [bH (cD hv)]; rfl
 obtain ⟨a,hba,ha,ho⟩:=R.owns x _ hx;obtain ⟨vs,hp,hden⟩:=ho.flat hfl;refine qA R hd hba hp hl' (by rw [htrees]; rfl) (Nat.lt_of_sub_eq_succ rfl) PySem.F.slot_list_extend PySem.F.type_list_extend ?_;rw [htrees];refine P.extend_list (iK (f:=⟨b.sc,b.env,ρ.all,b.A,S++b.F⟩) hv s E _ (R.cxAll ht) fun y s'1 o'1 d'1 k'1=>d'1.listE fun c ws e2 hpc hdc=> ?_);subst e2;have R'1:=R.kept k'1;obtain ⟨i,hp1⟩:s'1.heap.PlainList a vs:=hp.at (k'1.get a · fun z=>R.apS a ha (R.tabs a z));obtain ⟨j,hpc⟩:=hpc;have hsz:vs.size=l.length:=by simpa using hden.1
 have hsk:ws.size=k.length:=by simpa using hdc.1
 have h3:vs.size+ws.size<=sizeLine:=by rw [sizeLine_eq]; lia
 refine ⟨c,vs,ws,i,j,Nat.le_trans (Nat.le_add_right _ _) h3,Nat.le_succ_of_le h3,extend_door h3,rfl,hp1,(aA.mp hpc).2,q O _ ((On.of R k'1 o'1.ht).trans R.zok (R'1.turn_flat o'1.ht hx (k'1.bound R.zok hba) ha (Heap.SameBut.update ..) (pZ hp1 _) ?_ (dD hfl hfk)))⟩;have up:=mS (h':=s'1.heap.update a (Obj.mapSeq fun xs=>xs++ws)) (List.mem_append_right (S++b.F) ha) (Heap.SameBut.update ..);rw [Array.toList_append];exact ((hden.keeps (k'1.hide fun y hy=>List.mem_append_left _ (List.mem_append_left _ (R.tabs y hy)))).keeps up).append ((hdc.flat_hide R'1.noTup hfk).keeps up)
theorem wI (vs:Array Value):(vs.eraseIdxIfInBounds (vs.size- 1)).toList=vs.toList.dropLast:=by
 unfold Array.eraseIdxIfInBounds
 split
 ·rw [Array.toList_eraseIdx,List.eraseIdx_eq_take_drop_succ,List.dropLast_eq_take,List.drop_eq_nil_of_le (by rw [Array.length_toList]; omega),List.append_nil,Array.length_toList]
 ·have:vs.size=0:=by omega
  obtain rfl:=Array.eq_empty_of_size_eq_zero this;rfl
theorem fX:∀{l:List AV},aN l=true->aN l.dropLast=true
 | [],h=>h
 | [_],_=>rfl
 | a::b::r,h=>by
  rw [aS,Bool.and_eq_true] at h;rw [List.dropLast_cons_cons,aS,h.1,fX h.2]; rfl
theorem Ex.pop {l:List AV}(hd:(x==("__debug__":Str))=false)(hl':(ap.endLine==p.line)=true)(hx:ρ x=some (.own (.list l)))(hfl:aN l=true)(hne:l≠[])(hl:l.length<=2^20):
  Ex g b (exec (.Expr (.Call (.Attribute (.Name x xp) "pop" ap) [] [] p) p') b.env) ρ .next (ρ.set x (.own (.list l.dropLast))):=fun S O s E Q R ht q=>by
 obtain ⟨a,hba,ha,ho⟩:=R.owns x _ hx;obtain ⟨vs,hp,hden⟩:=ho.flat hfl;refine qA R hd hba hp hl' rfl (by decide) PySem.F.slot_list_pop PySem.F.type_list_pop ?_;obtain ⟨i,hp⟩:=hp;have hsz:vs.size=l.length:=by simpa using hden.1
 have hlt:vs.size- 1<vs.size:=by have:=List.length_pos_iff.mpr hne;omega
 refine P.pop_list hp (Array.getElem?_eq_getElem hlt) (q O _ (R.turn_flat ht hx hba ha (Heap.SameBut.update ..) (pZ hp _) ?_ (fX hfl))) (by rw [sizeLine_eq]; exact lit (hsz▸hl) rfl);rw [wI,List.dropLast_eq_take,List.dropLast_eq_take,hden.1];exact (hden.keeps (mS (h':=s.heap.update a (Obj.mapSeq fun xs=>xs.eraseIdxIfInBounds (vs.size- 1))) (List.mem_append_right (S++b.F) ha) (Heap.SameBut.update ..))).take _
theorem Ex.ret (hv:evE g.cf n b.sc ρ.all e=some v):Ex g b (exec (.Return (some e) p) b.env) ρ (.ret v) ρ:=fun S O s E Q R ht q=>
 wpAny_Return_some (iK (f:=⟨b.sc,b.env,ρ.all,b.A,S++b.F⟩) hv s E _ (R.cxAll ht) fun y s'1 o'1 d'1 k'1=>q y s'1 ⟨o'1.ht,d'1.keeps (aH (fun p h1 h2=>absurd (List.mem_append_left _ h1) h2) fun _ _ _ e=>e),k'1.wk,R.kp.trans k'1⟩)
theorem Ex.unpack {y:Str}{at':Str}{py pt pa:Pos}{u:AV}(hx:bE b.sc x=true)(hy:bE b.sc y=true)
  (hv:evE g.cf n b.sc ρ.all (.Attribute e at' pa)=some (.tup [v,u])) (hf:flat v=true) (hf':flat u=true):Ex g b (exec (.Assign [.Tuple [.Name x px,.Name y py] k pt] (.Attribute e at' pa) p) b.env) ρ .next ((ρ.set x (.val v)).set y (.val u)):=fun S O s E Q R ht q=>by
 refine Assign_Tuple (iK (f:=⟨b.sc,b.env,ρ.all,b.A,S++b.F⟩) hv s E _ (R.cxAll ht) fun tv s'1 o'1 d'1 k'1=> ?_) rfl rfl;refine d'1.tupE fun t vs e hp hd=>hd.consE fun a as e1 ha has=>has.consE fun c cs e2 hc hcs=> ?_
 have e3:=hcs.nil_inv;subst e e2 e3;have hsz:vs.size=2:=by simpa using congrArg List.length e1
 refine wpAny_assign_Tuple R.ok.room.handled (cU hp) (by rw [hsz]; rfl) rfl fun h' he=> ?_
 have k2:Kp s'1 {s'1 with heap:=h'}:=KW.of_keep (tk:=s'1.toks) fun p o e=>he p o (Nat.ne_of_lt (Heap.lt_size e)) e
 have on2:On g b S O s ρ O {s'1 with heap:=h'}:= .of R (k'1.trans k2) o'1.ht;rw [e1];show wpAny _ b.A (do holding [c] (PySem.assign (.Name x px) b.env a); assignInOrder [PySem.assign (.Name y py) b.env] [c]) _ _ _;refine wpAny_bind (wpAny_holding (wpAny_assign_Name (gQ on2.rel on2.toks hx (sl:= .val v) ((o'1.den k2 ha).flat_hide on2.rel.noTup hf) fun s3 on3=> ?_)));show wpAny _ b.A (do holding [] (PySem.assign (.Name y py) b.env c); assignInOrder [] []) _ _ _;refine wpAny_bind (wpAny_holding (wpAny_assign_Name (gQ on3.rel on3.toks hy (sl:= .val u) (Den.keeps (aH (fun p h1 h2=>absurd h1 h2) fun p o hp e=>on3.kw.keep p o (fun z=>hp ?_) (fun z=>hp (List.mem_append_left _ (List.mem_append_left _ (R.tabs p z)))) e) ((o'1.den k2 hc).flat_hide on2.rel.noTup hf')) fun s4 on'4=>wpAny_pure (q O s4 ((on2.trans R.zok on3).trans R.zok on'4)))));exact (List.mem_append.mp z).elim (fun z=>List.mem_append_left _ (List.mem_append_right _ z)) (List.mem_append_right _)
end
section
variable {g:Eg}{b:Bk}{ρ':St}
theorem Own.items {M M':List Addr}{l:List AV}(up:∀b o,(hide h M).get? b=some o->(hide h M').get? b=some o)(hO:∀p∈O,p≠a->p∉M')(o:Own h M O a (.list l)):∃vs,h.PlainList a vs/\aO (hide h M') vs.toList l:=by
 obtain ⟨vs,hp,hd⟩:=o;refine ⟨vs,hp,?_⟩
 rcases hd with hd | ⟨_,us,l',p,⟨ws⟩,w,h1,h2,h3,h4,h5,⟨m,h6⟩,h7,_⟩
 ·exact hd.1.keeps up
 ·rw [h1,h2];exact (h3.keeps up).append (.cons (.mkList ⟨m,aA.mpr ⟨hO p h4 h5,h6⟩⟩ (h7.keeps up)) .nil)
theorem fK {l:List AV}{w:List AV}:aN (l++[.list w])=false:=by
 induction l with
 | nil=>rfl
 | cons a r ih=>rw [List.cons_append,aS,ih,Bool.and_false]
theorem aDq {l w:List AV}:nst (.list (l++[.list w]))=true:=by show (!aN _)=true;rw [fK]; rfl
theorem Ex.grow {l:List AV}(hd:(x==("__debug__":Str))=false)(hl':(ap.endLine==p.line)=true)(he:kA e=true)
  (hv:evE g.cf n b.sc ρ.all e=some (.list [])) (hx:ρ x=some (.own (.list l))) (hmu:b.mu=[x]) (hl:l.length<=2^20):
  Ex g b (exec (.Expr (.Call (.Attribute (.Name x xp) "append" ap) [e] [] p) p') b.env) ρ .next (ρ.set x (.own (.list (l++[.list []])))):=fun S O s E Q R ht q=>by
 refine wpAny_Expr ?_ (by unfold interactive;rw [R.ok.kind]; rfl) rfl;have htrees:backTo p (starEach [e] b.env)=[(false,eval e b.env)]:=by rw [bH (cD hv)]; rfl
 refine wpAny_Call_append rfl (by rw [htrees]; rfl) hl' htrees ?_;obtain ⟨a,hba,ha,ho⟩:=R.owns x _ hx;have subM:∀p,p∈S++b.F++[a]->p∈S++b.F++O:=fun p q=>(List.mem_append.mp q).elim (List.mem_append_left _) fun q=>List.mem_append_right _ (List.mem_singleton.mp q▸ha)
 obtain ⟨vs,hp,hden⟩:=ho.items (M':=S++b.F++[a]) (aH (fun p h1 h2=>absurd (subM p h1) h2) fun _ _ _ e=>e) fun p hp hpa q=>(List.mem_append.mp q).elim (fun q=>(List.mem_append.mp q).elim (R.apS p hp) (R.apF p hp)) fun q=>hpa (List.mem_singleton.mp q)
 refine bF R.ok.kind hba hd ⟨a,vs,rfl,hp.elim fun k e=>⟨_,k,e,rfl,rfl,rfl⟩,uI (f:=⟨b.sc,b.env,ρ.all,b.A,S++b.F⟩) he hv s E _ (R.cxAll ht) fun y s'1 o'1 d'1 k'1 fr=>d'1.listE fun c ws e2 hpc hdc=> ?_⟩;have fc:=fr c e2;subst e2;obtain ⟨j,hpc⟩:=hpc;have hca:c≠a:=fun q=>hp.elim fun k e=>no1 (fc.symm.trans (q▸e))
 have nown:∀z v,(ρ.del x) z=some (.own v)->False:=fun z v e=>(yF e).1 (R.only hmu (yF e).2)
 have R'2:=((R.sub (ρ':=ρ.del x) fun z sl e=>(yF e).2).shrink (O':=[a]) (fun p hp=>List.mem_singleton.mp hp▸ha) nown).addO k'1 fc ⟨_,(aA.mp hpc).2,fun q=>absurd (Value.type.inj q) (by decide)⟩;have hp1:s'1.heap.PlainList a vs:=hp.at (k'1.get a · fun z=>R.apS a ha (R.tabs a z));have hsz:vs.size=l.length:=by simpa using hden.1
 refine wpAny_list_append_plain hp1 (fun h' hp' hs'=> ?_) (by rw [sizeLine_eq]; exact lit (hsz▸hl) rfl);obtain ⟨R'3,bd⟩:=R'2.chg (tk:=s'1.toks) (.tail _ (.head _)) hs' (kK hp') fun z v d e=>(nown z v e).elim
 refine q [c,a] _ ⟨o'1.ht,(KW.wk k'1).trans (KW.out R.code fun p o hp e=>hs'.extBut p o (fun q=>hp (q▸List.mem_append_right _ ha)) e),fun p hp=>(List.mem_cons.mp hp).elim (fun q=> .inr (q▸fc)) fun q=> .inl (List.mem_singleton.mp q▸ha),
  Rel.put R'3 (bd x _ (k'1.bound R.zok hba)) ⟨a,rfl,.tail _ (.head _),⟨_,hp',.inr ⟨fK,vs.toList,l,c,ws,[],Array.toList_push,rfl,hden.keeps fun p o e=> ?_,.head _,hca,⟨j,hs'.extBut c _ hca (aA.mp hpc).2⟩,by rw [hdc.nil_inv]; exact .nil,rfl⟩⟩,fun z v hz e=>(nown z v ((if_neg hz).trans e)).elim,(R.mus x _ hx).1,fun _=>hmu⟩⟩
 have e':=aA.mp e;have npa:p≠a:=fun q=>e'.1 (q▸List.mem_append_right _ (.head _))
 refine aA.mpr ⟨fun q=> ?_,hs'.extBut p o npa (k'1.get p o (fun z=>e'.1 (List.mem_append_left _ (List.mem_append_left _ (R.tabs p z)))) e'.2)⟩
 rcases List.mem_append.mp q with q | q
 ·exact e'.1 (List.mem_append_left _ q)
 ·rcases List.mem_cons.mp q with q | q
  ·exact no1 (fc.symm.trans (q▸e'.2))
  ·exact npa (List.mem_singleton.mp q)
theorem aJ5:∀{l l2:List AV},lY v l=some l2->∃l' w,l=l'++[.list w]/\l2=l'++[.list (w++[v])]/\aN w=true/\w.length<=2^20
 | [],_,h=>no1 h
 | [a],l2,h=>gJ h fun c hc e=>by
  rcases a with _ | _ | _ | _ | w | _ | _ | _ | _ | _ <;> first | exact no1 hc | skip
  refine bK hc fun hw hc=> ?_
  rw [Bool.and_eq_true,decide_eq_true_eq] at hw;exact ⟨[],w,rfl,by rw [<- e,<-Option.some.inj hc]; rfl,hw⟩
 | a::b::r,l2,h=>gJ h fun c hc e=>by
  obtain ⟨l',w,h1,h2,h3⟩:=aJ5 (l:=b::r) hc;exact ⟨a::l',w,by rw [h1]; rfl,by rw [<- e,h2]; rfl,h3⟩
theorem Ex.last {i:Expr}{ip:Pos}{l l2:List AV}(hd:(x==("__debug__":Str))=false)(hl':(ap.endLine==p.line)=true)(hi:minus1 i=true)
  (hv:evE g.cf n b.sc ρ.all e=some v) (hx:ρ x=some (.own (.list l))) (hf:flat v=true) (hlast:lY v l=some l2) (hl:l.length<=2^20):
  Ex g b (exec (.Expr (.Call (.Attribute (.Subscript (.Name x xp) i ip) "append" ap) [e] [] p) p') b.env) ρ .next (ρ.set x (.own (.list l2))):=fun S O s E Q R ht q=>by
 obtain ⟨l',w,e1,e2,hw,hwl⟩:=aJ5 hlast;subst e1 e2;obtain ⟨ik,ip1,ip2,rfl⟩:=uD hi;have hmu:=(R.mus x _ hx).2 aDq;refine wpAny_Expr ?_ (by unfold interactive;rw [R.ok.kind]; rfl) rfl;have htrees:backTo p (starEach [e] b.env)=[(false,eval e b.env)]:=by rw [bH (cD hv)]; rfl
 refine wpAny_Call_append (eL rfl _ _) (by rw [htrees]; rfl) hl' htrees ?_;obtain ⟨a,hba,ha,vs,hp,hdd⟩:=R.owns x _ hx
 rcases hdd with hdd | ⟨_,us,l'',c,ws,w',h1,h2,h3,h4,h5,h6,h7,h8⟩
 ·exact no4 (hdd.2.symm.trans fK)
 obtain ⟨rfl,h9⟩:=List.append_inj' h2 rfl;obtain rfl:w=w':=AV.list.inj (List.cons.inj h9).1;have hsz:vs.size=us.length+1:=by rw [<- Array.length_toList,h1,List.length_append]; rfl
 have hul:us.length=l'.length:=h3.1;rw [List.length_append] at hl;refine iJ (bF R.ok.kind hba hd (Ev.minus1 (f:=⟨b.sc,b.env,ρ.all,b.A,S++b.F⟩) s E _ (R.cxAll ht) fun z s'1 o'1 d'1 k'1=>d'1.intE fun t e=> ?_));subst e;have kO:∀p∈O,p∉Zt:=fun p hp z=>R.apS p hp (R.tabs p z)
 have hp1:=hp.at (k'1.get a · (kO a ha));refine ⟨"list",_,hp1.isList.typeIs,list_getitem_lookup,wpAny_getItem_list_neg hp1.isList (by decide) (by rw [hsz]; omega) (by decide) (x:= .ref c) ?_ ⟨c,ws,rfl,(h6.at (k'1.get c · (kO c h4))).elim fun k e=>⟨_,k,e,rfl,rfl,rfl⟩,?_⟩⟩
 ·rw [<- Array.getElem?_toList,h1,show ((-1:Int)+(vs.size:Int)).toNat=us.length by rw [hsz]; omega,List.getElem?_append_right (Nat.le_refl _),Nat.sub_self]; rfl
 have R'1:=R.kept k'1;refine iK (f:=⟨b.sc,b.env,ρ.all,b.A,S++b.F⟩) hv s'1 E _ (R'1.cxAll o'1.ht) fun y s'2 o'2 d'2 k'2=> ?_
 have R'2:=R'1.kept k'2;have k:=k'1.trans k'2;have hws:ws.size=w.length:=by simpa using h7.1
 refine wpAny_list_append_plain (h6.at (k.get c · (kO c h4))) (fun h' hp' hs'=>q O _ ((On.of R k o'2.ht).trans R.zok (R'2.turn_on o'2.ht hx (k.bound R.zok hba) ha h4 (.inr hmu) hs' (kK hp') ⟨vs,hp.at fun o e=>hs'.extBut a o (Ne.symm h5) (k.get a o (kO a ha) e),.inr ⟨fK,us,l',c,_,w++[v],h1,rfl,?_,h4,h5,hp',?_,dD hw (by rw [aS,hf]; rfl)⟩⟩ fun _=>hmu))) (by rw [sizeLine_eq]; exact lit (hws▸hwl) rfl)
 ·exact (h3.keeps (k.hide fun y hy=>List.mem_append_left _ (List.mem_append_left _ (R.tabs y hy)))).keeps (mS (List.mem_append_right (S++b.F) h4) hs')
 ·have up:=mS (List.mem_append_right (S++b.F) h4) hs';rw [Array.toList_push];exact ((h7.keeps (k.hide fun y hy=>List.mem_append_left _ (List.mem_append_left _ (R.tabs y hy)))).keeps up).append (.cons ((d'2.flat_hide R'2.noTup hf).keeps up) .nil)
end
section
variable {g:Eg}{b:Bk}{r:Fl × St}
def SX (g:Eg)(b:Bk)(n:Nat):Prop:=∀st ρ r,exS g.cf b.mu n b.sc ρ st=some r->Ex g b (exec st b.env) ρ r.1 r.2
def SXB (g:Eg)(b:Bk)(n:Nat):Prop:=∀sts ρ r,exB g.cf b.mu n b.sc ρ sts=some r->Ex g b (execs sts b.env) ρ r.1 r.2
theorem aDr {c:Bool}{a:Cs}{r:Fl × St}{P:Prop}(h:(if c=true then a else eI).run ρ=some r)(q:c=true->a.run ρ=some r->P):P:=by
 rcases c with _ | _
 ·exact no1 h
 ·exact q rfl h
theorem aJ6 {sl:Option Slot}{l:List AV}{P:Prop}(h:zA sl=some l)(q:sl=some (.own (.list l))->l.length<=2^20->P):P:=by
 rcases sl with _ | ⟨u | u⟩ <;> first | exact no1 h | skip
 rcases u with _ | _ | _ | _ | k | _ | _ | _ | _ | _ <;> first | exact no1 h | exact bK h fun hk h=>by obtain rfl:=Option.some.inj h;exact q rfl hk
theorem nd (h:(x !=("__debug__":Str))=true):(x==("__debug__":Str))=false:=by rwa [bne,Bool.not_eq_true'] at h
theorem SX.assignName (h:(aJo b.mu b.sc (cE g.cf n b.sc) e (.Name x xp)).run ρ=some r):Ex g b (exec (.Assign [.Name x xp] e p) b.env) ρ r.1 r.2:=
 aDr h fun hx h1=>aB (o:=evS g.cf b.mu n b.sc ρ x e) h1 fun sl hsl h2=>by
  rw [Bool.and_eq_true,Bool.not_eq_true'] at hx;exact Option.some.inj h2▸ .assign hx.1 hx.2 hsl
theorem aG7 (h:aFk e=true):∃o a p,e= .Attribute o a p:=by
 rcases e with _ | _ | _ | _ | _ | _ | _ | _ | _ | _ | _ | _ | _ | _ | _ | _ | _ | _ | _ | _ | ⟨e,a,p⟩ | _ | _ | _ | _ | _ | _ <;> first | exact no3 h | exact ⟨e,a,p,rfl⟩
theorem SX.assignTuple {ts:List Expr}{tp:Pos}(h:(aJn b.sc (cE g.cf n b.sc e) e ts).run ρ=some r):Ex g b (exec (.Assign [.Tuple ts k tp] e p) b.env) ρ r.1 r.2:=by
 rcases ts with _ | ⟨x,_ | ⟨y,_ | _⟩⟩ <;> first | exact no1 h | skip
 replace h:(aFl b.sc (cE g.cf n b.sc e) e (bQ x) (bQ y)).run ρ=some r:=h
 rcases hx:bQ x with _ | x' <;> rw [hx] at h
 ·exact no1 h
 rcases hy:bQ y with _ | y' <;> rw [hy] at h
 ·exact no1 h
 refine aDr h fun hc h1=>aB h1 fun v hv h2=> ?_
 rw [Bool.and_eq_true,Bool.and_eq_true] at hc;obtain ⟨o,a,ap,rfl⟩:=aG7 hc.2;obtain ⟨xp,rfl⟩:=oB hx;obtain ⟨yp,rfl⟩:=oB hy
 rcases v with _ | _ | _ | _ | _ | l | _ | _ | _ | _ <;> first | exact no1 h2 | skip
 rcases l with _ | ⟨v,_ | ⟨u,_ | _⟩⟩ <;> first | exact no1 h2 | skip
 refine bK h2 fun hf h3=> ?_
 rw [Bool.and_eq_true] at hf;exact Option.some.inj h3▸ .unpack hc.1.1 hc.1.2 hv hf.1 hf.2
theorem SX.assignSub {i:Expr}{tp:Pos}(h:(aGy (cE g.cf n b.sc e) (cE g.cf n b.sc i) o).run ρ=some r):Ex g b (exec (.Assign [.Subscript o i tp] e p) b.env) ρ r.1 r.2:=by
 rcases o with _ | _ | _ | _ | _ | _ | _ | _ | _ | _ | _ | _ | _ | _ | _ | _ | _ | _ | _ | _ | _ | _ | _ | ⟨x,_⟩ | _ | _ | _ <;> first | exact no1 h | skip
 unfold aGy at h;dsimp only at h
 rcases hd:x==("__debug__":Str) with _ | _ <;> rw [hd] at h
 ·refine aB h fun v hv h=>aB h fun k hk h=>aB h fun l hl h=>aJ6 hl fun hx hn=> ?_
  rcases k with _ | _ | k | _ | _ | _ | _ | _ | _ | _ <;> first | exact no1 h | skip
  refine aB h fun j hj h=>bK h fun hf h=> ?_
  rw [Bool.and_eq_true] at hf;exact Option.some.inj h▸ .setlist hd hv hk hx hj hf.2 hf.1 hn
 ·exact no1 h
theorem SX.assign {ts:List Expr}(h:exS g.cf b.mu (n+1) b.sc ρ (.Assign ts e p)=some r):Ex g b (exec (.Assign ts e p) b.env) ρ r.1 r.2:=by
 rcases ts with _ | ⟨t,_ | _⟩ <;> first | exact no1 h | skip
 rcases t with _ | _ | _ | _ | _ | _ | _ | _ | _ | _ | _ | _ | _ | _ | _ | _ | _ | _ | _ | _ | _ | _ | _ | _ | _ | _ | _ <;> first | exact no1 h | exact SX.assignName h | exact SX.assignTuple h | exact SX.assignSub h
theorem SX.meth1 {m:Str}(hl:(ap.endLine==q.line)=true)(h:(rN b.mu m (cE g.cf n b.sc e) e o).run ρ=some r):Ex g b (exec (.Expr (.Call (.Attribute o m ap) [e] [] q) p) b.env) ρ r.1 r.2:=by
 rcases o with _ | _ | _ | _ | _ | _ | _ | _ | _ | _ | _ | _ | _ | _ | _ | _ | _ | _ | _ | _ | _ | ⟨o,i,ip⟩ | _ | ⟨x,_⟩ | _ | _ | _ <;> first | exact no1 h | skip
 ·unfold rN at h;dsimp only at h
  rcases hx:bQ o with _ | x <;> rw [hx] at h
  ·exact no1 h
  obtain ⟨xp,rfl⟩:=oB hx;refine aDr h fun hc h=>aB h fun v hv h=>aB h fun l hl' h=>aJ6 hl' fun hx hn=>bK h fun hf h=>aB h fun l2 h2 h=> ?_
  rw [Bool.and_eq_true,Bool.and_eq_true] at hc;rw [beq_iff_eq.mp hc.1.1];exact Option.some.inj h▸ .last (nd hc.1.2) hl hc.2 hv hx hf h2 hn
 ·refine aDr h fun hc h=> ?_
  rw [Bool.and_eq_true] at hc;have hd:=nd hc.1
  rcases hm:m==("append":Str) with _ | _ <;> rw [hm] at h
  ·refine aDr h fun hm h=>aB h fun v hv h=>aB h fun l hl' h=>aJ6 hl' fun hx hn=>aB h fun l2 h2 h5=> ?_
   rcases v with _ | _ | _ | _ | k | _ | _ | _ | _ | _ <;> first | exact no1 h2 | skip
   refine bK h2 fun hf h2=> ?_
   rw [Bool.and_eq_true,Bool.and_eq_true,decide_eq_true_eq] at hf;rw [beq_iff_eq.mp hm];exact Option.some.inj h5▸Option.some.inj h2▸ .extend hd hl hv hx hf.1.1 hf.1.2 hn hf.2
  ·refine aB h fun v hv h=>aB h fun l hl' h=>aJ6 hl' fun hx hn=>aB h fun l2 h2 h5=> ?_
   rw [beq_iff_eq.mp hm];refine iC h2 (fun hf h6=> ?_) fun _ h6=>bK h6 fun hf h7=> ?_
   ·rw [Bool.and_eq_true] at hf;exact Option.some.inj h5▸Option.some.inj h6▸ .append hd hl hv hx hf.1 hf.2 hn
   ·rw [Bool.and_eq_true,beq_iff_eq] at hf
    rcases e with _ | _ | _ | _ | _ | _ | _ | _ | _ | _ | _ | _ | _ | _ | _ | _ | _ | _ | _ | _ | _ | _ | _ | _ | ⟨es,ep⟩ | _ | _ <;> first | exact no3 hf.1 | skip
    obtain rfl:es=[]:=List.isEmpty_iff.mp hf.1;have ev:v= .list []:=by
     rcases n with _ | _ | n
     ·exact no1 hv
     ·exact no1 hv
     ·exact (Option.some.inj hv).symm
    subst ev;exact Option.some.inj h5▸Option.some.inj h7▸ .grow hd hl rfl hv hx hf.2 hn
theorem SX.meth0 {m:Str}(hl:(ap.endLine==q.line)=true)(h:(zB m o).run ρ=some r):Ex g b (exec (.Expr (.Call (.Attribute o m ap) [] [] q) p) b.env) ρ r.1 r.2:=by
 rcases o with _ | _ | _ | _ | _ | _ | _ | _ | _ | _ | _ | _ | _ | _ | _ | _ | _ | _ | _ | _ | _ | _ | _ | ⟨x,_⟩ | _ | _ | _ <;> first | exact no1 h | skip
 refine aDr h fun hc h=>aB h fun l hl' h=>aJ6 hl' fun hx hn=>aB h fun l2 h2 h=>bK h2 fun hf h2=> ?_
 rw [Bool.and_eq_true,Bool.and_eq_true] at hc;rw [Bool.and_eq_true,Bool.not_eq_true'] at hf;rw [beq_iff_eq.mp hc.1.1];exact Option.some.inj h▸Option.some.inj h2▸ .pop (nd hc.1.2) hl hx hf.1 (fun q=>by rw [q] at hf;exact no4 hf.2) hn
theorem SX.app (h:(aJr b.mu (cE g.cf n b.sc) e).run ρ=some r):Ex g b (exec (.Expr e p) b.env) ρ r.1 r.2:=by
 rcases e with _ | _ | _ | _ | _ | _ | _ | _ | _ | _ | _ | _ | _ | _ | _ | _ | ⟨o,as,ks,q⟩ | _ | _ | _ | _ | _ | _ | _ | _ | _ | _ <;> first | exact no1 h | skip
 rcases ks with _ | _ <;> first | exact no1 h | skip
 rcases o with _ | _ | _ | _ | _ | _ | _ | _ | _ | _ | _ | _ | _ | _ | _ | _ | _ | _ | _ | _ | ⟨o,m,ap⟩ | _ | _ | _ | _ | _ | _ <;> first | exact no1 h | skip
 refine aDr h fun hl h=> ?_
 rcases as with _ | ⟨e,_ | _⟩
 ·exact SX.meth0 hl h
 ·exact SX.meth1 hl h
 ·exact no1 h
theorem SX.forS (iB:SXB g b n){t it:Expr}{els:List Stmt}(h:exS g.cf b.mu (n+1) b.sc ρ (.For t it body els p)=some r):Ex g b (exec (.For t it body els p) b.env) ρ r.1 r.2:=by
 rcases t with _ | _ | _ | _ | _ | _ | _ | _ | _ | _ | _ | _ | _ | _ | _ | _ | _ | _ | _ | _ | _ | _ | _ | ⟨x,_⟩ | _ | _ | _ <;> first | exact no1 h | skip
 rcases els with _ | _
 ·refine aDr h fun hx h1=>aB h1 fun xv hxv h2=>aB h2 fun l hl h3=> ?_
  rw [Bool.and_eq_true] at hx;exact .for (G:=fun ρ=>exB g.cf b.mu n b.sc ρ body) hx.1 (fun ρ'1 f ρ' hg=>iB body ρ'1 (f,ρ') hg) hxv hl h3
 ·exact aDr h fun hx _=>no3 (Bool.and_eq_true_iff.mp hx).2
theorem SX.whileS (iB:SXB g b n){t:Expr}{els:List Stmt}(h:exS g.cf b.mu (n+1) b.sc ρ (.While t body els p)=some r):Ex g b (exec (.While t body els p) b.env) ρ r.1 r.2:=by
 rcases els with _ | _
 ·exact .while (G:=fun ρ=>exB g.cf b.mu n b.sc ρ body) (fun ρ'1 f ρ' hg=>iB body ρ'1 (f,ρ') hg) (h:pJ (fun ρ=>evT g.cf n b.sc ρ.all t) _ n ρ=some (r.1,r.2))
 ·exact no1 h
theorem SX.ifS (iB:SXB g b n){t:Expr}{els:List Stmt}(h:exS g.cf b.mu (n+1) b.sc ρ (.If t body els p)=some r):Ex g b (exec (.If t body els p) b.env) ρ r.1 r.2:=fun S O s E Q R ht q=>
 aB h fun z hz h1=>wpAny_If (aFt (f:=⟨b.sc,b.env,ρ.all,b.A,S++b.F⟩) hz s E _ (R.cxAll ht) fun y s'1 o'1 e k'1=>by
  subst e;have p:=aG5.thru R.zok (.of R k'1 o'1.ht) q
  rcases y with _ | _
  ·exact iB els ρ r h1 S O s'1 E Q (R.kept k'1) o'1.ht p
  ·exact iB body ρ r h1 S O s'1 E Q (R.kept k'1) o'1.ht p)
theorem SX.succ (iB:SXB g b n):SX g b (n+1):=fun st ρ r h=>by
 rcases st with _ | _ | _ | ⟨e,p⟩ | _ | _ | _ | _ | _ | _ | _ | _ | _ | _ | _ | _ | _ | _ | _ | _ | _ | _ | _ | _ | _ | _ | _ | _ <;> first | exact no1 h | exact SX.assign h | exact SX.app h | exact SX.forS iB h | exact SX.whileS iB h | exact SX.ifS iB h | skip
 ·rcases e with _ | e
  ·exact no1 h
  ·exact aB h fun v hv h1=>Option.some.inj h1▸ .ret hv
 ·exact Option.some.inj h▸fun S O s E Q R ht q=>wpAny_Break (q O s ⟨ht,KW.refl s,fun _ h=> .inl h,R⟩)
theorem SXB.succ (iS:SX g b n)(iB:SXB g b n):SXB g b (n+1):=fun sts ρ r h=>by
 rcases sts with _ | ⟨st,sts⟩
 ·exact Option.some.inj h▸fun S O s E Q R ht q=>wpAny_execs_nil (q O s ⟨ht,KW.refl s,fun _ h=> .inl h,R⟩)
 ·refine aB h fun p hp h1 S O s E Q R ht q=>wpAny_execs_cons (iS st ρ p hp S O s E _ R ht ?_)
  rcases p with ⟨f | f | v,ρ'1⟩
  ·exact fun O1 s'1 on=>iB sts ρ'1 r h1 S O1 s'1 E Q on.rel on.toks (q.thru R.zok on)
  ·exact fun O1 s'1 on=>by
    obtain rfl:=Option.some.inj h1;exact q O1 s'1 on
  ·exact fun y s'1 rt=>by
    obtain rfl:=Option.some.inj h1;exact q y s'1 rt
theorem iZ (g:Eg)(b:Bk):∀n,SX g b n/\SXB g b n
 | 0=>⟨fun _ _ _ h=>no1 h,fun _ _ _ h=>no1 h⟩
 | n+1=>⟨SX.succ (iZ g b n).2,SXB.succ (iZ g b n).1 (iZ g b n).2⟩
end
section
set_option genInjectivity false
set_option genSizeOfSpec false
structure aG8 (fn:Fn)(h:Heap)(a:Addr)(fd:FuncData):Prop where
 data:∃o,h.get? a=some o/\o.data= .func fd
 body:fd.body= .stmts fn.body
 scope:fd.scope=fn.sc
 globals:fd.globals=mainGlobals
 builtins:fd.builtins=builtinsNs
 closure:fd.closure=[]
 code:h.CodeRec fd.code fd.qualname
 bind:∀vals:List Value,vals.length=fn.ps.length->bindArgs fd ⟨vals,[]⟩=pure (fn.ps.zip vals)
theorem kL {a:Str}{r:List Str}(h:gM (a::r)=true):a∉r/\gM r=true:=by
 rw [aDc] at h;simp only [Bool.and_eq_true,Bool.not_eq_true',List.contains_eq_mem,decide_eq_false_iff_not] at h;exact h
theorem kM {k:Str->Option NameKind}:∀(ps:List Str) (vs:List Value) (m:Str->Option Value),x∉ps->bindL k (ps.zip vs) m x=m x
 | [],_,_,_=>rfl
 | _::_,[],_,_=>rfl
 | p::ps,v::vs,m,h=>by
  have hx:x≠p:=fun q=>h (q▸List.mem_cons_self)
  show bindL k (ps.zip vs) _ x=m x;rw [kM ps vs _ fun q=>h (List.mem_cons_of_mem _ q)]
  split
  ·exact if_neg hx
  ·rfl
theorem kN {k:Str->Option NameKind}:∀(ps:List Str) (vs:List Value) (m:Str->Option Value),x∉ps->bindC k (ps.zip vs) m x=m x
 | [],_,_,_=>rfl
 | _::_,[],_,_=>rfl
 | p::ps,v::vs,m,h=>by
  have hx:x≠p:=fun q=>h (q▸List.mem_cons_self)
  show bindC k (ps.zip vs) _ x=m x;rw [kN ps vs _ fun q=>h (List.mem_cons_of_mem _ q)]
  split
  ·rfl
  ·exact if_neg hx
theorem uL {k:Str->Option NameKind}(hk:k x=some .local):∀(ps:List Str) (vs:List Value) (m:Str->Option Value) (u:Value),gM ps=true->(ps.zip vs).lookup x=some u->bindL k (ps.zip vs) m x=some u
 | [],_,_,_,_,h=>by simp at h
 | _::_,[],_,_,_,h=>by simp at h
 | p::ps,v::vs,m,u,hn,h=>by
  obtain ⟨h1,h2⟩:=kL hn;rw [List.zip_cons_cons,List.lookup_cons] at h;show bindL k (ps.zip vs) _ x=some u
  cases hx:x==p with
  | true=>
   rw [hx] at h;(replace h:=Option.some.inj h;subst h);have:x=p:=by simpa using hx
   subst this;rw [kM ps vs _ h1,if_pos hk];exact if_pos rfl
  | false=>
   rw [hx] at h;exact uL hk ps vs _ u h2 h
theorem uM {k:Str->Option NameKind}(hk:k x≠some .local):∀(ps:List Str) (vs:List Value) (m:Str->Option Value) (u:Value),gM ps=true->(ps.zip vs).lookup x=some u->bindC k (ps.zip vs) m x=some u
 | [],_,_,_,_,h=>by simp at h
 | _::_,[],_,_,_,h=>by simp at h
 | p::ps,v::vs,m,u,hn,h=>by
  obtain ⟨h1,h2⟩:=kL hn;rw [List.zip_cons_cons,List.lookup_cons] at h;show bindC k (ps.zip vs) _ x=some u
  cases hx:x==p with
  | true=>
   rw [hx] at h;(replace h:=Option.some.inj h;subst h);have:x=p:=by simpa using hx
   subst this;rw [kN ps vs _ h1,if_neg hk];exact if_pos rfl
  | false=>
   rw [hx] at h;exact uM hk ps vs _ u h2 h
theorem mT {V:Heap}:∀(ps:List Str) (vs:List Value) (l:List AV) (v:AV),aO V vs l->(ps.zip l).lookup x=some v->∃u,(ps.zip vs).lookup x=some u/\Den V u v/\x∈ps
 | [],_,_,_,_,h=>by simp at h
 | _::_,_,[],_,_,h=>by simp at h
 | p::ps,vs,a::l,v,hd,h=>by
  obtain ⟨y,ys,rfl,h1,h2⟩:=hd.cons_inv;rw [List.zip_cons_cons,List.lookup_cons] at h ⊢
  cases hx:x==p with
  | true=>
   rw [hx] at h;(replace h:=Option.some.inj h;subst h);have hxp:x=p:=by simpa using hx
   exact ⟨y,rfl,h1,hxp▸List.mem_cons_self⟩
  | false=>
   rw [hx] at h;obtain ⟨u,g1,g2,g3⟩:=mT ps ys l v h2 h;exact ⟨u,g1,g2,List.mem_cons_of_mem _ g3⟩
theorem bT.deeper {d:Nat}(r:bT A (d+1)):bT (A.deeper env) d:=
 ⟨r.handled,by have:=r.depth;show A.depth+1+d<990;exact sal this,by have:=r.units;show A.units+3+8*d+400<9900;lia⟩
variable {g:Eg}{M:List Addr}
theorem aMb {fn:Fn}(h:fn.ok=true):gM fn.ps=true/\(∀ x∈fn.ps,bE fn.sc x=true)/\(∀ y∈fn.sc.names,y.2≠ .free)/\fn.sc.kind= .function/\fn.sc.isCoroutine=false/\fn.sc.isGenerator=false:=by
 unfold Fn.ok at h;simp only [Bool.and_eq_true,List.all_eq_true,beq_iff_eq,bne_iff_ne,ne_eq,Bool.not_eq_true'] at h;exact ⟨h.1.1.1.1.1,h.1.1.1.1.2,h.1.1.1.2,h.1.1.2,h.1.2,h.2⟩
theorem rV {fn:Fn}(hs:fd.scope=fn.sc)(h:Heap)(hx:fn.sc.names.lookup x=some .cell):∃c,(cellsFrom (h.objs.size+1) fd.scope.names []).lookup x=some c:=by
 obtain ⟨c,h1,_⟩:=fH fn.sc.names (h.push {cls:= .type "dict",data:= .dict #[]}) [] ⟨(x,.cell),mem_of_lookup hx,rfl,rfl⟩;rw [Heap.size_push] at h1;exact ⟨c,hs▸h1⟩
noncomputable def uN (env:Env):List Addr:=env.locals::(env.cells.filter fun p=>env.cells.lookup p.1==some p.2).map Prod.snd
theorem uO {fn:Fn}(hok:fn.ok=true){args:List AV}(hat:aG8 fn s.heap a fd)(hA:bT A (g.d+1))(hS:g.Sta s.heap)(hZ:∀y∈Zt,y∈M)(hM:∀a∈M,∃o,s.heap.get? a=some o)(hd:aO (hide s.heap M) ys args)
  (X:InCallC s (callEnvC fd s.heap.objs.size a).locals (bindL (callEnvC fd s.heap.objs.size a).kindOf (fn.ps.zip ys) fun _=>none) (callEnvC fd s.heap.objs.size a).cells (bindC (callEnvC fd s.heap.objs.size a).kindOf (fn.ps.zip ys) fun _=>none) s'1):
  Rel g ⟨fn.sc,callEnvC fd s.heap.objs.size a,A.deeper (callEnvC fd s.heap.objs.size a),s,uN (callEnvC fd s.heap.objs.size a),fn.mu⟩ M [] (eE fn.ps args) s'1:=by
 obtain ⟨hnd,hps,hfree,hkind,hco,hgen⟩:=aMb hok;have hko:∀x,(callEnvC fd s.heap.objs.size a).kindOf x=fn.sc.names.lookup x:=fun x=>by
  show fd.scope.names.lookup x=_;rw [hat.scope]
 have hcells:∀x,fn.sc.names.lookup x=some .cell->∃c,(callEnvC fd s.heap.objs.size a).cells.lookup x=some c:=fun x hx=>rV hat.scope s.heap hx
 have fresh:∀b,s.heap.objs.size<=b->s.heap.get? b=none:=fun b hb=>by
  rcases e:s.heap.get? b with _ | o
  ·rfl
  ·exact absurd (Heap.lt_size e) (Nat.not_lt.mpr hb)
 obtain ⟨h'1,tk1,rfl⟩:=X.toInCall.same;have hexF:∀c,c∈uN (callEnvC fd s.heap.objs.size a)->s.heap.get? c=none/\∃o,h'1.get? c=some o:=fun c hc=>by
  rcases List.mem_cons.mp hc with rfl | hc
  ·exact ⟨fresh _ (Nat.le_refl _),X.toInCall.ns.imp fun o h=>h.elim fun _ h=>h.elim fun _ h=>h.1⟩
  ·obtain ⟨⟨x,c'⟩,h1,rfl⟩:=List.mem_map.mp hc;have hx:=beq_iff_eq.mp (List.mem_filter.mp h1).2;exact ⟨fresh _ (Nat.le_of_lt (X.above x c' (mem_of_lookup hx))),(X.cell x c' hx).imp fun o h=>h.1⟩
 have kp:Kp s {s with heap:=h'1,toks:=tk1}:=KW.of_keep X.toInCall.keep;refine ⟨⟨⟨fun x h=>(hko x).trans h,fun x h=>(hko x).trans h,fun x h=>(hko x).trans h,fun x h=>absurd rfl (hfree _ (mem_of_lookup h))⟩,hA.deeper,hS,by show fd.scope.kind=_;rw [hat.scope]; exact hkind,hat.globals,hat.builtins,fun c hc=>(hexF c hc).1,.head _,
  fun x c e=>⟨List.mem_cons_of_mem _ (List.mem_map.mpr ⟨(x,c),List.mem_filter.mpr ⟨mem_of_lookup e,beq_iff_eq.mpr e⟩,rfl⟩),Nat.ne_of_gt (X.above x c (mem_of_lookup e))⟩,fun x y c e e'=>name_of_addr X.apart (mem_of_lookup e) (mem_of_lookup e'),fun x hx=> ?_⟩,
  kp,(fun _ h=>nomatch h),(fun _ h=>nomatch h),fun b hb=> ?_,(fun _ h=>nomatch h),(fun _ h=>nomatch h),hZ,⟨_,X.toInCall.ns⟩,fun x c e=>⟨_,X.cell x c e⟩,fun x v e=> ?_,fun x v e=> ?_,fun x v e=> ?_,fun x y v v' a e=> ?_⟩
 ·rw [hko] at hx;obtain ⟨c,hc⟩:=hcells x hx;rw [hc]; rfl
 ·rw [List.append_nil] at hb;exact (List.mem_append.mp hb).elim (fun q=>kp.ex (g.S.zok _ hS) (hM b q)) fun q=>(hexF b q).2
 ·refine gJ e fun v' h1 h2=> ?_
  obtain rfl:=Slot.val.inj h2;obtain ⟨u,g1,g2,g3⟩:=mT fn.ps ys args v' hd h1;refine ⟨u,?_,g2.keeps (aH (fun b h3 h4=> ?_) fun b o _ e=>X.toInCall.keep b o e)⟩
  ·have hv:=hps x g3;unfold bE at hv;rw [Bool.or_eq_true,beq_iff_eq,beq_iff_eq] at hv
   rcases hv with hv | hv
   ·have hl:=(hko x).trans hv;exact .inl ⟨hl,_,X.toInCall.ns,uL hl _ _ _ _ hnd g1⟩
   ·have hl:=(hko x).trans hv;obtain ⟨c,hc⟩:=hcells x hv;refine .inr (.inl ⟨hl,c,hc,?_⟩);have:=X.cell x c hc
    rwa [uM (by rw [hl]; decide) _ _ _ _ hnd g1] at this
  ·rw [List.append_nil] at h3;exact (List.mem_append.mp h3).elim (fun q=>absurd q h4) fun q=>(hexF b q).1
 ·exact gJ e fun v' _ h2=>nomatch h2
 ·exact gJ e fun v' _ h2=>nomatch h2
 ·exact gJ e fun v' _ h2=>nomatch h2
theorem jA {o:Obj}{binds:List (Str × Value)}(ht:0<s.toks)
  (hroom:A.depth<recursionLimit) (ho:s.heap.get? a=some o) (hdata:o.data= .func fd) (hlim:s.heap.NoLimit) (hcd:s.heap.CodeRec fd.code fd.qualname)
  (hbody:fd.body= .stmts body) (hbind:bindArgs fd ⟨vals,[]⟩=pure binds) (hclo:fd.closure=[])
  (hkind:∀x∈binds,fd.scope.names.lookup x.1=some .local\/(fd.scope.names.lookup x.1=some .cell/\((cellsFrom (s.heap.objs.size+1) fd.scope.names []).lookup x.1).isSome=true))
  (h:∀s'1 E,0<s'1.toks->InCallC s (callEnvC fd s.heap.objs.size a).locals (bindL (callEnvC fd s.heap.objs.size a).kindOf binds fun _=>none) (callEnvC fd s.heap.objs.size a).cells
    (bindC (callEnvC fd s.heap.objs.size a).kindOf binds fun _=>none) s'1->
   wpAny (model prog w) (A.deeper (callEnvC fd s.heap.objs.size a)) (execs body (callEnvC fd s.heap.objs.size a)) (fun f s'=>R (.ok (.ret (match f with | .ret v=>v | _=> .none))) s') E s'1)
  (hco:fd.scope.isCoroutine=false) (hgen:fd.scope.isGenerator=false) (hk:fd.scope.kind= .function):
  codeAny (model prog w) A (.call (.ref a) ⟨vals,[]⟩) R s:=by
 refine codeAny_call_function hroom ho hdata hco hgen hbody hcd ?_;rw [hbind,hclo];refine wpAny_pure (wpAny_with_toks (n:=1) ht (wpAny_newFunctionEnv_cells hk hkind fun env he s' x ht'=> ?_));subst he;exact ⟨hlim.keeps x.toInCall.keep,codeAny_func (h s' _ ht' x)⟩
theorem rW {fn:Fn}(hok:fn.ok=true){args:List AV}{R:Value->Shared->Prop}(hat:∀h,g.Sta h->aG8 fn h a fd/\h.NoLimit)(hlen:fn.ps.length=args.length)
  (hA:bT A (g.d+1)) (hS:g.Sta s.heap) (hZ:∀y∈Zt,y∈M) (hM:∀a∈M,∃o,s.heap.get? a=some o) (ht:0<s.toks) (hd:aO (hide s.heap M) ys args)
  (k:∀b s'1 E,b.s'0=s->b.sc=fn.sc->b.mu=fn.mu->Rel g b M [] (eE fn.ps args) s'1->0<s'1.toks->wpAny (model g.prog g.w) b.A (execs fn.body b.env) (fun f s'=>R (match f with | .ret v=>v | _=> .none) s') E s'1):wpAny (model g.prog g.w) A (call (.ref a) ys) R E s:=by
 obtain ⟨hnd,hps,hfree,hkind,hco,hgen⟩:=aMb hok;obtain ⟨hf,hlim⟩:=hat _ hS;obtain ⟨o,ho,hod⟩:=hf.data;refine wpAny_call (jA ht (binds:=fn.ps.zip ys) (Nat.lt_of_le_of_lt (Nat.le_add_right _ _) (Nat.lt_trans hA.depth (by decide))) ho hod hlim hf.code hf.body (hf.bind ys (by rw [hd.1]; exact hlen.symm)) hf.closure (fun x hx=> ?_)
  (fun s'1 E1 ht1 X=>k ⟨fn.sc,callEnvC fd s.heap.objs.size a,A.deeper (callEnvC fd s.heap.objs.size a),s,uN (callEnvC fd s.heap.objs.size a),fn.mu⟩ s'1 E1 rfl rfl rfl (uO hok hf hA hS hZ hM hd X) ht1) (by rw [hf.scope]; exact hco) (by rw [hf.scope]; exact hgen) (by rw [hf.scope]; exact hkind))
 have hv:=hps x.1 (List.of_mem_zip hx).1;unfold bE at hv;rw [Bool.or_eq_true,beq_iff_eq,beq_iff_eq] at hv;rw [hf.scope];refine hv.imp id fun hv=>⟨hv,?_⟩
 obtain ⟨c,hc⟩:=rV hf.scope s.heap hv;rw [hf.scope] at hc;rw [hc]; rfl
theorem uP {fn:Fn}(hok:fn.ok=true){fuel:Nat}{args:List AV}(hat:∀h,g.Sta h->aG8 fn h a fd/\h.NoLimit)(h:bS g.cf fuel fn args=some v):aL g.prog g.w g.Sta (g.d+1) a args v:=fun A E s M ys hA hS hZ hM ht hd=>by
 refine bK h fun hlen h=>rW hok hat hlen hA hS hZ hM ht hd fun b s'1 E1 e1 e2 e3 R ht1=> ?_
 rw [<- e2,<-e3] at h;subst e1
 rcases hb:exB g.cf b.mu fuel b.sc (eE fn.ps args) fn.body with _ | ⟨f | f | u,ρ'⟩ <;> rw [hb] at h
 ·exact no1 h
 ·obtain rfl:=Option.some.inj h;exact (iZ g b fuel).2 fn.body _ _ hb M [] s'1 E1 _ R ht1 fun O' s' on=>⟨.none,on.rel.kp⟩
 ·exact no1 h
 ·obtain rfl:=Option.some.inj h;exact (iZ g b fuel).2 fn.body _ _ hb M [] s'1 E1 _ R ht1 fun y s' r=>⟨r.den,r.kp⟩
end
noncomputable def iM (n:Str)(mu:List Str):List Stmt->Option Fn
 | []=>none
 | .FunctionDef m a b _ _ _ sc _ _ _::r=>if m==n then some ⟨a.args.map (·.arg),mu,b,sc⟩ else iM n mu r
 | _::r=>iM n mu r
noncomputable def eN:Bool->List Nat->List Nat
 | _,[]=>[]
 | b,c::r=>if c=10 then (if b then eN false r else 13::10::eN false r) else if c=13 then 13::10::eN true r else c::eN false r
noncomputable def dW (l:List Nat):List Nat:=eN false l
theorem aG9 (b:Bool)(c:Nat)(r:List Nat):eN b (c::r)=if c=10 then (if b then eN false r else 13::10::eN false r) else if c=13 then 13::10::eN true r else c::eN false r:=rfl
theorem aMc {b:Bool}{c:Nat}{r:List Nat}(h1:c≠10)(h2:c≠13):eN b (c::r)=c::eN false r:=(if_neg h1).trans (if_neg h2)
noncomputable def dX (b:Bool):List Nat->List Nat
 | []=>[]
 | c::r=>if c=46/\b then 46::46::dX false r else c::dX (c==10) r
theorem qB:∀(b:Bool) (c:Nat) (r:List Nat),dX b (c::r)=if c=46/\b=true then 46::46::dX false r else c::dX (c==10) r:=fun _ _ _=>rfl
noncomputable def kP (s:Str):Str:=⟨(dX true (dW s.cps.toList)).toArray⟩
noncomputable def aAe:List AV->Option AV
 | [.str s]=>if s.length<=2^12 then some (.str (kP s)) else none
 | [.alt l]=>match l with
  | []=>none
  | a::r=>if (a::r).all fun s=>decide (s.length<=2^12)&&kP s==kP a then some (.str (kP a)) else none
 | _=>none
noncomputable def lS:List Nat->List Int->Int->Int->Int->List Int × Int × Int × Int
 | 32::r,count,b,n,nt=>lS r count (b+1) (n+1) nt
 | 9::r,count,b,n,nt=>
  let count:=if b>=count.length then count++List.replicate (b- count.length+1).toNat 0 else count
  lS r (count.set b.toNat (count.getD b.toNat 0+1)) 0 (n+1) (nt+1)
 | _,count,b,n,nt=>(count,b,n,nt)
section
set_option genInjectivity false
set_option genSizeOfSpec false
variable {g:Eg}{b:Bk}{O':List Addr}{ρ':St}{t:Shared}
theorem Rel.rebase (R:Rel g b S O ρ s)(k:Kp t b.s'0)(hS:g.Sta t.heap):Rel g {b with s'0:=t} S O ρ s:=
 {R with
  ok:={R.ok with sta:=hS,new:=fun a ha=>k.none (g.S.zok _ hS) (R.ok.new a ha)}
  kp:=k.trans R.kp
  newO:=fun a ha=>k.none (g.S.zok _ hS) (R.newO a ha)}
theorem aJ7 (hS:g.Sta h):∀y∈Zt,∃o,h.get? y=some o:=fun y hy=>by
 obtain ⟨z,hz,rfl⟩:=List.mem_map.mp (show y∈Zs.map (·.2) from hy);obtain ⟨ps,hp⟩:=(g.S.zok _ hS).at' z hz;exact ⟨_,hp.2.2⟩
theorem kQ {nm n:Str}(h:fs.lookup nm=none):(fs++[(nm,v)]).lookup n=if n=nm then some v else fs.lookup n:=by
 induction fs with
 | nil=>
  show List.lookup n [(nm,v)]=_;rw [List.lookup_cons]
  by_cases q:n=nm
  ·rw [if_pos q,beq_iff_eq.mpr q]
  ·rw [if_neg q,beq_eq_false_iff_ne.mpr q]
 | cons p r ih=>
  obtain ⟨k,u⟩:=p;rw [List.cons_append,List.lookup_cons,List.lookup_cons];rw [List.lookup_cons] at h
  rcases hk:nm==k with _ | _ <;> rw [hk] at h
  ·rcases hn:n==k with _ | _
   ·exact ih h
   ·rw [if_neg fun q=>by rw [<- q,hn] at hk;exact no4 hk]
  ·exact no2 h
structure Mk (g:Eg)(b:Bk)(S:List Addr)(x dx:Addr)(s:Shared)(O:List Addr)(ρ:St)(fs:List (Str × AV)):Prop where
 rel:Rel g b S O ρ s
 inst:∃mA,s.heap.Inst x g.cf.c mA/\(∀ n,(mA n).isSome=(fs.lookup n).isSome)/\∀n u v,mA n=some u->fs.lookup n=some v->Den (hide s.heap (S++b.F++O)) u v
 dict:∀o,s.heap.get? x=some o->o.dict=some dx
 toks:0<s.toks
 ap:∀y∈[x,dx],y∈S/\y∉b.F/\b.s'0.heap.get? y=none
theorem rX {x:Addr}(I:h.Inst x c mA)(hd:∀o,h.get? x=some o->o.dict=some dx)(k:∀y∈[x,dx], ∀o,h.get? y=some o->h'.get? y=some o):h'.Inst x c mA/\∀o,h'.get? x=some o->o.dict=some dx:=by
 obtain ⟨o,ho,hc,hcl,hod⟩:=I;have e:=hd o ho;have ho':=k x (.head _) o ho;refine ⟨⟨o,ho',hc,hcl,?_⟩,fun o' e'=>Option.some.inj (ho'.symm.trans e')▸e⟩
 rcases hod with ⟨hn,_⟩ | ⟨d2,hd2,hne,hns⟩
 ·exact no1 (hn.symm.trans e)
 ·obtain rfl:=Option.some.inj (hd2.symm.trans e);exact .inr ⟨d2,hd2,hne,hns.imp fun o=>Exists.imp fun _=>Exists.imp fun _=>And.imp (k d2 (.tail _ (.head _)) o) id⟩
variable {x:Addr}
theorem Mk.on (m:Mk g b S x dx s O ρ fs)(on:On g b S O s ρ' O' s'):Mk g b S x dx s' O' ρ' fs:=by
 obtain ⟨mA,hI,h1,h2⟩:=m.inst;have kk:∀y∈[x,dx], ∀o,s.heap.get? y=some o->s'.heap.get? y=some o:=fun y hy o e=>
  on.kw.keep y o (fun q=>(List.mem_append.mp q).elim (m.ap y hy).2.1 fun q=>m.rel.apS y q (m.ap y hy).1) (fun q=>(aJ7 m.rel.ok.sta y q).elim fun _ e=>no1 ((m.ap y hy).2.2.symm.trans e)) e
 obtain ⟨hI',hd'⟩:=rX hI m.dict kk;refine ⟨on.rel,⟨mA,hI',h1,fun n u v e1 e2=>(h2 n u v e1 e2).keeps fun p o e=> ?_⟩,hd',on.toks,m.ap⟩;have e':=aA.mp e;refine aA.mpr ⟨fun q=> ?_,on.kw.keep p o (fun q=>e'.1 ?_) (fun q=>e'.1 (List.mem_append_left _ (List.mem_append_left _ (m.rel.tabs p q)))) e'.2⟩
 ·rcases List.mem_append.mp q with q | q
  ·exact e'.1 (List.mem_append_left _ q)
  ·exact (on.new p q).elim (fun q=>e'.1 (List.mem_append_right _ q)) fun z=>no1 (z.symm.trans e'.2)
 ·exact (List.mem_append.mp q).elim (fun z=>List.mem_append_left _ (List.mem_append_right _ z)) (List.mem_append_right _)
structure wJ (Sta:Heap->Prop)(mN:Str->Option Value)(c N:Addr):Prop where
 at':∀h,Sta h->ClsAt (hide h Zt) c N mN
 ga:mN "__getattribute__"=none
 sa:mN "__setattr__"=none
structure uQ (mN:Str->Option Value)(n:Str):Prop where
 no:mN n=none
 lk:typeLookup (.type "object") n=pure none
theorem Mk.setattr {slf nm:Str}{Q:Flow->Shared->Prop}(m:Mk g b S x dx s O ρ fs)(K:wJ g.Sta mN g.cf.c N)(nn:uQ mN nm)(hxC:x≠g.cf.c)(hd:(slf==("__debug__":Str))=false)(hself:ρ slf=some (.val (.addr x)))(hfs:fs.lookup nm=none)(hfl:fs.length<=50)
  (hsw:swapsWith e (some (.Attribute (.Name slf p1) nm p2)) p3.line b.env=pure false) (hv:evE g.cf n b.sc ρ.all e=some v) (hf:flat v=true) (h:∀s',Mk g b S x dx s' O ρ (fs++[(nm,v)])->Q .next s'):
  wpAny (model g.prog g.w) b.A (exec (.Assign [.Attribute (.Name slf p1) nm p2] e p3) b.env) Q E s:=by
 refine plainObj_wpAny_Assign_Attribute (iK (f:=⟨b.sc,b.env,ρ.all,b.A,S++b.F⟩) hv s E _ (m.rel.cxAll m.toks) fun y s'1 o'1 d'1 k'1=> ?_) hsw;have m'1:=m.on (.of m.rel k'1 o'1.ht);obtain ⟨us,hbs,hds⟩:=m'1.rel.vals slf _ hself
 cases hds with
 | addr=>
 refine bF m.rel.ok.kind hbs hd ?_;obtain ⟨mA,hI,h1,h2⟩:=m'1.inst;obtain ⟨ob,hob,_⟩:=id hI;have hobd:=m'1.dict ob hob;obtain ⟨cr,hC⟩:=kE (cV (K.at' _ m'1.rel.sta));have hy:=d'1.flat_hide m'1.rel.noTup hf;obtain ⟨hp,gs,dw,tk,os⟩:=s'1;refine wpAny_with_toks (n:=1) o'1.ht (store_attr PySem.F.store_object hC (cV (K.at' _ m'1.rel.sta)).ns K.sa nn.no nn.lk hxC hI (fun h' tk' hI' hk ho ht'=>h _ ?_) (ns:=fs.map (·.1)) (fun y hy=> ?_) (by rw [sizeLine_eq,List.length_map]; exact lit hfl rfl))
 ·obtain ⟨ob',hob',_,_,_,hd'⟩:=ho ob hob;have e':=hd' dx hobd;have hdx':∀o,h'.get? x=some o->o.dict=some dx:=fun o e=>Option.some.inj (hob'.symm.trans e)▸e'
  have kk:∀p o,p∉[x,dx]->hp.get? p=some o->h'.get? p=some o:=fun p o hn e=>hk p o (fun q=>hn (q▸ .head _)) (fun o'0 dx0 e1 e2 q=>hn (by
   obtain rfl:=Option.some.inj (hob.symm.trans e1);obtain rfl:=Option.some.inj (hobd.symm.trans e2);exact q▸ .tail _ (.head _))) e
  have hex:∀y∈[x,dx],y∈S->∃o,h'.get? y=some o:=fun y hy _=>by
   rcases List.mem_cons.mp hy with rfl | hy
   ·exact ⟨_,hob'⟩
   ·obtain ⟨o2,ho2,_,_,hd2⟩:=hI';obtain rfl:=Option.some.inj (hob'.symm.trans ho2)
    rcases hd2 with ⟨hn,_⟩ | ⟨d2,hd2,_,o4,_,_,ho4,_⟩
    ·exact no1 (hn.symm.trans e')
    ·rw [List.mem_singleton.mp hy,Option.some.inj (e'.symm.trans hd2)];exact ⟨o4,ho4⟩
  have R':=m'1.rel.move (X:=[x,dx]) (h':=h') (tk:=tk') (fun _ q=>q) m.rel.tabs m.ap hex kk;refine ⟨R',⟨_,hI',fun n=> ?_,fun n u v' e1 e2=> ?_⟩,hdx',ht',m.ap⟩
  ·rw [kQ hfs]
   by_cases q:n=nm
   ·rw [if_pos q,if_pos q]; rfl
   ·rw [if_neg q,if_neg q]; exact h1 n
  ·have up:∀p o,(hide hp (S++b.F++O)).get? p=some o->(hide h' (S++b.F++O)).get? p=some o:=aH (fun p z1 z2=>absurd z1 z2) fun p o hn e=>kk p o (fun q=>hn (List.mem_append_left _ (List.mem_append_left _ (m.ap p q).1))) e
   rw [kQ hfs] at e2
   by_cases q:n=nm
   ·rw [if_pos q] at e1 e2;rw [<- Option.some.inj e1,<-Option.some.inj e2];exact hy.keeps up
   ·rw [if_neg q] at e1 e2;exact (h2 n u v' e1 e2).keeps up
 ·have hs:(fs.lookup y).isSome=true:=by
   rw [<- h1 y]
   rcases e:mA y with _ | _
   ·exact absurd e hy
   ·rfl
  obtain ⟨u,hu⟩:=Option.isSome_iff_exists.mp hs;exact List.mem_map.mpr ⟨(y,u),mem_of_lookup hu,rfl⟩
theorem Mk.next {st:Stmt}{rest:List Stmt}{Q:Flow->Shared->Prop}(m:Mk g b S x dx s O ρ fs)(hst:Ex g b (exec st b.env) ρ .next ρ')(h:∀s' O',Mk g b S x dx s' O' ρ' fs->wpAny (model g.prog g.w) b.A (execs rest b.env) Q E s'):wpAny (model g.prog g.w) b.A (execs (st::rest) b.env) Q E s:=
 wpAny_execs_cons (hst S O s E _ m.rel m.toks fun O' s' on=>h s' O' (m.on on))
theorem Mk.forRaw {slf nm ch:Str}{lb:List Stmt}{G:St->Option (Fl × St)}{Q:Flow->Shared->Prop}(m:Mk g b S x dx s O ρ fs)(K:wJ g.Sta mN g.cf.c N)(nn:uQ mN nm)(hd:(slf==("__debug__":Str))=false)(hself:ρ slf=some (.val (.addr x)))(hraw:fs.lookup nm=some (.str raw))(hch:bE b.sc ch=true)
  (hbody:∀ρ'1 f ρ',G ρ'1=some (f,ρ')->Ex g b (execs lb b.env) ρ'1 f ρ') (hfor:vZ (fun a ρ=>G (ρ.set ch (.val a))) (raw.cps.toList.map fun c=> .str ⟨#[c]⟩) ρ=some (.next,ρ')) (h:∀s' O',Mk g b S x dx s' O' ρ' fs->Q .next s'):
  wpAny (model g.prog g.w) b.A (exec (.For (.Name ch p1) (.Attribute (.Name slf p2) nm p3) lb [] p4) b.env) Q E s:=by
 obtain ⟨mA,hI,h1,h2⟩:=m.inst;obtain ⟨u,hu⟩:=Option.isSome_iff_exists.mp (show (mA nm).isSome=true by rw [h1,hraw]; rfl);have hden:=h2 nm u _ hu hraw;obtain ⟨us,hbs,hds⟩:=m.rel.vals slf _ hself
 cases hds with
 | addr=>
 refine wpAny_For ?_;rw [arm_eval_Attribute,eL rfl];refine wpAny_bind (bF m.rel.ok.kind hbs hd (wpAny_bind (wpAny_standAt (wpAny_bind (wpAny_holding (iG (cV (K.at' _ m.rel.sta)) K.ga nn.no nn.lk hI hu hden.handed (wpAny_bind (wpAny_letTemporaryGo (wpAny_pure ?_)))))))));have on:On g b S O s ρ O {s with toks:=s.toks+1}:= .of m.rel Kp.toks (Nat.succ_pos _);exact wpAny_with_toks (n:=1) (Nat.succ_pos _) (bG (s:={s with toks:=s.toks+1}) m.rel.ok.room.handled (x:= .str raw) rfl hden fun I fp wr P St s'2 src t'2=>uK src on.rel t'2 hch hbody hfor fun O' s' on'=>h s' O' (m.on (on.trans m.rel.zok on')))
theorem Mk.den {M:List Addr}(m:Mk g b S x dx s O ρ fs)(hM:∀a∈M,a∈S)(hn:∀y∈[x,dx],y∉M):Den (hide s.heap M) (.ref x) (.inst g.cf.c fs):=by
 obtain ⟨mA,hI,h1,h2⟩:=m.inst;have hI':=(rX (h':=hide s.heap M) hI m.dict fun y hy o e=>aA.mpr ⟨hn y hy,e⟩).1;exact .inst hI' h1 fun n u v e1 e2=>(h2 n u v e1 e2).keeps (aH (fun p z1 z2=>absurd (List.mem_append_left _ (List.mem_append_left _ (hM p z1))) z2) fun _ _ _ e=>e)
end
section
variable {g:Eg}{b:Bk}{O':List Addr}{ρ':St}{t:Shared}{x:Addr}
theorem Mk.store (m:Mk g b S x dx s O ρ fs){y:Str}{u:Value}{Q:Unit->Shared->Prop}(hy:bE b.sc y=true)(hd:Den (hide s.heap (S++b.F++O)) u v)(h:∀s',Mk g b S x dx s' O (ρ.set y (.val v)) fs->Q () s'):wpAny (model g.prog g.w) b.A (storeName b.env y u) Q E s:=
 gQ m.rel m.toks hy (sl:= .val v) hd fun s' on=>h s' (m.on on)
theorem aHa {vs:Array Value}{Q:List Value->Shared->Prop}(hh:A.handled=none)(ht:s.heap.IsTuple a vs)(hn:n=vs.size)(h:∀h',(∀ p o,s.heap.get? p=some o->h'.get? p=some o)->Q vs.toList {s with heap:=h'}):
  wpAny (model prog w) A (unpackItems (.ref a) n none) Q E s:=by
 subst hn;exact wpAny_unpackItems_tuple hh ht fun h' he=>h h' fun p o e=>he p o (Nat.ne_of_lt (Heap.lt_size e)) e
theorem Mk.swapTwo {cn a1 a2 n1 n2:Str}{k1 k2:Nat}{v1 v2:Str}{t1 t2:Tok}{Q:Flow->Shared->Prop}(m:Mk g b S x dx s O ρ fs)
  (hg:g.mg cn=some (.ref g.cf.c)) (hcn:b.sc.names.lookup cn=some .globalImplicit) (hcd:¬(cn==("__debug__":Str))=true) (hx1:bE b.sc n1=true) (hx2:bE b.sc n2=true)
  (hc1:∀(A:Around) (E:Value->Shared->Prop) (s:Shared) (Q:Value->Shared->Prop),g.Sta s.heap->Q (.str v1 t1) {s with toks:=s.toks+1}->wpAny (model g.prog g.w) A (getAttr (.ref g.cf.c) a1 true) Q E s)
  (hc2:∀(A:Around) (E:Value->Shared->Prop) (s:Shared) (Q:Value->Shared->Prop),g.Sta s.heap->Q (.str v2 t2) {s with toks:=s.toks+1}->wpAny (model g.prog g.w) A (getAttr (.ref g.cf.c) a2 true) Q E s)
  (hsw:swappedStores [.Tuple [.Name n1 q1,.Name n2 q2] k1 q3] (.Tuple [.Attribute (.Name cn q4) a1 q5,.Attribute (.Name cn q6) a2 q7] k2 q8) b.env=pure (some [n1,n2]))
  (h:∀s',Mk g b S x dx s' O ((ρ.set n2 (.val (.str v2))).set n1 (.val (.str v1))) fs->Q .next s'):
  wpAny (model g.prog g.w) b.A (exec (.Assign [.Tuple [.Name n1 q1,.Name n2 q2] k1 q3] (.Tuple [.Attribute (.Name cn q4) a1 q5,.Attribute (.Name cn q6) a2 q7] k2 q8) q9) b.env) Q E s:=by
 have one:∀{a:Str} {v:Str} {t:Tok} {p p':Pos} {s:Shared} {Q:Value->Shared->Prop} {E:Value->Shared->Prop},(∀ (A:Around) (E:Value->Shared->Prop) (s:Shared) (Q:Value->Shared->Prop),g.Sta s.heap->Q (.str v t) {s with toks:=s.toks+1}->wpAny (model g.prog g.w) A (getAttr (.ref g.cf.c) a true) Q E s)->
   g.Sta s.heap->Q (.str v t) {s with toks:=s.toks+1}->wpAny (model g.prog g.w) b.A (eval (.Attribute (.Name cn p) a p') b.env) Q E s:=by
  intro a v t p p' s Q E hc hs hq;rw [arm_eval_Attribute,eL rfl];refine wpAny_bind (Name_function_global m.rel.ok.kind (m.rel.ok.env.glob _ hcn) (loadGlobal_global (env:=b.env) (m.rel.ok.globals▸g.S.g _ hs) hg ?_) (Bool.eq_false_iff.mpr hcd));exact wpAny_bind (wpAny_standAt (wpAny_bind (wpAny_holding (hc _ _ _ _ hs (wpAny_bind (wpAny_letTemporaryGo (wpAny_pure hq)))))))
 refine Assign_Tuple_swapped (names:=[n1,n2]) ?_ rfl hsw;refine wpAny_Tuple (wpAny_items_cons (one hc1 m.rel.sta (wpAny_items_cons (one hc2 m.rel.sta (wpAny_items_nil ?_)) (bH rfl))) (bH rfl));refine ⟨by rw [sizeLine_eq]; exact Nat.le_of_ble_eq_true rfl,?_⟩;refine aHa m.rel.ok.room.handled (vs:= #[.str v1 t1,.str v2 t2]) ⟨_,Heap.get?_push_size _ rfl,rfl,0,rfl⟩ rfl fun h' hk=> ?_
 have m':Mk g b S x dx {s with heap:=h',toks:=s.toks+1+1} O ρ fs:=m.on (.of m.rel (KW.of_keep fun p o e=>hk p o (Heap.get?_push_of_some _ e)) (Nat.succ_pos _));show wpAny _ b.A (do holding [.str v1 t1] (bindName b.env n2 (.str v2 t2)); assignInOrder [fun v=>bindName b.env n1 v] [.str v1 t1]) _ _ _;refine wpAny_bind (wpAny_holding (wpAny_bindName (m'.store hx2 (.str _ _) fun s'1 m'1=> ?_)));show wpAny _ b.A (do holding [] (bindName b.env n1 (.str v1 t1)); assignInOrder [] []) _ _ _;exact wpAny_bind (wpAny_holding (wpAny_bindName (m'1.store hx1 (.str _ _) fun s'2 m'2=>wpAny_pure (h s'2 m'2))))
theorem Mk.three {n1 n2 n3:Str}{i:Int}{Q:Flow->Shared->Prop}(m:Mk g b S x dx s O ρ fs)(hx1:bE b.sc n1=true)(hx2:bE b.sc n2=true)(hx3:bE b.sc n3=true)
  (h:∀s',Mk g b S x dx s' O (((ρ.set n1 (.val (.int i))).set n2 (.val (.int i))).set n3 (.val (.int i))) fs->Q .next s'):
  wpAny (model g.prog g.w) b.A (exec (.Assign [.Name n1 q1,.Name n2 q2,.Name n3 q3] (.Constant (.int i) k q4) q5) b.env) Q E s:=
 wpAny_Assign_three (wpAny_Constant_int (wpAny_assign_Name ((m.on (.of m.rel Kp.toks (Nat.succ_pos _))).store hx1 (.int _ _) fun _ m'1=>wpAny_assign_Name (m'1.store hx2 (.int _ _) fun _ m'2=>wpAny_assign_Name (m'2.store hx3 (.int _ _) fun s3 m3=>h s3 m3)))))
noncomputable def rY (ρ:St):St:=((((((ρ.set "T" (.val (.str "\t"))).set "S" (.val (.str " "))).set "count" (.own (.list []))).set "b" (.val (.int 0))).set "n" (.val (.int 0))).set "nt" (.val (.int 0)))
theorem aDs {ρ5:St}{lb:List Stmt}{e6 e7 e8 e9:Expr}{v6 v7 v8 v9:AV}{tS tT:Tok}
  {k1 k2 k3:Nat}
  (m:Mk g b S x dx s [] ρ []) (K:wJ g.Sta mN g.cf.c N) (hxC:x≠g.cf.c) (nn:∀y∈[ofString "raw",ofString "n",ofString "nt",ofString "norm",ofString "is_simple"],uQ mN y)
  (hself:ρ "self"=some (.val (.addr x))) (hws:ρ "ws"=some (.val (.str raw)))
  (hg:g.mg "Whitespace"=some (.ref g.cf.c)) (hcn:b.sc.names.lookup (ofString "Whitespace")=some NameKind.globalImplicit)
  (hv:∀y∈([ofString "S",ofString "T",ofString "count",ofString "b",ofString "n",ofString "nt",ofString "ch"]),bE b.sc y=true)
  (hc1:∀(A:Around) (E:Value->Shared->Prop) (s:Shared) (Q:Value->Shared->Prop),g.Sta s.heap->Q (.str " " tS) {s with toks:=s.toks+1}->wpAny (model g.prog g.w) A (getAttr (.ref g.cf.c) "S" true) Q E s)
  (hc2:∀(A:Around) (E:Value->Shared->Prop) (s:Shared) (Q:Value->Shared->Prop),g.Sta s.heap->Q (.str "\t" tT) {s with toks:=s.toks+1}->wpAny (model g.prog g.w) A (getAttr (.ref g.cf.c) "T" true) Q E s)
  (hmu:b.mu=[ofString "count"]) (hsw:swappedStores [.Tuple [.Name "S" q1,.Name "T" q2] k1 q3] (.Tuple [.Attribute (.Name "Whitespace" q4) "S" q5,.Attribute (.Name "Whitespace" q6) "T" q7] k2 q8) b.env=pure (some [ofString "S",ofString "T"]))
  (hfor:vZ (fun a ρ=>exB g.cf b.mu k b.sc (ρ.set "ch" (.val a)) lb) (raw.cps.toList.map fun c=> .str ⟨#[c]⟩) (rY ρ)=some (.next,ρ5)) (hself5:ρ5 "self"=some (.val (.addr x)))
  (h6:evE g.cf k b.sc ρ5.all e6=some v6/\flat v6=true) (h7:evE g.cf k b.sc ρ5.all e7=some v7/\flat v7=true) (h8:evE g.cf k b.sc ρ5.all e8=some v8/\flat v8=true) (h9:evE g.cf k b.sc ρ5.all e9=some v9/\flat v9=true)
  (w6:∀t l,swapsWith e6 (some (.Attribute (.Name "self" g1) t g2)) l b.env=pure false) (w7:∀t l,swapsWith e7 (some (.Attribute (.Name "self" g4) t g5)) l b.env=pure false)
  (w8:∀t l,swapsWith e8 (some (.Attribute (.Name "self" g7) t g8)) l b.env=pure false) (w9:∀t l,swapsWith e9 (some (.Attribute (.Name "self" g10) t g11)) l b.env=pure false)
  {Q:Flow->Shared->Prop} (h:∀s' O',Mk g b S x dx s' O' ρ5 [("raw",.str raw),("n",v6),("nt",v7),("norm",v8),("is_simple",v9)]->Q .next s'):
  wpAny (model g.prog g.w) b.A (execs [.Assign [.Attribute (.Name "self" p1) "raw" p2] (.Name "ws" p3) p4,
   .Assign [.Tuple [.Name "S" q1,.Name "T" q2] k1 q3] (.Tuple [.Attribute (.Name "Whitespace" q4) "S" q5,.Attribute (.Name "Whitespace" q6) "T" q7] k2 q8) q9,
   .Assign [.Name "count" r1] (.List [] r2) r3,
   .Assign [.Name "b" u1,.Name "n" u2,.Name "nt" u3] (.Constant (.int 0) k3 u4) u5,
   .For (.Name "ch" f1) (.Attribute (.Name "self" f2) "raw" f3) lb [] f4,
   .Assign [.Attribute (.Name "self" g1) "n" g2] e6 g3,.Assign [.Attribute (.Name "self" g4) "nt" g5] e7 g6,.Assign [.Attribute (.Name "self" g7) "norm" g8] e8 g9,.Assign [.Attribute (.Name "self" g10) "is_simple" g11] e9 g12] b.env) Q E s:=
 wpAny_execs_cons (m.setattr K (nn _ (by simp)) hxC rfl hself rfl (Nat.zero_le _) rfl (n:=1) (v:= .str raw) (by show Option.map Slot.av (ρ "ws")=_;rw [hws]; rfl) rfl fun s'1 m'1=>
 wpAny_execs_cons (m'1.swapTwo hg hcn (by decide) (hv _ (by simp)) (hv _ (by simp)) hc1 hc2 hsw fun s'2 m'2=>
 m'2.next (.assign (n:=2) (sl:= .own (.list [])) (hv _ (by simp)) rfl (by unfold evS;rw [hmu]; rfl)) fun s3 O3 m3=>
 wpAny_execs_cons (m3.three (hv _ (by simp)) (hv _ (by simp)) (hv _ (by simp)) fun s4 m4=>
 wpAny_execs_cons (m4.forRaw K (nn _ (by simp)) rfl hself rfl (hv _ (by simp)) (G:=fun ρ=>exB g.cf b.mu k b.sc ρ lb) (fun ρ'1 f ρ' hg=>(iZ g b k).2 lb ρ'1 (f,ρ') hg) hfor fun s5 O5 m5=>
 wpAny_execs_cons (m5.setattr K (nn _ (by simp)) hxC rfl hself5 rfl (Nat.le_of_ble_eq_true rfl) (w6 _ _) h6.1 h6.2 fun s6 m6=>
 wpAny_execs_cons (m6.setattr K (nn _ (by simp)) hxC rfl hself5 rfl (Nat.le_of_ble_eq_true rfl) (w7 _ _) h7.1 h7.2 fun s7 m7=>
 wpAny_execs_cons (m7.setattr K (nn _ (by simp)) hxC rfl hself5 rfl (Nat.le_of_ble_eq_true rfl) (w8 _ _) h8.1 h8.2 fun s8 m8=>
 wpAny_execs_cons (m8.setattr K (nn _ (by simp)) hxC rfl hself5 rfl (Nat.le_of_ble_eq_true rfl) (w9 _ _) h9.1 h9.2 fun s9 m9=>wpAny_execs_nil (h s9 O5 m9)))))))))
end
section
variable {g:Eg}
theorem wK (C:Addr)(vals:List Value):(Code.builtin "type.__call__" ⟨.ref C::vals,[]⟩).cUnits<=8:=by
 have h:(Code.builtin "type.__call__" ⟨.ref C::vals,[]⟩).frames=0:=rfl;simp [Code.cUnits,h]
theorem bT.under {d:Nat}(r:bT A (d+1)):bT (A.under (.builtin "type.__call__" ⟨.ref C::vals,[]⟩)) d:=by
 refine ⟨r.handled,?_,?_⟩
 ·have:=r.depth;show A.depth+1+d<990;exact sal this
 ·have h1:=r.units;have h2:=wK C vals;show A.units+(Code.builtin "type.__call__" ⟨.ref C::vals,[]⟩).cUnits+8*d+400<9900
  lia
theorem wL (K:wJ g.Sta mN g.cf.c N){fI:Addr}{fn:Fn}{oI:Obj}(hi:mN "__init__"=some (.ref fI))(hok:fn.ok=true)(hcI:oI.cls= .type "function")(hoI:∀h,g.Sta h->h.get? fI=some oI)(hat:∀h,g.Sta h->aG8 fn h fI fd/\h.NoLimit)
   (hps:fn.ps=[ofString "self",ofString "ws"])
  (hrun:∀(b:Bk) (E:Value->Shared->Prop) (s:Shared) (S:List Addr) (x dx:Addr) (Q:Flow->Shared->Prop),b.env=callEnvC fd b.env.locals fI->b.sc=fn.sc->b.mu=fn.mu->x≠g.cf.c->Mk g b S x dx s [] (eE fn.ps [.addr x,.str raw]) []->
   (∀ s' O' ρ',Mk g b S x dx s' O' ρ' fs->Q .next s')->wpAny (model g.prog g.w) b.A (execs fn.body b.env) Q E s):aL g.prog g.w g.Sta (g.d+2) g.cf.c [.str raw] (.inst g.cf.c fs):=by
 intro A E s M ys hA hS hZ hM ht hd;refine hd.consE fun y ys' e hy hys=>hy.strE fun t e'=> ?_
 have e'':=hys.nil_inv;subst e e' e'';have hX:=cV (K.at' _ hS);obtain ⟨cr,hC⟩:=kE hX;obtain ⟨hp,gs,dw,tk,os⟩:=s;refine wpAny_call_obj_init PySem.F.objNew hC hX.ns hi (hoI _ hS) hcI fun h' x dx made=> ?_
 have kp:Kp ⟨hp,gs,dw,tk,os⟩ ⟨h',gs,dw,tk,os⟩:=KW.of_keep made.keeps;have hS':g.Sta h':=g.S.keeps _ _ kp hS;obtain ⟨hf,hlim⟩:=hat _ hS';obtain ⟨o,ho,hod⟩:=hf.data;obtain ⟨hnd,hpsv,hfree,hkind,hco,hgen⟩:=aMb hok;have hA':bT (A.under (.builtin "type.__call__" ⟨.ref g.cf.c::[.str raw t],[]⟩)) (g.d+1):=hA.under;have new:∀y∈[x,dx],hp.get? y=none:=fun y hy=>(List.mem_cons.mp hy).elim (fun q=>q▸made.newX) fun hy=>List.mem_singleton.mp hy▸made.newD
 have exs:∀y∈[x,dx], ∃o,h'.get? y=some o:=fun y hy=>by
  obtain ⟨ob,hob,hoc,hocl,hodd⟩:=id made.inst
  rcases List.mem_cons.mp hy with rfl | hy
  ·exact ⟨ob,hob⟩
  ·have hdo:=made.dict ob hob
   rcases hodd with ⟨hn,_⟩ | ⟨d2,hd2,_,o4,_,_,ho4,_⟩
   ·exact no1 (hn.symm.trans hdo)
   ·rw [List.mem_singleton.mp hy,Option.some.inj (hdo.symm.trans hd2)]; exact ⟨o4,ho4⟩
 have nM:∀y∈[x,dx],y∉M:=fun y hy q=>(hM y q).elim fun o e=>no1 ((new y hy).symm.trans e)
 have hMx:∀a∈M++[x,dx], ∃o,h'.get? a=some o:=fun a ha=>(List.mem_append.mp ha).elim (fun q=>kp.ex (g.S.zok _ hS) (hM a q)) (exs a)
 refine wpAny_call (jA (s:=⟨h',gs,dw,tk,os⟩) ht (binds:=fn.ps.zip [.ref x,.str raw t]) (Nat.lt_of_le_of_lt (Nat.le_add_right _ _) (Nat.lt_trans hA'.depth (by decide))) ho hod hlim hf.code hf.body (hf.bind _ (by rw [hps]; rfl)) hf.closure (fun z hz=> ?_) (fun s'1 E1 ht1 X=> ?_) (by rw [hf.scope]; exact hco) (by rw [hf.scope]; exact hgen) (by rw [hf.scope]; exact hkind))
 ·have hv:=hpsv z.1 (List.of_mem_zip hz).1;unfold bE at hv;rw [Bool.or_eq_true,beq_iff_eq,beq_iff_eq] at hv;rw [hf.scope];refine hv.imp id fun hv=>⟨hv,?_⟩
  obtain ⟨c,hc⟩:=rV hf.scope h' hv;rw [hf.scope] at hc;rw [hc]; rfl
 ·have R:=uO (s:=⟨h',gs,dw,tk,os⟩) (M:=M++[x,dx]) (args:=[.addr x,.str raw]) hok hf hA' hS' (fun y hy=>List.mem_append_left _ (hZ y hy)) hMx (.cons (.addr x) (.cons (.str _ _) .nil)) X;obtain ⟨h'1,tk1,rfl⟩:=X.toInCall.same;have kk:=X.toInCall.keep;have ap:∀y∈[x,dx],y∉uN (callEnvC fd h'.objs.size fI):=fun y hy q=>(exs y hy).elim fun o e=>no1 ((R.ok.new y q).symm.trans e)
  obtain ⟨hI,hdi⟩:=rX (h':=h'1) made.inst made.dict fun y hy o e=>kk y o e
  refine hrun _ _ _ (M++[x,dx]) x dx _ rfl rfl rfl (fun q=> ?_) ⟨R.rebase kp hS,⟨fun _=>none,hI,fun _=>rfl,fun _ _ _ e=>no1 e⟩,hdi,ht1,fun y hy=>⟨List.mem_append_right _ hy,ap y hy,new y hy⟩⟩ fun s' O' ρ' m=>⟨rfl,m.den (fun a ha=>List.mem_append_left _ ha) nM,m.rel.kp⟩
  have:=made.newX;rw [q] at this;exact no1 (this.symm.trans hC)
end
theorem St.set_nb {ρ:St}{y:Str}{v:Slot}{r:Option Slot}(h:(y==x)=false)(e:ρ y=r):ρ.set x v y=r:=(if_neg (ne_of_beq_false h)).trans e
theorem wM {ρ:St}{s:Slot}(h:ρ x=some s):ρ.all x=some s.av:=congrArg (Option.map Slot.av) h
theorem bR {ρ:St}(h:ρ x=some (.val v)):ρ.all x=some v:=wM h
theorem aAf {ρ:St}(h:ρ x=some (.val v)):ρ.frozen x=some v:=by
 show (match ρ x with | some (.val v)=>some v | _=>none)=_;rw [h]
section
theorem oD {ρ:St}:exB cf mu (n+1) sc ρ []=some (.next,ρ):=rfl
theorem aE {ρ ρ':St}{st:Stmt}{r:List Stmt}(h:exS cf mu k sc ρ st=some (.next,ρ')):exB cf mu (k+1) sc ρ (st::r)=exB cf mu k sc ρ' r:=
 congrArg (Option.bind · (aL8 (cB cf mu k sc r))) h
theorem uR {ρ:St}{t:Expr}{b o:List Stmt}{c:Bool}(h:evT cf k sc ρ.all t=some c):exS cf mu (k+1) sc ρ (.If t b o p)=if c then exB cf mu k sc ρ b else exB cf mu k sc ρ o:=by
 show (evT cf k sc ρ.all t).bind _=_;rw [h]; rfl
theorem dK {ρ ρ':St}{st:Stmt}(h:exS cf mu (k+1) sc ρ st=some (.next,ρ')):exB cf mu (k+2) sc ρ [st]=some (.next,ρ'):=(aE h).trans oD
theorem cif {β:Type}{c:Bool}{a:Cl β}{ρ:Loc}{v:Option β}(hc:c=true)(h:a.run ρ=v):(if c=true then a else iD).run ρ=v:=by rw [if_pos hc]; exact h
theorem sif {c:Bool}{a:Cs}{ρ:St}{v:Option (Fl × St)}(hc:c=true)(h:a.run ρ=v):(if c=true then a else eI).run ρ=v:=by rw [if_pos hc]; exact h
theorem rZ {ρ:St}{it:Expr}{xv:AV}{l:List AV}{r:Fl × St}(hx:bE sc x=true)(h1:evE cf k sc ρ.frozen it=some xv)(h2:aV xv=some l)
  (h3:vZ (fun a ρ=>exB cf mu k sc (ρ.set x (.val a)) body) l ρ=some r):exS cf mu (k+1) sc ρ (.For (.Name x px) it body [] q)=some r:=by
 refine sif (by rw [hx]; rfl) ?_;show (evE cf k sc ρ.frozen it).bind _=_;rw [h1];show (aV xv).bind _=_;rw [h2];exact h3
theorem sA {ρ:St}{s:Slot}(hx:bE sc x=true)(hm:aC8 e=false)(h:evS cf mu m sc ρ x e=some s):exS cf mu (m+1) sc ρ (.Assign [.Name x px] e p)=some (.next,ρ.set x s):=
 sif (by rw [hx,hm]; rfl) (congrArg (Option.bind · fun s=>next (ρ.set x s)) h)
theorem gR {ρ:St}(hx:bE sc x=true)(hm:aC8 e=false)(h:evE cf m sc ρ.all e=some v)(hf:flat v=true):exS cf mu (m+1) sc ρ (.Assign [.Name x px] e p)=some (.next,ρ.set x (.val v)):=
 sA hx hm (by unfold evS;rw [h]; exact if_pos hf)
theorem aHb {ρ:St}{l:List AV}(hx:bE sc x=true)(hm:aC8 e=false)(h:evE cf m sc ρ.all e=some (.list l))(hmu:(mu.contains x&&kA e)=true)(hl:aN l=true):exS cf mu (m+1) sc ρ (.Assign [.Name x px] e p)=some (.next,ρ.set x (.own (.list l))):=
 sA hx hm (by unfold evS;rw [h]; exact (if_pos hmu).trans (if_pos hl))
theorem aHc {ρ:St}{v':AV}(hx:bE sc x=true)(hm:aC8 e=false)(h:evE cf m sc ρ.all e=some v)(hf:flat v=false)(hmu:(mu.contains x&&kA e)=false)(h':evE cf m sc ρ.frozen e=some v'):exS cf mu (m+1) sc ρ (.Assign [.Name x px] e p)=some (.next,ρ.set x (.val v')):=
 sA hx hm (by unfold evS;rw [h]; refine (if_neg (Bool.eq_false_iff.mp hf)).trans ?_;rw [if_neg (Bool.eq_false_iff.mp hmu),h']; rfl)
theorem aHd {ρ:St}{l:List AV}(hx:ρ x=some (.own (.list l)))(hn:l.length<=2^20):zA (ρ x)=some l:=by rw [hx]; exact if_pos hn
theorem uS {ρ:St}{sp:Pos}{i:Expr}{k:Int}{l:List AV}(hd:(x==("__debug__":Str))=false)(he:evE cf m sc ρ.all e=some v)(hi:evE cf m sc ρ.all i=some (.int k))(hx:ρ x=some (.own (.list l)))(hj:vY l.length k=some j)(hv:flat v=true)(hl:aN l=true)(hn:l.length<=2^20):
  exS cf mu (m+1) sc ρ (.Assign [.Subscript (.Name x xp) i sp] e p)=some (.next,ρ.set x (.own (.list (l.set j v)))):=by
 show ((if (x==("__debug__":Str))=true then eI else _:Cs).run ρ)=_;rw [hd];show (evE cf m sc ρ.all e).bind _=_;rw [he];show (evE cf m sc ρ.all i).bind _=_;rw [hi];show (zA (ρ x)).bind _=_;rw [aHd hx hn];show (vY l.length k).bind _=_;rw [hj];exact if_pos (by rw [hv,hl]; rfl)
theorem sB {ρ:St}{r:List Stmt}(h:evE cf m sc ρ.all e=some v):exB cf mu (m+2) sc ρ (.Return (some e) p::r)=some (.ret v,ρ):=
 congrArg (fun o:Option AV=>(o.bind fun v=>some (Fl.ret v,ρ)).bind (aL8 (cB cf mu (m+1) sc r))) h
variable {ρ:Loc}
theorem qC {α:Type}{F:AV->Option (Option AV)}{f g:α->AV}{l:List α}(h:∀a∈l,F (f a)=some (some (g a))):gE F (l.map f)=some (l.map g):=by
 induction l with
 | nil=>rfl
 | cons a r ih=>
  show ((F (f a)).bind fun z=>match z with | some v=>(gE F (r.map f)).bind fun y=>some (v::y) | none=>gE F (r.map f))=_;rw [h a (List.mem_cons_self ..)];show (gE F (r.map f)).bind (fun y=>some (g a::y))=_;rw [ih fun b hb=>h b (List.mem_cons_of_mem _ hb)]; rfl
theorem aDt (hm:m≠0):aCq cf m sc ρ []=some true:=by
 rcases m with _ | m
 ·exact absurd rfl hm
 ·rfl
theorem dY {α:Type}{it:Expr}{xv:AV}{l:List α}{f:α->AV}(g:α->AV)(hm:m≠0)(hok:dM csc x=true)(hcl:cX sc ρ csc=true)(hit:evE cf m sc ρ it=some xv)(hl:aV xv=some (l.map f))(hn:l.length<=2^20)
  (hel:∀a∈l,evE cf m csc (aZ ρ csc x (f a)) elt=some (g a)):evE cf (m+1) sc ρ (.ListComp elt [⟨.Name x px,it,[],0⟩] csc p)=some (.list (l.map g)):=by
 refine cif (c:=dM csc x&&((0:Int)==0)) (by rw [hok]; rfl) ((if_pos hcl).trans ?_);show (evE cf m sc ρ it).bind _=_;rw [hit];show ((aV xv).bind _)=_;rw [hl];refine (if_pos (by rw [List.length_map]; exact hn)).trans ?_;rw [qC (f:=f) (g:=g) fun a ha=> ?_]
 ·rfl
 ·show aC7 (aCq cf m csc (aZ ρ csc x (f a)) []) (evE cf m csc (aZ ρ csc x (f a)) elt)=_;rw [aDt hm,hel a ha]; rfl
theorem qD {it:Expr}{xv a b u:AV}(hm:m≠0)(hok:dM csc x=true)(hcl:cX sc ρ csc=true)(hit:evE cf m sc ρ it=some xv)(hl:aV xv=some [a,b])
  (h1:evE cf m csc (aZ ρ csc x a) elt=some u) (h2:evE cf m csc (aZ ρ csc x b) elt=some v):evE cf (m+1) sc ρ (.ListComp elt [⟨.Name x px,it,[],0⟩] csc p)=some (.list [u,v]):=
 dY (l:=[(a,u),(b,v)]) (f:=Prod.fst) Prod.snd hm hok hcl hit hl (Nat.le_of_ble_eq_true rfl) (List.forall_mem_cons.mpr ⟨h1,List.forall_mem_cons.mpr ⟨h2,fun _ h=>nomatch h⟩⟩)
theorem sC {f:Str}(hf:sc.names.lookup f=some .globalImplicit)(hd:(f==("__debug__":Str))=false)(ha:jH cf n sc ρ as=some vs)(h:yZ cf f vs=some v):evE cf (n+1) sc ρ (.Call (.Name f q) as [] p)=some v:=by
 refine cif (c:=sc.names.lookup f==some .globalImplicit&&f !=("__debug__":Str)) (by rw [hf,bne,hd]; rfl) ?_;show (jH cf n sc ρ as).bind _=_;rw [ha]; exact h
theorem aNk {f:Str}(hf:sc.names.lookup f=some .globalImplicit)(hd:(f==("__debug__":Str))=false)(ha:jH cf n sc ρ as=some vs)(h:bL f vs=some v):evE cf (n+1) sc ρ (.Call (.Name f q) as [] p)=some v:=
 sC hf hd ha (by unfold yZ;rw [h]; rfl)
theorem aNl {f:Str}(hf:sc.names.lookup f=some .globalImplicit)(hd:(f==("__debug__":Str))=false)(ha:jH cf n sc ρ as=some vs)(h1:bL f vs=none)(h:yY f vs=some v):evE cf (n+1) sc ρ (.Call (.Name f q) as [] p)=some v:=
 sC hf hd ha (by unfold yZ;rw [h1,h]; rfl)
theorem aN6 {f:Str}(hf:sc.names.lookup f=some .globalImplicit)(hd:(f==("__debug__":Str))=false)(ha:jH cf n sc ρ as=some vs)(h1:bL f vs=none)(h2:yY f vs=none)(h:cf.fn f vs=some v):evE cf (n+1) sc ρ (.Call (.Name f q) as [] p)=some v:=
 sC hf hd ha (by unfold yZ;rw [h1,h2,h]; rfl)
theorem jB {f:Str}{fp:Pos}(hf:sc.names.lookup f=some .globalImplicit)(hd:(f==("__debug__":Str))=false)(ha:jH cf k sc ρ as=some vs)(hb:f∉[ofString "len",ofString "chr",ofString "min",ofString "max",ofString "sum",ofString "ord",ofString "range",ofString "tuple",ofString "list"])
  (hv:cf.fn f vs=some v):evE cf (k+1) sc ρ (.Call (.Name f fp) as [] p)=some v:=by
 simp only [List.mem_cons,List.not_mem_nil,or_false,not_or] at hb;obtain ⟨h1,h2,h3,h4,h5,h6,h7,h8,h9⟩:=hb;exact aN6 hf hd ha ((if_neg h1).trans ((if_neg h2).trans ((if_neg h3).trans ((if_neg h4).trans ((if_neg h5).trans (if_neg h6)))))) ((if_neg h7).trans ((if_neg h8).trans (if_neg h9))) hv
theorem qE {f:Str}{fp:Pos}(hf:sc.names.lookup f=some .globalImplicit)(hd:(f==("__debug__":Str))=false)(ha:jH cf k sc ρ as=some vs)
  (hv:bL f vs=some v):evE cf (k+1) sc ρ (.Call (.Name f fp) as [] p)=some v:=aNk hf hd ha hv
theorem kR {fp:Pos}(hf:sc.names.lookup (ofString "range")=some .globalImplicit)(ha:jH cf k sc ρ as=some vs)(hv:pI vs=some v):evE cf (k+1) sc ρ (.Call (.Name "range" fp) as [] p)=some v:=
 aNl hf rfl ha rfl hv
theorem sD {l:List AV}(h:l.length<=2^20):bL "len" [.list l]=some (.int l.length):=if_pos h
theorem mU {l:Str}(h:l.length<=2^20):bL "len" [.str l]=some (.int l.length):=if_pos h
theorem qF {i:Int}(h1: -(2^32)<=i)(h2:i<=2^32):bP i=true:=decide_eq_true ⟨h1,h2⟩
theorem gF (h:n<=2^32):aV (.range 0 (n:Int) 1)=some ((List.range n).map fun (i:Nat)=>AV.int (i:Int)):=by
 show bD _ _ _=_;unfold bD;rw [if_pos ⟨by decide,qF (by exact Int.natCast_nonneg _) (by exact Int.ofNat_le.mpr h)⟩,if_pos rfl];simp
theorem oE {l:List AV}(hl:l.length<=2^20)(h:i<l.length):fT l (i:Int)=some l[i]:=by
 unfold fT;rw [if_pos hl,if_pos (Int.natCast_nonneg i),if_pos (Int.ofNat_lt.mpr h),Int.toNat_natCast,List.getElem?_eq_getElem h]
theorem oF {l:List Int}{j:Int}(hl:l.length<=2^20)(h0:0<=j)(h:j.toNat<l.length):yE (.list (l.map .int)) (.int j)=some (.int l[j.toNat]):=by
 have e:((j.toNat:Nat):Int)=j:=Int.toNat_of_nonneg h0;have:=oE (l:=l.map AV.int) (i:=j.toNat) (by rw [List.length_map]; exact hl) (by rw [List.length_map]; exact h);rw [e,List.getElem_map] at this;exact this
theorem aFv {j:Int}(h0:0<=j)(h:j<n):vY n j=some j.toNat:=(if_pos h0).trans (if_pos h)
theorem oG (hm:m≠0):jH cf m sc ρ []=some []:=by
 rcases m with _ | m
 ·exact absurd rfl hm
 ·rfl
theorem gS (h:evE cf m sc ρ e=some v)(h':jH cf m sc ρ es=some vs):jH cf (m+1) sc ρ (e::es)=some (v::vs):=by
 show aJm (evE cf m sc ρ e) (jH cf m sc ρ es)=_;rw [h,h']; rfl
theorem bI (hm:m≠0)(h:evE cf m sc ρ e=some v):jH cf (m+1) sc ρ [e]=some [v]:=gS h (oG hm)
theorem cF {e':Expr}{v':AV}(hm:m≠0)(h:evE cf (m+1) sc ρ e=some v)(h':evE cf m sc ρ e'=some v'):jH cf (m+2) sc ρ [e,e']=some [v,v']:=gS h (bI hm h')
theorem aK {l r:Expr}{op:Operator}{a b:AV}(h:evE cf m sc ρ l=some a)(h':evE cf m sc ρ r=some b)(hv:pG op a b=some v):evE cf (m+1) sc ρ (.BinOp l op r p)=some v:=by
 show aNc op (evE cf m sc ρ l) (evE cf m sc ρ r)=_;rw [h,h']; exact hv
theorem aD (h:ρ x=some v)(hd:(x==("__debug__":Str))=false):evE cf (m+1) sc ρ (.Name x p)=some v:=by
 show aGs x ρ=_;unfold aGs;rw [hd]; exact h
theorem aI {i:Int}:evE cf (m+1) sc ρ (.Constant (.int i) k p)=some (.int i):=rfl
theorem oH {i:Expr}{a b:AV}(hs:aGt i=false)(h:evE cf m sc ρ e=some a)(h':evE cf m sc ρ i=some b)(hv:yE a b=some v):evE cf (m+1) sc ρ (.Subscript e i p)=some v:=by
 show (aLd (cE cf m sc) e i).run ρ=_;unfold aLd;rw [hs];show aNg (evE cf m sc ρ e) (evE cf m sc ρ i)=_;rw [h,h']; exact hv
theorem gT {a b:AV}(h:evE cf m sc ρ e=some a)(h':evE cf m sc ρ (.Name x xp)=some b)(hv:yE a b=some v):evE cf (m+1) sc ρ (.Subscript e (.Name x xp) p)=some v:=oH rfl h h' hv
theorem uT {c:Const}{a b:AV}(h:evE cf m sc ρ e=some a)(h':evE cf m sc ρ (.Constant c k xp)=some b)(hv:yE a b=some v):evE cf (m+1) sc ρ (.Subscript e (.Constant c k xp) p)=some v:=oH rfl h h' hv
theorem eO {l r:Expr}{op:CmpOp}{a b:AV}{v:Bool}(h:evE cf m sc ρ l=some a)(h':evE cf m sc ρ r=some b)(hv:cmp op a b=some v):evT cf (m+1) sc ρ (.Compare l [op] [r] p)=some v:=by
 show aNd op (evE cf m sc ρ l) (evE cf m sc ρ r)=_;rw [h,h']; exact hv
theorem aHe {l r:Expr}{op:CmpOp}{a b:AV}{v:Bool}(h:evE cf m sc ρ l=some a)(h':evE cf m sc ρ r=some b)(hv:cmp op a b=some v):evE cf (m+1) sc ρ (.Compare l [op] [r] p)=some (.bool v):=
 congrArg aGw (eO (p:=p) h h' hv)
theorem aHf (hn:es.length<=1000)(h:jH cf m sc ρ es=some vs):evE cf (m+1) sc ρ (.Tuple es k p)=some (.tup vs):=by
 show ((if es.length<=1000 then _ else _:Cl AV).run ρ)=_;rw [if_pos hn];exact congrArg (Option.map AV.tup) h
end
noncomputable def aJ8:Stmt->List Stmt
 | .For _ _ b _ _=>b
 | _=>[]
noncomputable def nth (l:List Stmt)(i:Nat):Stmt:=l.getD i (.Pass default)
noncomputable def lb (fn:Fn)(i:Nat):List Stmt:=aJ8 (nth fn.body i)
section
variable {i:Int}
theorem sE {t:Expr}{b o:List Stmt}(h:evT cf k sc ρ.all t=some true):exS cf mu (k+1) sc ρ (.If t b o p)=exB cf mu k sc ρ b:=uR h
theorem gH {t:Expr}{b o:List Stmt}(h:evT cf k sc ρ.all t=some false):exS cf mu (k+1) sc ρ (.If t b o p)=exB cf mu k sc ρ o:=uR h
theorem aJ9 {a b:AV}{c d:Bool}(h:cR a b=some c)(e:(!c)=d):cmp .NotEq a b=some d:=by
 show (cR a b).map _=_;rw [h,<-e]; rfl
theorem oJ {r t u:Pos}{c:Nat}(hx:bE sc x=true)(hd:(x==("__debug__":Str))=false)(h:ρ x=some (.val (.int i))):exS cf mu (k+3) sc ρ (.Assign [.Name x p] (.BinOp (.Name x q) .Add (.Constant (.int 1) c r) t) u)=some (.next,ρ.set x (.val (.int (i+1)))):=
 gR hx rfl (aK (aD (bR h) hd) aI rfl) rfl
theorem fL {ρ:Loc}(hn:es.length<=1000)(h:jH cf k sc ρ es=some vs):evE cf (k+1) sc ρ (.List es p)=some (.list vs):=by
 show ((if es.length<=1000 then _ else _:Cl AV).run ρ)=_;rw [if_pos hn];exact congrArg (Option.map AV.list) h
theorem oK {ρ:Loc}{l:List AV}(hf:sc.names.lookup (ofString "len")=some .globalImplicit)(ha:jH cf k sc ρ as=some [.list l])(h:l.length<=2^20):evE cf (k+1) sc ρ (.Call (.Name "len" q) as [] p)=some (.int l.length):=
 aNk hf rfl ha (sD h)
end
theorem aAg {fn:Fn}{as:List AV}(hn:fn.ps.length=as.length)(h:exB cf fn.mu k fn.sc (eE fn.ps as) fn.body=some (.ret v,ρ)):bS cf k fn as=some v:=by
 unfold bS;rw [if_pos hn,h]
theorem cJ {a:AV}{r:List AV}{ρ':St}(h:G a ρ=some (.next,ρ')):vZ G (a::r) ρ=vZ G r ρ':=by
 show (G a ρ).bind _=_;rw [h]; rfl
theorem bJ {α β:Type}{f:α->β}{l:List α}(h:l.length<=n):(l.map f).length<=n:=by rw [List.length_map]; exact h
theorem aAh (h:n<=m)(hm:(m.ble 1048576)=true):n<=2^20:=Nat.le_trans h (Nat.le_of_ble_eq_true hm)
structure iN (ρ:St)(x:Addr)(cnt:List Int)(b n nt:Int):Prop where
 s:ρ "S"=some (.val (.str " "))
 t:ρ "T"=some (.val (.str "\t"))
 c:ρ "count"=some (.own (.list (cnt.map .int)))
 b:ρ "b"=some (.val (.int b))
 n:ρ "n"=some (.val (.int n))
 nt:ρ "nt"=some (.val (.int nt))
 self:ρ "self"=some (.val (.addr x))
theorem iO {a b:Str}(ha:PyData.strOk a=true)(hb:PyData.strOk b=true):cR (.str a) (.str b)=some (a==b):=
 if_pos (Bool.and_eq_true_iff.mpr ⟨by simp [SeqAt.shaped,PyData.canLay0,PyData.depth,ha],by simp [SeqAt.shaped,PyData.canLay0,PyData.depth,hb]⟩)
theorem aMd:cR (.str ⟨#[32]⟩) (.str " ")=some true:=(iO (by decide+kernel) (by decide+kernel)).trans (by decide+kernel)
theorem aMe:cR (.str ⟨#[9]⟩) (.str " ")=some false:=(iO (by decide+kernel) (by decide+kernel)).trans (by decide+kernel)
theorem aMf:cR (.str ⟨#[9]⟩) (.str "\t")=some true:=(iO (by decide+kernel) (by decide+kernel)).trans (by decide+kernel)
noncomputable def sF:Fn:=((iM "__init__" [ofString "count"] (findCls "Whitespace" PySem.Challenge.pw_re0160_02.main.body)).getD ⟨[],[],[],default⟩)
noncomputable def aAi:List Stmt:=lb sF 4
theorem aAj:sF.sc.names.lookup (ofString "len")=some NameKind.globalImplicit:=rfl
theorem aDu:sF.sc.names.lookup (ofString "tuple")=some NameKind.globalImplicit:=rfl
theorem dP:∀l:List Int,aN (l.map .int)=true
 | []=>rfl
 | _::l=>dP l
noncomputable def fY (cnt:List Int)(b:Int):List Int:=if b>=cnt.length then cnt++List.replicate (b- cnt.length+1).toNat 0 else cnt
theorem mX {b:Int}(h0:0<=b)(h1:b<=900)(h2:cnt.length<=901):(fY cnt b).length<=901:=by
 unfold fY
 split
 ·rw [List.length_append,List.length_replicate]; lia
 ·exact h2
theorem aAk {b:Int}(h0:0<=b):b<(fY cnt b).length:=by
 unfold fY
 split
 ·rw [List.length_append,List.length_replicate]; lia
 ·lia
section
variable {x:Addr}{b n nt:Int}(H:iN ρ x cnt b n nt)
include H
theorem iN.setch (v:Slot):iN (ρ.set "ch" v) x cnt b n nt:=
 ⟨St.set_nb rfl H.s,St.set_nb rfl H.t,St.set_nb rfl H.c,St.set_nb rfl H.b,St.set_nb rfl H.n,St.set_nb rfl H.nt,St.set_nb rfl H.self⟩
theorem iN.setn (i:Int):iN (ρ.set "n" (.val (.int i))) x cnt b i nt:=
 ⟨St.set_nb rfl H.s,St.set_nb rfl H.t,St.set_nb rfl H.c,St.set_nb rfl H.b,if_pos rfl,St.set_nb rfl H.nt,St.set_nb rfl H.self⟩
theorem iN.setnt (i:Int):iN (ρ.set "nt" (.val (.int i))) x cnt b n i:=
 ⟨St.set_nb rfl H.s,St.set_nb rfl H.t,St.set_nb rfl H.c,St.set_nb rfl H.b,St.set_nb rfl H.n,if_pos rfl,St.set_nb rfl H.self⟩
theorem iN.setb (i:Int):iN (ρ.set "b" (.val (.int i))) x cnt i n nt:=
 ⟨St.set_nb rfl H.s,St.set_nb rfl H.t,St.set_nb rfl H.c,if_pos rfl,St.set_nb rfl H.n,St.set_nb rfl H.nt,St.set_nb rfl H.self⟩
theorem iN.setc (l:List Int):iN (ρ.set "count" (.own (.list (l.map .int)))) x l b n nt:=
 ⟨St.set_nb rfl H.s,St.set_nb rfl H.t,if_pos rfl,St.set_nb rfl H.b,St.set_nb rfl H.n,St.set_nb rfl H.nt,St.set_nb rfl H.self⟩
theorem iN.evB:evE cf (k+1) sc ρ.all (.Name "b" p)=some (.int b):=aD (bR H.b) rfl
theorem iN.evC:evE cf (k+1) sc ρ.all (.Name "count" p)=some (.list (cnt.map .int)):=aD (wM H.c) rfl
theorem iN.evArg:jH cf (k+2) sc ρ.all [.Name "count" p]=some [.list (cnt.map .int)]:=bI (Nat.succ_ne_zero _) H.evC
end
theorem aDv {x:Addr}{b n nt:Int}(H:iN ρ x cnt b n nt):
  ∃ρ',exB cf [ofString "count"] (k+30) sF.sc (ρ.set "ch" (.val (.str ⟨#[32]⟩))) aAi=some (.next,ρ')/\iN ρ' x cnt (b+1) (n+1) nt:=by
 have H1:=H.setch (.val (.str ⟨#[32]⟩));refine ⟨_,dK (k:=k+28) ?_,(H1.setn (n+1)).setb (b+1)⟩;refine Eq.trans (sE (k:=k+28) ?_) ?_
 ·exact eO (aD (bR (if_pos rfl)) rfl) (aD (bR H1.s) rfl) aMd
 ·exact Eq.trans (aE (k:=k+27) (oJ rfl rfl H1.n)) (dK (k:=k+25) (oJ rfl rfl (H1.setn (n+1)).b))
section
variable {x:Addr}{b n nt:Int}(H:iN ρ x cnt b n nt)
include H
theorem aKa (h0:0<=b)(h1:b<cnt.length)(h2:cnt.length<=901):
  exS cf [ofString "count"] (k+8) sF.sc ρ (.Assign [.Subscript (.Name "count" p0) (.Name "b" p1) p2] (.BinOp (.Subscript (.Name "count" p3) (.Name "b" p4) p5) .Add (.Constant (.int 1) 0 p6) p7) p8)=
   some (.next,ρ.set "count" (.own (.list ((cnt.set b.toNat (cnt.getD b.toNat 0+1)).map .int)))):=by
 have hb:b.toNat<cnt.length:=by lia
 have e:=oF (aAh h2 rfl) h0 hb;rw [List.getD_eq_getElem?_getD,List.getElem?_eq_getElem hb,List.map_set];exact uS rfl (aK (gT H.evC H.evB e) aI rfl) H.evB H.c (by rw [List.length_map]; exact aFv h0 h1) rfl (dP _) (bJ (aAh h2 rfl))
theorem aHg (h0:0<=b)(h1:b<=900)(h2:cnt.length<=901):
  ∃ρ',exS cf [ofString "count"] (k+14) sF.sc ρ (.If (.Compare (.Name "b" p0) [.GtE] [.Call (.Name "len" p1) [.Name "count" p2] [] p3] p4)
   [.Assign [.Name "count" p5] (.BinOp (.Name "count" p6) .Add (.BinOp (.List [.Constant (.int 0) 0 p7] p8) .Mult (.BinOp (.BinOp (.Name "b" p9) .Sub (.Call (.Name "len" q0) [.Name "count" q1] [] q2) q3) .Add (.Constant (.int 1) 0 q4) q5) q6) q7) q8] [] q9)=some (.next,ρ')/\
   iN ρ' x (fY cnt b) b n nt:=by
 have hl:=bJ (f:=AV.int) (aAh h2 rfl);have ht:evT cf (k+13) sF.sc ρ.all (.Compare (.Name "b" p0) [.GtE] [.Call (.Name "len" p1) [.Name "count" p2] [] p3] p4)=some (decide ((cnt.length:Int)<=b)):=by
  rw [eO H.evB (oK aAj H.evArg hl) rfl,List.length_map]
 unfold fY
 by_cases hb:b>=cnt.length
 ·rw [if_pos hb,uR ht,if_pos (decide_eq_true hb)];refine ⟨_,dK (k:=k+11) (aHb (l:=(cnt++List.replicate (b- cnt.length+1).toNat 0).map .int) rfl rfl ?_ rfl (dP _)),H.setc _⟩;refine aK H.evC (aK (fL (Nat.succ_le_succ (Nat.zero_le _)) (bI (Nat.succ_ne_zero _) aI)) (aK (aK H.evB (oK aAj H.evArg hl) rfl) aI rfl) (if_pos ⟨?_,?_,Nat.succ_le_succ (Nat.zero_le _)⟩)) ?_
  ·rw [List.length_map,List.flatten_replicate_singleton,<-List.map_replicate];exact (if_pos (by simp;lia)).trans (by rw [List.map_append])
  ·rw [List.length_map]; lia
  ·rw [List.length_map]; lia
 ·rw [if_neg hb,uR ht,if_neg (by rw [decide_eq_true_eq]; exact hb)];exact ⟨ρ,oD,H⟩
theorem aKb (h0:0<=b)(h1:b<=900)(h2:cnt.length<=901):
  ∃ρ',exB cf [ofString "count"] (k+30) sF.sc (ρ.set "ch" (.val (.str ⟨#[9]⟩))) aAi=some (.next,ρ')/\iN ρ' x ((fY cnt b).set b.toNat ((fY cnt b).getD b.toNat 0+1)) 0 (n+1) (nt+1):=by
 have H1:=H.setch (.val (.str ⟨#[9]⟩));have H3:=(H1.setn (n+1)).setnt (nt+1);obtain ⟨ρ4,a3,H4⟩:=aHg (cf:=cf) (k:=k+9) H3 h0 h1 h2;have H5:=H4.setc ((fY cnt b).set b.toNat ((fY cnt b).getD b.toNat 0+1));refine ⟨_,dK (k:=k+28) ?_,H5.setb 0⟩;refine Eq.trans (gH (k:=k+28) ?_) (dK (k:=k+26) (Eq.trans (sE (k:=k+26) ?_) ?_))
 ·exact eO (aD (bR (if_pos rfl)) rfl) (aD (bR H1.s) rfl) aMe
 ·exact eO (aD (bR (if_pos rfl)) rfl) (aD (bR H1.t) rfl) aMf
 ·exact Eq.trans (aE (k:=k+25) (oJ rfl rfl H1.n)) (Eq.trans (aE (k:=k+24) (oJ rfl rfl (H1.setn (n+1)).nt)) (Eq.trans (aE (k:=k+23) a3) (Eq.trans (aE (k:=k+22) (aKa H4 h0 (aAk h0) (mX h0 h1 h2))) (dK (k:=k+20) (gR rfl rfl aI rfl)))))
end
theorem aHh:∀y∈([ofString "S",ofString "T",ofString "count",ofString "b",ofString "n",ofString "nt",ofString "ch"]),bE sF.sc y=true:=List.all_eq_true.mp rfl
theorem aKc (cf:CallF)(k:Nat)(x:Addr)(cs:List Nat)(hc:∀c∈cs,c=32\/c=9):∀(ρ:St) (cnt:List Int) (b n nt:Int),iN ρ x cnt b n nt->0<=b->b+cs.length<=900->cnt.length<=901->
  (∃ ρ5,vZ (fun a ρ=>exB cf [ofString "count"] (k+30) sF.sc (ρ.set "ch" (.val a)) aAi) (cs.map fun c=> .str ⟨#[c]⟩) ρ=some (.next,ρ5)/\iN ρ5 x (lS cs cnt b n nt).1 (lS cs cnt b n nt).2.1 (lS cs cnt b n nt).2.2.1 (lS cs cnt b n nt).2.2.2)/\(lS cs cnt b n nt).1.length<=901:=by
 induction cs with
 | nil=>exact fun ρ cnt b n nt H _ _ h2=>⟨⟨ρ,rfl,H⟩,h2⟩
 | cons c cs ih=>
  intro ρ cnt b n nt H h0 h1 h2;have ih:=ih fun d hd=>hc d (List.mem_cons_of_mem _ hd)
  have hl:b+1+cs.length<=900:=by rw [List.length_cons] at h1;lia
  rcases hc c (List.mem_cons_self ..) with rfl | rfl
  ·obtain ⟨ρ',e,H'⟩:=aDv (cf:=cf) (k:=k) H;obtain ⟨⟨ρ5,e5,H5⟩,l⟩:=ih ρ' cnt (b+1) (n+1) nt H' (Int.add_nonneg h0 (by decide)) hl h2;exact ⟨⟨ρ5,(cJ e).trans e5,H5⟩,l⟩
  ·have hb:b<=900:=by lia
   obtain ⟨ρ',e,H'⟩:=aKb (cf:=cf) (k:=k) H h0 hb h2;obtain ⟨⟨ρ5,e5,H5⟩,l⟩:=ih ρ' _ 0 (n+1) (nt+1) H' (Int.le_refl 0) (by lia) (by rw [List.length_set]; exact mX h0 hb h2);exact ⟨⟨ρ5,(cJ e).trans e5,H5⟩,l⟩
theorem aDw {x:Addr}(h:ρ "self"=some (.val (.addr x))):iN (rY ρ) x [] 0 0 0:=
 ⟨rfl,rfl,rfl,rfl,rfl,rfl,h⟩
section
variable {kt:Nat}{x:Addr}{b n nt:Int}{r t u:Pos}
theorem aAl:flat (.tup [.tup (cnt.map .int),.int b])=true:=(by rw [dP]; rfl:(aN (cnt.map .int)&&(true&&true))=true)
variable (H:iN ρ x cnt b n nt)
include H
theorem iN.evN:evE cf (k+1) sc ρ.all (.Name "n" p)=some (.int n):=aD (bR H.n) rfl
theorem iN.evNt:evE cf (k+1) sc ρ.all (.Name "nt" p)=some (.int nt):=aD (bR H.nt) rfl
theorem iN.evNorm (h2:cnt.length<=901)(ht:sc.names.lookup (ofString "tuple")=some NameKind.globalImplicit):
  evE cf (k+7) sc ρ.all (.Tuple [.Call (.Name "tuple" p) [.Name "count" q] [] r,.Name "b" t] kt u)=some (.tup [.tup (cnt.map .int),.int b]):=
 aHf (Nat.le_of_ble_eq_true rfl) (cF (Nat.succ_ne_zero _) (aNl ht rfl H.evArg rfl (if_pos (bJ (aAh h2 rfl)))) H.evB)
theorem iN.evSimple (h2:cnt.length<=901)(hl:sc.names.lookup (ofString "len")=some NameKind.globalImplicit):
  evE cf (k+7) sc ρ.all (.Compare (.Call (.Name "len" p) [.Name "count" q] [] r) [.LtE] [.Constant (.int 1) 0 t] u)=some (.bool (decide (cnt.length<=1))):=by
 rw [aHe (oK hl H.evArg (bJ (aAh h2 rfl))) aI rfl,List.length_map];exact congrArg (fun z=>some (AV.bool z)) (decide_eq_decide.mpr (Int.ofNat_le (n:=1)))
end
def kT (l:List Int)(m:Int):Prop:=l.length=7/\∀a∈l,0<=a/\a<=m
structure aKd (ρ:St)(script:List Int)(l:List Int):Prop where
 s:ρ "script"=some (.val (.list (script.map .int)))
 h:ρ "heaps"=some (.own (.list (l.map .int)))
noncomputable def dL:Fn:=((iM "_law_heaps" [ofString "heaps"] PySem.Challenge.pw_re0160_02.main.body).getD ⟨[],[],[],default⟩)
theorem aN7 (i:Int):0<=i%7/\i%7<7:=⟨Int.emod_nonneg _ (by decide),Int.emod_lt_of_pos _ (by decide)⟩
section
variable {l:List Int}{m:Int}
theorem wN (H:aKd ρ script l)(ho:kT l m)(hi:i<script.length)(hs:script.length<=63)(hm:0<=m):
  ∃ρ' l',exB cf [ofString "heaps"] (k+20) dL.sc (ρ.set "k" (.val (.int i))) (lb dL 1)=some (.next,ρ')/\aKd ρ' script l'/\kT l' (m+1000000):=by
 obtain ⟨hl,ha⟩:=ho;have h7:=aN7 i;have hj:((i:Int)%7).toNat<l.length:=by lia
 have g1:ρ.set "k" (.val (.int i)) (ofString "heaps")=some (.own (.list (l.map .int))):=St.set_nb rfl H.h;have g2:ρ.set "k" (.val (.int i)) (ofString "script")=some (.val (.list (script.map .int))):=St.set_nb rfl H.s;have g3:ρ.set "k" (.val (.int i)) (ofString "k")=some (.val (.int i)):=if_pos rfl;generalize ρ.set "k" (.val (.int i))=ρ1 at g1 g2 g3;have e:(l.map AV.int).length=7:=by rw [List.length_map,hl]
 refine ⟨ρ1.set "heaps" (.own (.list ((l.set ((i:Int)%7).toNat (l[((i:Int)%7).toNat]+script[i]%1000000)).map .int))),_,dK (k:=k+18) ?_,⟨St.set_nb rfl g2,if_pos rfl⟩,List.length_set.trans hl,fun a h=> ?_⟩
 ·rw [List.map_set];refine uS rfl (aK (oH rfl (aD (wM g1) rfl) (aK (aD (bR g3) rfl) aI rfl) (oF (by rw [hl]; decide) h7.1 hj)) (aK (gT (aD (bR g2) rfl) (aD (bR g3) rfl) (oF (aAh hs rfl) (Int.natCast_nonneg i) hi)) aI rfl) rfl) (aK (aD (bR g3) rfl) aI rfl) g1 ?_ rfl (dP _) (by rw [e]; decide);rw [e]; exact aFv h7.1 h7.2
 ·have hb:=Int.emod_nonneg script[i] (show (1000000:Int)≠0 by decide);have hb2:=Int.emod_lt_of_pos script[i] (show (0:Int)<1000000 by decide)
  rcases List.mem_or_eq_of_mem_set h with h | h
  ·have:=ha a h;lia
  ·have:=ha _ (List.getElem_mem hj);rw [h]; lia
theorem aAm (hs:script.length<=63)(is:List Nat)(hi:∀i∈is,i<script.length):∀(ρ:St) (l:List Int) (m:Int),aKd ρ script l->kT l m->0<=m->
  ∃ρ' l',vZ (fun a ρ=>exB cf [ofString "heaps"] (k+20) dL.sc (ρ.set "k" (.val a)) (lb dL 1)) (is.map fun (i:Nat)=>AV.int (i:Int)) ρ=some (.next,ρ')/\aKd ρ' script l'/\kT l' (m+1000000*is.length):=by
 induction is with
 | nil=>exact fun ρ l m H ho _=>⟨ρ,l,rfl,H,(Int.add_zero m).symm▸ho⟩
 | cons i is ih=>
  intro ρ l m H ho hm;obtain ⟨ρ1,l1,e1,H1,o1⟩:=wN (cf:=cf) (k:=k) H ho (hi i (List.mem_cons_self ..)) hs hm;obtain ⟨ρ2,l2,e2,H2,o2⟩:=ih (fun j hj=>hi j (List.mem_cons_of_mem _ hj)) ρ1 l1 (m+1000000) H1 o1 (by exact Int.add_nonneg hm (of_decide_eq_true rfl));refine ⟨ρ2,l2,(cJ e1).trans e2,H2,?_⟩;have:m+1000000*((i::is).length:Int)=m+1000000+1000000*(is.length:Int):=by rw [List.length_cons]; lia
  rw [this]; exact o2
end
theorem aMg (n:Nat):bL "min" [.int 42,.int n]=some (.int ((min 42 n:Nat):Int)):=by
 show some (AV.int (if (n:Int)<42 then (n:Int) else 42))=_
 congr 2
 split <;> lia
theorem aDx (cf:CallF)(script:List Int)(hs:script.length<=63):∃l,bS cf 60 dL [.list (script.map .int)]=some (.list (l.map .int))/\kT l 50000000:=by
 have H0:aKd ((eE dL.ps [.list (script.map .int)]).set "heaps" (.own (.list (([0,1,2,0,1,5,3]:List Int).map .int)))) script [0,1,2,0,1,5,3]:=⟨St.set_nb rfl rfl,if_pos rfl⟩;have hm:min 42 script.length<=42:=Nat.min_le_left ..;obtain ⟨ρ2,l2,hf,H2,o2⟩:=aAm (cf:=cf) (k:=37) hs (List.range (min 42 script.length)) (fun i hi=>Nat.lt_of_lt_of_le (List.mem_range.mp hi) (Nat.min_le_right ..)) _ [0,1,2,0,1,5,3] 5 H0 ⟨rfl,by decide⟩ (by decide);refine ⟨l2,aAg (k:=60) rfl (ρ:=ρ2) ?_,o2.1,fun a ha=> ?_⟩
 ·refine Eq.trans (aE (k:=59) rfl) (Eq.trans (aE (k:=58) (rZ (k:=57) rfl ?_ (gF (n:=min 42 script.length) ?_) hf)) (sB (m:=56) (aD (wM H2.h) rfl)))
  ·exact kR rfl (bI (Nat.succ_ne_zero _) (qE rfl rfl (cF (Nat.succ_ne_zero _) aI (oK rfl (bI (Nat.succ_ne_zero _) (aD (aAf H0.s) rfl)) (bJ (aAh hs rfl)))) (by rw [List.length_map]; exact aMg _))) (show pI [.int ((min 42 script.length:Nat):Int)]=_ from if_pos (qF (by exact ngl rfl) (by lia)))
  ·exact Nat.le_trans hm (Nat.le_of_ble_eq_true rfl)
 ·have:=o2.2 a ha;rw [List.length_range] at this
  lia
theorem qG {M:Model}{α:Type}{X:ClassData->Sem α}{Y:Sem α}{Q:α->Shared->Prop}{d:Data}(h:∀c,d≠ .cls c)(hy:wpAny M A Y Q E s):wpAny M A (match d with | .cls c=>X c | _=>Y) Q E s:=by
 cases d <;> first | exact hy | exact absurd rfl (h _)
theorem opq {α:Type}{M:Model}{c:Sem α}{Q:α->Shared->Prop}(h:∀Q':α->Shared->Prop,(∀ v s',Q v s'->Q' v s')->wpAny M A c Q' E s):wpAny M A c Q E s:=h Q fun _ _ q=>q
noncomputable abbrev eP (r:CR)(C N:Addr):Obj:=aCt r C N [.type "list",.type "object"] false "list.__new__"
structure uU (h:Heap)(C N:Addr)(mN:Str->Option Value):Prop where
 obj:∃r,h.get? C=some (eP r C N)
 ns:h.Ns N mN
theorem uU.keeps (X:uU h C N mN)(k:∀b o,h.get? b=some o->h'.get? b=some o):uU h' C N mN:=⟨X.obj.imp fun _ e=>k _ _ e,X.ns.keeps k⟩
theorem aU:mroOf (.type "list")=pure [.type "list",.type "object"]:=by rw [mroOf_type]; kernel_rfl
theorem fM:typeLookup (.type "list") "__getattribute__"=pure (some (.builtin "list.__getattribute__")):=by rw [typeLookup_type,builtinLookup_eq_fast]; kernel_rfl
theorem bU:typeLookup (.type "list") "__getattr__"=pure none:=by rw [typeLookup_type,builtinLookup_eq_fast]; kernel_rfl
theorem gU:(Manifest.canonical "list.__getattribute__" !="object.__getattribute__")=false:=by decide+kernel
theorem wO:StoreFacts "list" [.type "list",.type "object"] "object.__setattr__" "object" where
 mro:=aU
 slot:= .of (owner:="object") (n:="__setattr__") (by rw [typeLookup_type,builtinLookup_eq_fast]; kernel_rfl) (by decide+kernel) (by decide+kernel) (by decide+kernel)
  (by first | exact .inl (by decide+kernel) | exact .inr (by decide+kernel)) (by rw [isSubtype_type]; kernel_rfl)
 entry:=F.entry_object_sa
 kind:=by decide+kernel
 split:=by decide+kernel
 hasOwner:=by decide+kernel
 args:=fun a b c=>by unfold argsOk;kernel_rfl
 passes:=fun self=>by kernel_rfl
section
variable {g:Array GenState}{d:Drawn}{t:Nat}{os:OsState}
variable {cr:CR}{x:Addr}{name:Str}{v:Value}
structure LM (id:String)(b:Builtin)(args:Args):Prop where
 plain:plainId id=true
 entry:entryFor table id=some b
 kind:builtinKind id=some .slot\/builtinKind id=some .method
 split:∃n,splitId id=some ("list",n)
 args:argsOk id args
theorem fN (C:Addr):(Value.ref C::[.type "list",.type "object"]).contains (.type "list")=true:=by
 rw [List.contains_cons,show ([Value.type "list",.type "object"]).contains (.type "list")=true from by decide+kernel,Bool.or_true]
theorem kU {M:Model}{b:Builtin}{o:Obj}{rest:List Value}{Q:Unit->Shared->Prop}(L:LM id b ⟨.ref x::rest,[]⟩)
  (hC:h.get? C=some (eP cr C N)) (hx:h.get? x=some o) (hc:o.cls= .ref C)
  (hq:Q () ⟨h,g,d,t,os⟩):wpAny M A (checkBuiltinCall id ⟨.ref x::rest,[]⟩) Q E ⟨h,g,d,t,os⟩:=by
 obtain ⟨n,hs⟩:=L.split;have ha:=L.args;have ho:=fN C
 rcases L.kind with hk | hk <;>
 ·simp only [checkBuiltinCall,hk,hs];refine wpAny_bind ?_;unfold isInstance
  repeat (first | (with_reducible refine wpAny_loadPart_at hx ?_;rw [hc]) | (with_reducible refine wpAny_isSubtype_exc hC ?_;rw [ho]) | wp_step)
  rcases hsig:Manifest.signature? id with _ | sig
  ·exact wpAny_pure hq
  ·simp only [argsOk,hsig] at ha;have h2:Bind.checkArgs id sig ⟨.ref x::rest,[]⟩=pure ():=ha;show wpAny _ _ (Bind.checkArgs id sig ⟨.ref x::rest,[]⟩) _ _ _;rw [h2];exact wpAny_pure hq
theorem gX {b:Builtin}{o:Obj}{rest:List Value}(L:LM id b ⟨.ref x::rest,[]⟩)
  (hC:h.get? C=some (eP cr C N)) (hx:h.get? x=some o) (hc:o.cls= .ref C)
  (hbody:wpAny (model prog w) A.in1 (b ⟨.ref x::rest,[]⟩) (fun fin s'=>∃v,fin= .done (.ret v)/\Q v s') E ⟨h,g,d,t,os⟩):
  wpAny (model prog w) A (call (.builtin id) (.ref x::rest)) Q E ⟨h,g,d,t,os⟩:=
 wpAny_call (codeAny_call_builtin L.plain L.entry (kU L hC hx hc (wpAny_mono hbody (fun f s' hf=>(by obtain ⟨v,rfl,hv⟩:=hf;exact hv)) fun _ _ e=>e)))
theorem sG {tk:Tok}{Q:Fin->Shared->Prop}
  (hC:h.get? C=some (eP cr C N)) (hn:h.Ns N mN) (hna:mN name=none)
  (hB:typeLookup (.type "list") name=pure none) (I:h.Inst x C mA) (hv:mA name=some v) (hq:Q (.done (.ret v)) ⟨h,g,d,t,os⟩):
  wpAny (model prog w) A (Builtin.«object.__getattribute__» ⟨[.ref x,.str name tk],[]⟩) Q E ⟨h,g,d,t,os⟩:=by
 obtain ⟨⟨oc,od,oda,osl⟩,hx,hc,hnc,hd⟩:=I;obtain rfl:oc= .ref C:=hc
 rcases hd with ⟨_,hmA⟩ | ⟨dx,hdx,hne,hns⟩
 ·rw [hmA name] at hv;exact no1 hv
 obtain rfl:od=some dx:=hdx;unfold Builtin.«object.__getattribute__»
 repeat (first | (with_reducible refine wpAny_loadPart_at hx ?_) | (with_reducible refine wpAny_typeLookup_exc hC hn aU hB ?_;rw [hna]) | wp_step)
 refine qG hnc ?_;unfold instanceDict
 repeat (first | (with_reducible refine wpAny_nsGet hns.ns ?_;rw [hv]) | (with_reducible refine wpAny_loadPart_at hx ?_) | with_reducible refine wpAny_loadPart_at hC ?_ | wp_step)
 exact hq
end
theorem aKe (a b:Value):LM "list.__getattribute__" Builtin.«object.__getattribute__» ⟨a::[b],[]⟩:=
 ⟨F.slot_list_getattribute.plain,F.entry_list_ga,.inl (by decide+kernel),⟨"__getattribute__",by decide+kernel⟩,F.args_list_getattribute_2 _ _⟩
section
variable {g:Array GenState}{d:Drawn}{t:Nat}{os:OsState}
variable {cr:CR}{x:Addr}{name:Str}{v:Value}
set_option maxHeartbeats 1000000 in
theorem wP {expr:Bool}
  (hC:h.get? C=some (eP cr C N)) (hn:h.Ns N mN) (hng:mN "__getattribute__"=none) (hnh:mN "__getattr__"=none) (hna:mN name=none)
  (hB:typeLookup (.type "list") name=pure none) (I:h.Inst x C mA) (hv:mA name=some v) (hh:handedOut v=pure v) (hq:Q v ⟨h,g,d,t+1,os⟩):
  wpAny (model prog w) A (getAttr (.ref x) name expr) Q E ⟨h,g,d,t,os⟩:=by
 obtain ⟨o,hx,hc,_⟩:=id I;have f3:=F.slot_list_getattribute.bind (.ref x);have hx0:(expr&&onTheHeap (Value.builtin "list.__getattribute__"))=false:=by rcases expr with _ | _ <;> rfl
 have hx2:(Value.builtin "list.__getattribute__"==Value.builtin "object.__getattribute__")=false:=by decide+kernel
 have hx1:(onTheHeap (Value.ref C)&&Value.builtin "list.__getattribute__"==Value.builtin "object.__getattribute__")=false:=by rw [hx2]; rfl
 unfold getAttr getAttrBy
 repeat (any_goals (first | assumption | (with_reducible refine wpAny_loadPart_at hx ?_;rw [hc]) | (with_reducible refine wpAny_typeLookup_exc hC hn aU fM ?_;rw [hng]) | (with_reducible refine wpAny_typeLookup_exc hC hn aU bU ?_;rw [hnh]) | wp_step))
 have L:=aKe (.ref x) (.str name t);refine codeAny_call_builtin L.plain L.entry ?_;refine kU (id:="list.__getattribute__") (b:=Builtin.«object.__getattribute__») (rest:=[.str name t]) (o:=o) L hC hx hc ?_;refine sG hC hn hna hB I hv ?_;show wpAny _ _ (handedOut v) _ _ _;rw [hh];exact wpAny_pure hq
set_option maxHeartbeats 1000000 in
theorem sH {pl:Sem Bool}{f:Addr}{of:Obj}{Q:Value × List Value->Shared->Prop}
  (hC:h.get? C=some (eP cr C N)) (hn:h.Ns N mN) (hng:mN "__getattribute__"=none) (hnh:mN "__getattr__"=none)
  (hf:mN name=some (.ref f)) (hfo:h.get? f=some of) (hfc:of.cls= .type "function") {y:Option Value} (hB:typeLookup (.type "list") name=pure y)
  (I:h.Inst x C mA) (hsh:mA name=none) (hq:Q (.ref f,[.ref x]) ⟨h,g,d,t,os⟩):
  wpAny (model prog w) A (getMethod (.ref x) name pl) Q E ⟨h,g,d,t,os⟩:=by
 obtain ⟨⟨oc,od,oda,osl⟩,hx,hc,hnc,hd⟩:=I;obtain rfl:oc= .ref C:=hc;have hcan:=gU;unfold getMethod specialOf
 repeat (first | (with_reducible refine wpAny_loadPart_at hx ?_) | (with_reducible refine wpAny_typeLookup_exc hC hn aU fM ?_;rw [hng]) | (with_reducible refine wpAny_typeLookup_exc hC hn aU bU ?_;rw [hnh]) | (with_reducible refine wpAny_typeLookup_exc hC hn aU hB ?_;rw [hf]) | (with_reducible refine wpAny_typeOf (T:="function") ⟨_,hfo,hfc⟩ ?_) | (with_reducible refine bM (by rw [hcan]; exact Bool.false_ne_true) ?_) | wp_step)
 rcases hd with ⟨hdn,_⟩ | ⟨dx,hdx,_,hns⟩
 ·obtain rfl:od=none:=hdn
  repeat wp_step
  exact hq
 ·obtain rfl:od=some dx:=hdx
  repeat (first | (with_reducible refine wpAny_nsGet hns.ns ?_;rw [hsh]) | wp_step)
  exact hq
set_option maxHeartbeats 1000000 in
theorem qH {pl:Sem Bool}{Q:Value × List Value->Shared->Prop}
  (hC:h.get? C=some (eP cr C N)) (hn:h.Ns N mN) (hng:mN "__getattribute__"=none) (hnh:mN "__getattr__"=none)
  (hf:mN name=none) (hB:typeLookup (.type "list") name=pure (some (.builtin id))) (hid:typeOf (.builtin id)=pure (.type "method_descriptor"))
  (I:h.Inst x C mA) (hsh:mA name=none) (hq:Q (.builtin id,[.ref x]) ⟨h,g,d,t,os⟩):
  wpAny (model prog w) A (getMethod (.ref x) name pl) Q E ⟨h,g,d,t,os⟩:=by
 obtain ⟨⟨oc,od,oda,osl⟩,hx,hc,hnc,hd⟩:=I;obtain rfl:oc= .ref C:=hc;have hcan:=gU;have hT:(⟨h,g,d,t,os⟩:Shared).TypeIs (.builtin id) "method_descriptor":=hid;unfold getMethod specialOf
 repeat (first | (with_reducible refine wpAny_loadPart_at hx ?_) | (with_reducible refine wpAny_typeLookup_exc hC hn aU fM ?_;rw [hng]) | (with_reducible refine wpAny_typeLookup_exc hC hn aU bU ?_;rw [hnh]) | (with_reducible refine wpAny_typeLookup_exc hC hn aU hB ?_;rw [hf]) | (with_reducible refine wpAny_typeOf (T:="method_descriptor") hT ?_) | (with_reducible refine bM (by rw [hcan]; exact Bool.false_ne_true) ?_) | wp_step)
 rcases hd with ⟨hdn,_⟩ | ⟨dx,hdx,_,hns⟩
 ·obtain rfl:od=none:=hdn
  repeat wp_step
  exact hq
 ·obtain rfl:od=some dx:=hdx
  repeat (first | (with_reducible refine wpAny_nsGet hns.ns ?_;rw [hsh]) | wp_step)
  exact hq
end
def fO (h:Heap)(C c dc:Addr)(vs:Array Value):Prop:=∃n,h.get? c=some {cls:= .ref C,dict:=some dc,data:= .seq vs n}
theorem fO.at {vs:Array Value}(x:fO h C c dc vs)(k:∀o,h.get? c=some o->h'.get? c=some o):fO h' C c dc vs:=by obtain ⟨n,e⟩:=x;exact ⟨n,k _ e⟩
theorem mY (C dc:Addr)(its:Array Value)(n:Nat)(f:Array Value->Array Value):
  Obj.mapSeq f {cls:= .ref C,dict:=some dc,data:= .seq its n}={cls:= .ref C,dict:=some dc,data:= .seq (f its) (if (f its).size==its.size then n else n+1)}:=rfl
theorem aAn (a b:Value):LM "list.append" Builtin.«list.append» ⟨a::[b],[]⟩:=
 ⟨slot_list_append.plain,entry_list_append,.inr (by decide+kernel),⟨"append",by decide+kernel⟩,args_list_append _ _⟩
theorem aHi (a:Value):LM "list.__iter__" Builtin.«list.__iter__» ⟨a::[],[]⟩:=
 ⟨slot_list_iter.plain,entry_list_iter,.inl (by decide+kernel),⟨"__iter__",by decide+kernel⟩,args_list_iter _⟩
theorem mZ (a b:Value):LM "list.__getitem__" Builtin.«list.__getitem__» ⟨a::[b],[]⟩:=
 ⟨slot_list_getitem.plain,entry_list_getitem,.inr (by decide+kernel),⟨"__getitem__",by decide+kernel⟩,args_list_getitem _ _⟩
theorem wQ (a b c:Value):LM "list.__setitem__" Builtin.«list.__setitem__» ⟨a::[b,c],[]⟩:=
 ⟨slot_list_setitem.plain,entry_list_setitem,.inl (by decide+kernel),⟨"__setitem__",by decide+kernel⟩,args_list_setitem _ _ _⟩
section
variable {vs:Array Value}
theorem jO {M:Model}{f:Array Value->Array Value}{Q:Unit->Shared->Prop}(hl:fO s.heap C c dc vs)(hQ:∀h',fO h' C c dc (f vs)->Heap.SameBut c s.heap h'->Q () {s with heap:=h'})
  (h1:vs.size<=sizeLine) (h2:(f vs).size<=sizeLine+1):wpAny M A (updateSeq c f) Q E s:=by
 obtain ⟨n,ho⟩:=hl;refine wpAny_updateSeq ho rfl (hQ _ ⟨(if (f vs).size==vs.size then n else n+1),?_⟩ (Heap.SameBut.update ..)) h1 h2;rw [Heap.get?_update_self _ ho (by rw [mY]; rfl),mY]
theorem aDy {v:Value}(X:uU s.heap C N mN)(hl:fO s.heap C c dc vs)(h1:vs.size<=1000)
  (hQ:∀h',fO h' C c dc (vs.push v)->Heap.SameBut c s.heap h'->Q .none {s with heap:=h'}):wpAny (model prog w) A (call (.builtin "list.append") [.ref c,v]) Q E s:=by
 obtain ⟨cr,hC⟩:=X.obj;obtain ⟨n,ho⟩:=id hl;obtain ⟨hp,g,d,t,os⟩:=s;refine gX (id:="list.append") (b:=Builtin.«list.append») (rest:=[v]) (aAn _ _) hC ho rfl ?_;show wpAny _ _ (updateSeq c (·.push v) >>= fun _=>ret .none) _ _ _;refine wpAny_bind (jO hl (fun h' a b=>wpAny_pure ⟨.none,rfl,hQ h' a b⟩) (by rw [sizeLine_eq]; exact lit h1 rfl) (by rw [sizeLine_eq]; simp;exact lit h1 rfl))
theorem eQ {n:Str}{y:Option Value}{Q:Option Value->Shared->Prop}(X:uU s.heap C N mN)(hl:fO s.heap C c dc vs)(hm:mN n=none)(hB:typeLookup (.type "list") n=pure y)(hq:Q y s):wpAny (model prog w) A (specialOf (.ref c) n) Q E s:=by
 obtain ⟨cr,hC⟩:=X.obj;obtain ⟨m,ho⟩:=id hl;have hn:=X.ns;obtain ⟨hp,g,d,t,os⟩:=s;unfold specialOf;refine wpAny_bind ?_;have hc:({cls:= .ref C,dict:=some dc,data:= .seq vs m}:Obj).cls= .ref C:=rfl
 repeat (first | (with_reducible refine wpAny_loadPart_at ho ?_) | wp_step)
 refine wpAny_typeLookup_exc hC hn aU hB ?_;rw [hm];exact hq
theorem dZ {n:Str}{args:List Value}{Q:Option Value->Shared->Prop}(X:uU s.heap C N mN)(hl:fO s.heap C c dc vs)(hm:mN n=none)(S:PySem.Slot "list" n id)
  (hq:wpAny (model prog w) A (call (.builtin id) (.ref c::args)) (fun v=>Q (some v)) E s):wpAny (model prog w) A (callSpecial? (.ref c) n args) Q E s:=by
 unfold callSpecial?;refine wpAny_bind (eQ X hl hm S.lookup ?_);refine wpAny_holding ?_;refine wpAny_bind (wpAny_of_eq (S.bind _) ?_);exact wpAny_bind (wpAny_mono hq (fun v s' h=>wpAny_pure h) fun _ _ e=>e)
theorem uV {M:Model}(hC:∃cr:CR,s.heap.get? C=some (eP cr C N)){Q:Bool->Shared->Prop}(hq:Q false s):
  ∀l:List String,(∀ n∈l,([Value.type "list",.type "object"]).contains (.type n)=false)->wpAny M A (List.anyM (fun n=>isSubtype (.ref C) (.type n)) l) Q E s
 | [],_=>wpAny_pure hq
 | n::r,h=>by
  have ih:=uV (M:=M) hC hq r fun m hm=>h m (List.mem_cons_of_mem _ hm)
  obtain ⟨cr,hC⟩:=hC;obtain ⟨hp,g,d,t,os⟩:=s;refine wpAny_bind (m:=isSubtype (.ref C) (.type n)) (wpAny_isSubtype_exc hC ?_);have hf:(Value.ref C::[.type "list",.type "object"]).contains (.type n)=false:=by
   rw [List.contains_cons,h n List.mem_cons_self,Bool.or_false]; rfl
  rw [hf];exact ih
theorem eA {i:Value}{n:Str}(X:uU s.heap C N mN)(hl:fO s.heap C c dc vs)(hq:Q i s):wpAny (model prog w) A (sequenceKey (.ref c) i n) Q E s:=by
 obtain ⟨m,ho⟩:=id hl;unfold sequenceKey;refine wpAny_bind ?_;unfold typeOf;obtain ⟨hp,g,d,t,os⟩:=s;refine wpAny_bind (wpAny_loadPart_at ho (wpAny_pure ?_));refine wpAny_bind (uV X.obj ?_ _ (by decide+kernel));exact iV rfl (wpAny_pure hq)
theorem aAo {k:Int}{x:Value}(X:uU s.heap C N mN)(hm:mN "__getitem__"=none)(hl:fO s.heap C c dc vs)
  (h0:0<=k) (hfit:k<2^63) (hx:vs[k.toNat]? =some x) (h:Q x s):wpAny (model prog w) A (getItem (.ref c) (.int k t)) Q E s:=by
 obtain ⟨m,ho⟩:=id hl;unfold getItem
 try with_reducible refine wpAny_holding ?_
 first | refine wpAny_bind (wpAny_pure ?_) | skip
 refine wpAny_bind (eA X hl ?_);refine wpAny_bind (dZ (n:=ofString "__getitem__") X hl hm slot_list_getitem ?_);obtain ⟨cr,hC⟩:=X.obj;obtain ⟨hp,g,d,tk,os⟩:=s;refine gX (id:="list.__getitem__") (b:=Builtin.«list.__getitem__») (rest:=[.int k t]) (mZ _ _) hC ho rfl ?_;show wpAny _ _ (Builtin.List.listSubscript? (.int k t) >>= _) _ _ _;refine wpAny_bind (wpAny_listSubscript_int (fitsIndex_of h0 hfit) ?_)
 clear hfit
 obtain ⟨j,rfl⟩:=Int.eq_ofNat_of_zero_le h0;have hx':vs[j]? =some x:=hx;show wpAny _ _ ((seqItemAt c j >>= fun r=>pure (r.map (j,·))) >>= _) _ _ _;refine wpAny_bind (wpAny_bind (wpAny_seqItemAt ho rfl (wpAny_pure ?_)));rw [hx']
 first
  | exact wpAny_bind (wpAny_pure (wpAny_pure ⟨x,rfl,wpAny_pure h⟩))
  | exact wpAny_pure ⟨x,rfl,wpAny_pure h⟩
theorem aDz {vs us:Array Value}{a b:Nat}(h1:vs.size<=1000)(h2:us.size<=1000):(vs.extract 0 a++us++vs.extract b vs.size).size<=3000:=by
 rw [Array.size_append,Array.size_append,Array.size_extract,Array.size_extract];exact Nat.add_le_add (Nat.add_le_add (Nat.le_trans (Nat.sub_le _ _) (Nat.le_trans (Nat.min_le_right _ _) h1)) h2) (Nat.le_trans (Nat.sub_le _ _) (Nat.le_trans (Nat.min_le_right _ _) h1))
theorem wR {sl:Addr}{vl vu vst:Value}{lo hi st:Option Int}(X:uU s.heap C N mN)(hm:mN "__getitem__"=none)(hl:fO s.heap C c dc vs)
  (hs:s.heap.IsSliceOf sl vl vu vst) (pl:IsPart vl lo) (pu:IsPart vu hi) (ps:IsPart vst st) (h0:st≠some 0)
  (h:Q (.ref s.heap.objs.size) {s with heap:=s.heap.push {cls:= .type "list",data:= .seq (slicePick vs lo hi st)}})
  (hsz:vs.size<=1000):wpAny (model prog w) A (getItem (.ref c) (.ref sl)) Q E s:=by
 obtain ⟨m,ho⟩:=id hl;obtain ⟨os,hos,hcs,hds⟩:=id hs;have hTs:s.TypeIs (.ref sl) "slice":=⟨os,hos,hcs⟩;unfold getItem
 try with_reducible refine wpAny_holding ?_
 first | refine wpAny_bind (wpAny_pure ?_) | skip
 refine wpAny_bind (eA X hl ?_);refine wpAny_bind (dZ (n:=ofString "__getitem__") X hl hm slot_list_getitem ?_);obtain ⟨cr,hC⟩:=X.obj;obtain ⟨hp,g,d,tk,os'⟩:=s;refine gX (id:="list.__getitem__") (b:=Builtin.«list.__getitem__») (rest:=[.ref sl]) (mZ _ _) hC ho rfl ?_;show wpAny _ _ (Builtin.List.listSubscript? (.ref sl) >>= _) _ _ _;refine wpAny_bind (opq fun R n=> ?_)
 ·unfold Builtin.List.listSubscript?;refine wpAny_bind (wpAny_specialOf hTs slice_no_index ?_);refine iV rfl ?_;refine wpAny_pure (n _ _ ?_)
  clear n
  show wpAny _ _ (typeOf (.ref sl) >>= _) _ _ _;refine wpAny_bind (wpAny_typeOf hTs ?_);refine bM (by decide) ?_;rw [listSliceParts_eq];have hstep:¬((rawPart st==rawInt 0)=true):=by
   rcases st with _ | c
   ·exact Bool.false_ne_true
   ·intro hh;have:c=0:=by simpa [rawPart,rawInt] using hh
    exact h0 (by rw [this])
  refine wpAny_bind (opq fun R2 n2=>wpAny_bind (wpAny_field hos hds (x:=vst) rfl (wpAny_bind (wpAny_listPart ps ?_))));refine bM hstep ?_;refine wpAny_bind (wpAny_field hos hds (x:=vl) rfl (wpAny_bind (wpAny_listPart pl ?_)));refine wpAny_bind (wpAny_field hos hds (x:=vu) rfl (wpAny_bind (wpAny_listPart pu (wpAny_pure (n2 _ _ ?_)))));refine wpAny_bind (m:=Builtin.List.listItems (.ref c)) (opq fun R1 n1=> ?_)
  ·unfold Builtin.List.listItems;refine wpAny_bind (wpAny_seqItems ho rfl (wpAny_pure (n1 _ _ ?_)));refine wpAny_bind (wpAny_of_eq (sliceIndices_raw lo hi st vs.size h0) ?_);refine wpAny_bind (wpAny_newObj_type (wpAny_pure ⟨_,rfl,wpAny_pure h⟩) (Nat.le_trans (slicePick_size_le vs lo hi st) (by rw [sizeLine_eq]; exact lit hsz rfl)))
theorem wT {sl:Addr}{vl vu:Value}{lo hi:Option Int}{us:Array Value}{Q:Unit->Shared->Prop}(X:uU s.heap C N mN)(hm:mN "__setitem__"=none)(hl:fO s.heap C c dc vs)(hL:s.heap.PlainList L us)
  (hs:s.heap.IsSliceOf sl vl vu .none) (pl:IsPart vl lo) (pu:IsPart vu hi) (hLc:L≠c)
  (h:∀h',fO h' C c dc (vs.extract 0 (sliceBounds lo hi none vs.size).1.toNat++us++vs.extract (max (sliceBounds lo hi none vs.size).1 (sliceBounds lo hi none vs.size).2.1).toNat vs.size)->Heap.SameBut c s.heap h'->Q () {s with heap:=h'})
  (hsz:vs.size<=1000) (hsz2:us.size<=1000):wpAny (model prog w) A (setItem (.ref c) (.ref sl) (.ref L)) Q E s:=by
 obtain ⟨m,ho⟩:=id hl;obtain ⟨os,hos,hcs,hds⟩:=id hs;have hTs:s.TypeIs (.ref sl) "slice":=⟨os,hos,hcs⟩;unfold setItem
 try with_reducible refine wpAny_holding ?_
 first | refine wpAny_bind (wpAny_pure ?_) | skip
 refine wpAny_bind (eA X hl ?_);refine wpAny_bind (dZ (n:=ofString "__setitem__") X hl hm slot_list_setitem ?_);obtain ⟨cr,hC⟩:=X.obj;obtain ⟨hp,g,d,tk,os'⟩:=s;refine gX (id:="list.__setitem__") (b:=Builtin.«list.__setitem__») (rest:=[.ref sl,.ref L]) (wQ _ _ _) hC ho rfl ?_;show wpAny _ _ (Builtin.List.listSubscript? (.ref sl) >>= _) _ _ _;refine wpAny_bind (opq fun R n=> ?_)
 ·unfold Builtin.List.listSubscript?;refine wpAny_bind (wpAny_specialOf hTs slice_no_index ?_);refine iV rfl ?_;refine wpAny_pure (n _ _ ?_)
  clear n
  show wpAny _ _ (typeOf (.ref sl) >>= _) _ _ _;refine wpAny_bind (wpAny_typeOf hTs ?_);refine bM (by decide) ?_;rw [listSliceParts_eq];refine wpAny_bind (opq fun R2 n2=>wpAny_bind (wpAny_field hos hds (x:= .none) rfl (wpAny_bind (wpAny_listPart (k:=none) .none ?_))));refine bM (by exact Bool.false_ne_true) ?_;refine wpAny_bind (wpAny_field hos hds (x:=vl) rfl (wpAny_bind (wpAny_listPart pl ?_)));refine wpAny_bind (wpAny_field hos hds (x:=vu) rfl (wpAny_bind (wpAny_listPart pu (wpAny_pure (n2 _ _ ?_)))));have hne:Builtin.List.listSameRef (.ref c) (.ref L)=false:=by
   show (c==L)=false;exact beq_eq_false_iff_ne.mpr (Ne.symm hLc)
  rw [hne];obtain ⟨nL,hoL⟩:=hL;refine wpAny_bind (m:=Builtin.List.listAllItems (.ref L) _) (opq fun R1 n1=> ?_)
  ·unfold Builtin.List.listAllItems;refine wpAny_bind (wpAny_typeOf (T:="list") ⟨_,hoL,rfl⟩ ?_);refine iV (by decide) ?_;unfold Builtin.List.listItems;refine wpAny_bind (wpAny_seqItems hoL rfl (wpAny_pure (n1 _ _ ?_)))
   clear n1
   refine wpAny_bind (wpAny_bind (wpAny_seqItems ho rfl (wpAny_pure ?_)));refine wpAny_bind (wpAny_of_eq (sliceIndices_raw lo hi none vs.size (by simp)) ?_);generalize hb:sliceBounds lo hi none vs.size=b;rw [hb] at h;have hb1:b.2.2=1:=by rw [<- hb]; rfl
   have hlong:Builtin.List.listTooLong (vs.size+us.size)=false:=by
    unfold Builtin.List.listTooLong;rw [sizeLine_eq];exact decide_eq_false (Nat.not_lt_of_le (Nat.le_trans (Nat.add_le_add hsz hsz2) (by decide)))
   refine iV (by rw [hb1]; rfl) (bM (by rw [hlong]; exact Bool.false_ne_true) ?_);refine wpAny_bind (m:=Builtin.List.listUpdate _ _) ?_;refine jO hl (fun h' a b=>wpAny_bind (wpAny_letGo (wpAny_pure ⟨.none,rfl,wpAny_pure (h h' a b)⟩))) (Nat.le_trans hsz (by decide)) (Nat.le_trans (aDz hsz hsz2) (by decide))
end
theorem sI:PySem.Slot "method_descriptor" "__get__" "method_descriptor.__get__":= .of (owner:="method_descriptor") (n:="__get__") (by rw [typeLookup_type,builtinLookup_eq_fast]; kernel_rfl) (by decide+kernel) (by decide+kernel) (by decide+kernel)
 (by first | exact .inl (by decide+kernel) | exact .inr (by decide+kernel)) (by rw [isSubtype_type]; kernel_rfl)
theorem qI:entryFor table "method_descriptor.__get__"=some Builtin.«method_descriptor.__get__» :=entryFor_of_tree (by kernel_rfl)
theorem sJ (a b c:Value):argsOk "method_descriptor.__get__" ⟨[a,b,c],[]⟩:=by unfold argsOk;kernel_rfl
theorem kW:PySem.Slot "wrapper_descriptor" "__get__" "wrapper_descriptor.__get__":= .of (owner:="wrapper_descriptor") (n:="__get__") (by rw [typeLookup_type,builtinLookup_eq_fast]; kernel_rfl) (by decide+kernel) (by decide+kernel) (by decide+kernel)
 (by first | exact .inl (by decide+kernel) | exact .inr (by decide+kernel)) (by rw [isSubtype_type]; kernel_rfl)
theorem jC:entryFor table "wrapper_descriptor.__get__"=some Builtin.«wrapper_descriptor.__get__» :=entryFor_of_tree (by kernel_rfl)
theorem kX (a b c:Value):argsOk "wrapper_descriptor.__get__" ⟨[a,b,c],[]⟩:=by unfold argsOk;kernel_rfl
structure nA (id:String)(name:Str)(T bt getId:String)(B:Builtin):Prop where
 own:classOwn (.type "list") name=pure (some (.builtin id))
 ty:typeOf (.builtin id)=pure (.type T)
 slot:PySem.Slot T "__get__" getId
 entry:entryFor table getId=some B
 args:∀a b c,argsOk getId ⟨[a,b,c],[]⟩
 ncls:(name==("__class__":Str))=false
 makes:∀{M:Model}{A:Around}{E:Value->Shared->Prop}{h:Heap}{g:Array GenState}{d:Drawn}{t:Nat}{os:OsState}{cr:CR}{C N x:Addr}{o:Obj}{Q:Fin->Shared->Prop},
  h.get? C=some (eP cr C N)->h.get? x=some o->o.cls= .ref C->
  Q (.done (.ret (.ref h.objs.size))) ⟨h.push {cls:= .type bt,data:= .fields #[.builtin id,.ref x]},g,d,t,os⟩->wpAny M A (B ⟨[.builtin id,.ref x,.ref C],[]⟩) Q E ⟨h,g,d,t,os⟩
theorem kY:typeOf (.builtin "list.pop")=pure (.type "method_descriptor"):=by show builtinType _=_;rw [builtinType_eq_fast]; kernel_rfl
theorem kZ:typeOf (.builtin "list.__len__")=pure (.type "wrapper_descriptor"):=by show builtinType _=_;rw [builtinType_eq_fast]; kernel_rfl
theorem jJ:typeOf (.builtin "list.__init__")=pure (.type "wrapper_descriptor"):=by show builtinType _=_;rw [builtinType_eq_fast]; kernel_rfl
theorem qJ:classOwn (.type "list") "pop"=pure (some (.builtin "list.pop")):=by kernel_rfl
theorem qK:classOwn (.type "list") "__len__"=pure (some (.builtin "list.__len__")):=by kernel_rfl
theorem oL:classOwn (.type "list") "__init__"=pure (some (.builtin "list.__init__")):=by kernel_rfl
theorem aAp:(".".intercalate ("list.pop".cutAt '.').dropLast)="list":=by decide+kernel
set_option maxHeartbeats 1000000 in
theorem wU:nA "list.pop" "pop" "method_descriptor" "builtin_function_or_method" "method_descriptor.__get__" Builtin.«method_descriptor.__get__» where
 own:=qJ
 ty:=kY
 slot:=sI
 entry:=qI
 args:=sJ
 ncls:=by decide
 makes:=by
  intro M A E h g d t os cr C N x o Q hC hx hc hq;have ho:=fN C;have hw:=aAp;unfold Builtin.«method_descriptor.__get__»
  repeat (first | (with_reducible refine wpAny_loadPart_at hx ?_;rw [hc]) | (rw [hw]; with_reducible refine wpAny_isSubtype_exc hC ?_;rw [ho]) | (with_reducible refine wpAny_newObj_type ?_ (by size_fits)) | wp_step)
  all_goals (first | exact hq | (unfold newFields;repeat (first | (with_reducible refine wpAny_newObj_type ?_ (by size_fits)) | wp_step); exact hq))
theorem aAq:(".".intercalate ("list.__len__".cutAt '.').dropLast)="list":=by decide+kernel
set_option maxHeartbeats 1000000 in
theorem wV:nA "list.__len__" "__len__" "wrapper_descriptor" "method-wrapper" "wrapper_descriptor.__get__" Builtin.«wrapper_descriptor.__get__» where
 own:=qK
 ty:=kZ
 slot:=kW
 entry:=jC
 args:=kX
 ncls:=by decide
 makes:=by
  intro M A E h g d t os cr C N x o Q hC hx hc hq;have ho:=fN C;have hw:=aAq;unfold Builtin.«wrapper_descriptor.__get__»
  repeat (first | (with_reducible refine wpAny_loadPart_at hx ?_;rw [hc]) | (rw [hw]; with_reducible refine wpAny_isSubtype_exc hC ?_;rw [ho]) | (with_reducible refine wpAny_newObj_type ?_ (by size_fits)) | wp_step)
  all_goals (first | exact hq | (unfold newFields;repeat (first | (with_reducible refine wpAny_newObj_type ?_ (by size_fits)) | wp_step); exact hq))
theorem wW:(".".intercalate ("list.__init__".cutAt '.').dropLast)="list":=by decide+kernel
set_option maxHeartbeats 1000000 in
theorem sK:nA "list.__init__" "__init__" "wrapper_descriptor" "method-wrapper" "wrapper_descriptor.__get__" Builtin.«wrapper_descriptor.__get__» where
 own:=oL
 ty:=jJ
 slot:=kW
 entry:=jC
 args:=kX
 ncls:=by decide
 makes:=by
  intro M A E h g d t os cr C N x o Q hC hx hc hq;have ho:=fN C;have hw:=wW;unfold Builtin.«wrapper_descriptor.__get__»
  repeat (first | (with_reducible refine wpAny_loadPart_at hx ?_;rw [hc]) | (rw [hw]; with_reducible refine wpAny_isSubtype_exc hC ?_;rw [ho]) | (with_reducible refine wpAny_newObj_type ?_ (by size_fits)) | wp_step)
  all_goals (first | exact hq | (unfold newFields;repeat (first | (with_reducible refine wpAny_newObj_type ?_ (by size_fits)) | wp_step); exact hq))
section
variable {g:Array GenState}{d:Drawn}{t:Nat}{os:OsState}
variable {cr:CR}{x so:Addr}{name:Str}{v:Value}{T bt getId:String}{B:Builtin}
set_option maxHeartbeats 1000000 in
theorem aD0 {o:Obj}{tk:Tok}{Q:Fin->Shared->Prop}(Bh:nA id name T bt getId B)
  (hso:h.get? so=some {cls:= .type "super",dict:=none,data:= .fields #[.ref C,.ref x,.ref C],slots:= #[]}) (hno:Looks (model prog w) h (opaqueClassAbove (.ref C)) none)
  (hC:h.get? C=some (eP cr C N)) (hx:h.get? x=some o) (hc:o.cls= .ref C) (hxC:x≠C)
  (hq:Q (.done (.ret (.ref h.objs.size))) ⟨h.push {cls:= .type bt,data:= .fields #[.builtin id,.ref x]},g,d,t,os⟩):
  wpAny (model prog w) A (Builtin.«super.__getattribute__» ⟨[.ref so,.str name tk],[]⟩) Q E ⟨h,g,d,t,os⟩:=by
 have hn:=Bh.ncls;have hlk:=Bh.slot.lookup;have hT0:(⟨h,g,d,t,os⟩:Shared).TypeIs (.builtin id) T:=Bh.ty;have hne:(Value.ref x==Value.ref C)=false:=by simp [hxC]
 have hdt:({cls:= .type "super",dict:=none,data:= .fields #[.ref C,.ref x,.ref C],slots:= #[]}:Obj).data= .fields #[.ref C,.ref x,.ref C]:=rfl;have f0:(#[.ref C,.ref x,.ref C]:Array Value)[0]? =some (.ref C):=rfl;have f1:(#[.ref C,.ref x,.ref C]:Array Value)[1]? =some (.ref x):=rfl;have f2:(#[.ref C,.ref x,.ref C]:Array Value)[2]? =some (.ref C):=rfl;have hdrop:List.drop 1 (List.dropWhile (fun x=>x !=Value.ref C) (Value.ref C::[.type "list",.type "object"]))=[.type "list",.type "object"]:=by
  rw [List.dropWhile_cons_of_neg (by simp)]; rfl
 have hown:=Bh.own;unfold Builtin.«super.__getattribute__»
 repeat (first
  | (with_reducible refine wpAny_field hso hdt f0 ?_) | (with_reducible refine wpAny_field hso hdt f1 ?_) | (with_reducible refine wpAny_field hso hdt f2 ?_)
  | (with_reducible refine ks_wpAny_notOpaque hno ?_)
  | (with_reducible refine wpAny_mroOf_exc hC ?_;rw [hdrop])
  | (with_reducible refine rI ?_) | (with_reducible refine yG ?_) | (with_reducible refine bM (by rw [hn,Bool.or_false]; exact Bool.false_ne_true) ?_)
  | wp_step)
 rw [hne];refine codeAny_call_builtin Bh.slot.plain Bh.entry (Bh.slot.check _ _ _ _ _ _ _ _ hT0 (Bh.args _ _ _) (Bh.makes hC hx hc ?_));refine wpAny_bind (wpAny_pure (wpAny_pure (wpAny_pure (wpAny_pure hq))))
set_option maxHeartbeats 1000000 in
theorem eR {o:Obj}{pl:Sem Bool}{Q:Value × List Value->Shared->Prop}(Bh:nA id name T bt getId B)
  (hso:h.get? so=some {cls:= .type "super",dict:=none,data:= .fields #[.ref C,.ref x,.ref C],slots:= #[]}) (hno:Looks (model prog w) h (opaqueClassAbove (.ref C)) none)
  (hC:h.get? C=some (eP cr C N)) (hx:h.get? x=some o) (hc:o.cls= .ref C) (hxC:x≠C)
  (hq:Q (.ref h.objs.size,[]) ⟨h.push {cls:= .type bt,data:= .fields #[.builtin id,.ref x]},g,d,t+1,os⟩):
  wpAny (model prog w) A (getMethod (.ref so) name pl) Q E ⟨h,g,d,t,os⟩:=by
 have hlk:=F.ks_slot_super_ga.lookup;have hcan:=F.ks_canon_super_ga;have hT:∀t',(⟨h,g,d,t',os⟩:Shared).TypeIs (.ref so) "super":=fun _=>⟨_,hso,rfl⟩
 unfold getMethod;refine wpAny_bind (wpAny_specialOf (hT _) hlk ?_);show wpAny _ _ (if (Manifest.canonical "super.__getattribute__" !="object.__getattribute__")=true then _ else _) _ _ _;rw [if_pos hcan];unfold getAttr getAttrBy;refine wpAny_bind (wpAny_bind (wpAny_mkText (wpAny_holding (wpAny_bind (wpAny_typeOf (hT _) (wpAny_bind (wpAny_of_eq hlk ?_)))))));show wpAny _ _ (getAttrByItsOwn (.ref so) (.str name t) (.type "super") (.builtin "super.__getattribute__") true false) _ _ _;unfold getAttrByItsOwn hookBefore callGetattribute boundAndCalled;refine wpAny_bind (wpAny_of_eq (show (if onTheHeap (.type "super") then typeLookup (.type "super") "__getattr__" else pure none)=pure none from rfl) ?_);refine wpAny_bind (wpAny_attempt (wpAny_holding ?_));show wpAny _ _ (bindSpecial (.builtin "super.__getattribute__") (.ref so) >>= _) _ _ _;refine wpAny_bind (wpAny_of_eq (F.ks_slot_super_ga.bind _) ?_);refine wpAny_mono (Q:=fun v s'=>v= .ref h.objs.size/\s'=⟨h.push {cls:= .type bt,data:= .fields #[.builtin id,.ref x]},g,d,t+1,os⟩) (E:=fun _ _=>False)
  (wpAny_call_entry F.ks_slot_super_ga (hT _) F.ks_entry_super_ga (aD0 Bh hso hno hC hx hc hxC ⟨_,rfl,rfl,rfl⟩) (F.ks_gaArgs_super _ _)) (fun v s' hv=> ?_) fun _ _ z=>z.elim
 obtain ⟨rfl,rfl⟩:=hv;exact wpAny_pure (wpAny_pure hq)
theorem iP {b:Addr}{self:Value}{rest:List Value}{Bi:Builtin}(hbt:bt="builtin_function_or_method"\/bt="method-wrapper")(hb:s.heap.get? b=some {cls:= .type bt,data:= .fields #[.builtin id,self]})(hplain:plainId id=true)(hbi:entryFor table id=some Bi)
  (hck:∀{Q':Unit->Shared->Prop}{E':Value->Shared->Prop}{A':Around},Q' () s->wpAny (model prog w) A' (checkBoundCall id ⟨self::rest,[]⟩) Q' E' s)
  (hbody:wpAny (model prog w) A.in1 (Bi ⟨self::rest,[]⟩) (fun fin s'=>∃v,fin= .done (.ret v)/\Q v s') E s):wpAny (model prog w) A (call (.ref b) rest) Q E s:=by
 refine wpAny_call (codeAny_of_tree ?_);show wpAny _ A.in1 (callAny (.ref b) ⟨rest,[]⟩) _ _ _;unfold callAny;refine wpAny_bind (wpAny_load hb ?_);have hc:(((Value.type bt==Value.type "method")||(Value.type bt==Value.type "builtin_function_or_method"))||(Value.type bt==Value.type "method-wrapper"))=true:=by
  rcases hbt with rfl | rfl <;> decide+kernel
 have hm:(Value.type bt !=Value.type "method")=true:=by
  rcases hbt with rfl | rfl <;> decide+kernel
 dsimp only;rw [if_pos hc];show wpAny _ _ (if (Value.type bt !=Value.type "method")=true then (checkBoundCall id ⟨self::rest,[]⟩ >>= fun _=>again (.builtin id ⟨self::rest,[]⟩)) else _) _ _ _;rw [if_pos hm];refine wpAny_bind (hck (wpAny_pure ⟨plainId_quiet hplain _,codeAny_builtin hbi ?_⟩));rw [Around.under_plainId hplain _];exact wpAny_mono hbody (fun f s' hf=>(by obtain ⟨v,rfl,hv⟩:=hf;exact hv)) fun _ _ e=>e
end
theorem mE:plainId "list.pop"=true:=by decide+kernel
theorem mF:plainId "list.__len__"=true:=by decide+kernel
theorem lA:plainId "list.__init__"=true:=by decide+kernel
section
variable {b:Addr}{vs:Array Value}
theorem wX {M:Model}{self:Value}{Q:Unit->Shared->Prop}(hq:Q () s):wpAny M A (checkBoundCall "list.__len__" ⟨[self],[]⟩) Q E s:=by
 have:checkBoundCall "list.__len__" ⟨[self],[]⟩=pure ():=by kernel_rfl
 rw [this]; exact wpAny_pure hq
theorem sL {M:Model}{self:Value}{Q:Unit->Shared->Prop}(hq:Q () s):wpAny M A (checkBoundCall "list.__init__" ⟨[self],[]⟩) Q E s:=by
 have:checkBoundCall "list.__init__" ⟨[self],[]⟩=pure ():=by kernel_rfl
 rw [this]; exact wpAny_pure hq
theorem aHj:Manifest.signature? "list.pop"=some {machinery:= .positional,full:="list.pop",short:="pop",receiver:= .self,params:=[{name:="index",kind:= .posOnly,required:=false}]}:=by kernel_rfl
theorem aD1 (X:String)(hX:(X !="*")=true)(a:Value):Bind.checkArgs "list.pop" {machinery:= .positional,full:=X,short:="pop",receiver:= .self,params:=[{name:="index",kind:= .posOnly,required:=false}]} ⟨[a],[]⟩=pure ():=by
 unfold Bind.checkArgs Bind.printed;rw [hX]; rfl
theorem aHk (own:String):((toString own++toString "."++toString "pop") !="*")=true:=by
 rw [bne_iff_ne];intro e;have:=congrArg String.length e;rw [String.length_append,String.length_append] at this;have h1:(toString ".").length=1:=by decide
 have h2:(toString "pop").length=3:=by decide
 have h3:"*".length=1:=by decide
 lia
theorem aD2:builtinKind "list.pop"=some .method:=by decide+kernel
theorem wY:Manifest.varargsMethods.contains "list.pop"=false:=by decide+kernel
theorem aD3:Bind.lastOf "list.pop"="pop":=by decide+kernel
theorem aAr:([Value.type "list",.type "object"]).contains (.type "module")=false:=by decide+kernel
set_option maxHeartbeats 1000000 in
theorem wZ (X:uU s.heap C N mN)(hl:fO s.heap C c dc vs){M:Model}{Q:Unit->Shared->Prop}(hq:Q () s):wpAny M A (checkBoundCall "list.pop" ⟨[.ref c],[]⟩) Q E s:=by
 obtain ⟨cr,hC⟩:=X.obj;obtain ⟨n,ho⟩:=hl;obtain ⟨hp,g,d,t,os⟩:=s;unfold checkBoundCall isInstance classData;have hm:(Value.ref C::[.type "list",.type "object"]).contains (.type "module")=false:=by
  rw [List.contains_cons,aAr,Bool.or_false]; rfl
 have hnc:∀c',({cls:= .ref C,dict:=some dc,data:= .seq vs n}:Obj).data≠ .cls c':=fun _ e=>nomatch e
 rw [aHj,aD2,aD3]
 repeat (first | (with_reducible refine wpAny_loadPart_at ho ?_) | (with_reducible refine wpAny_isSubtype_exc hC ?_;rw [hm]) | (with_reducible refine ks_wpAny_isType_inst ho hnc ?_) | (with_reducible refine wpAny_load hC ?_) | (with_reducible refine wpAny_loadPart_at hC ?_) | (with_reducible refine bM (by rw [wY]; exact Bool.false_ne_true) ?_) | (with_reducible refine rI ?_) | (with_reducible refine yG ?_) | (with_reducible refine wpAny_of_eq (aD1 _ (aHk _) _) ?_) | wp_step)
 exact hq
theorem aAs (hb:s.heap.get? b=some {cls:= .type "method-wrapper",data:= .fields #[.builtin "list.__len__",.ref c]})(hl:fO s.heap C c dc vs)
  (hq:Q (.int vs.size s.toks) {s with toks:=s.toks+1}):wpAny (model prog w) A (call (.ref b) []) Q E s:=by
 obtain ⟨n,ho⟩:=hl;refine iP (.inr rfl) hb mF F.entry_list_len (fun h=>wX h) ?_;show wpAny _ _ (seqSize c >>= fun n=>retInt n) _ _ _;obtain ⟨hp,g,d,t,os⟩:=s;unfold seqSize retInt;refine wpAny_bind (wpAny_bind (wpAny_loadPart_at ho (wpAny_pure ?_)));exact wpAny_bind (wpAny_mkInt (wpAny_pure ⟨_,rfl,hq⟩))
theorem xA (hb:s.heap.get? b=some {cls:= .type "method-wrapper",data:= .fields #[.builtin "list.__init__",.ref c]})(hl:fO s.heap C c dc vs)(hsz:vs.size<=1000)
  (hq:∀h',fO h' C c dc #[]->Heap.SameBut c s.heap h'->Q .none {s with heap:=h'}):wpAny (model prog w) A (call (.ref b) []) Q E s:=by
 obtain ⟨n,ho⟩:=id hl;refine iP (.inr rfl) hb lA F.entry_list_init (fun h=>sL h) ?_;unfold Builtin.«list.__init__» Builtin.List.listItems;refine wpAny_bind (wpAny_bind (wpAny_seqItems ho rfl (wpAny_pure ?_)));refine wpAny_bind (m:=Builtin.List.listUpdate _ _) ?_;exact jO hl (fun h' a b=>wpAny_bind (wpAny_letGo (wpAny_pure ⟨.none,rfl,hq h' a b⟩))) (by rw [sizeLine_eq]; exact lit hsz rfl) (by rw [sizeLine_eq]; simp)
theorem aAt {v:Value}(X:uU s.heap C N mN)(hb:s.heap.get? b=some {cls:= .type "builtin_function_or_method",data:= .fields #[.builtin "list.pop",.ref c]})(hl:fO s.heap C c dc (vs.push v))(hsz:vs.size<=1000)
  (hq:∀h',fO h' C c dc vs->Heap.SameBut c s.heap h'->Q v {s with heap:=h'}):wpAny (model prog w) A (call (.ref b) []) Q E s:=by
 obtain ⟨n,ho⟩:=id hl;refine iP (.inl rfl) hb mE F.entry_list_pop (fun h=>wZ X hl h) ?_;unfold Builtin.«list.pop»;refine wpAny_bind (wpAny_of_eq (a:=(Value.ref c,[])) (by rfl) ?_);have hidx:seqIndex? (-1) (vs.push v).size=some vs.size:=by
  rw [seqIndex_neg (by exact Int.natCast_nonneg _) (by rw [Array.size_push]; lia),Array.size_push]
  congr 1
  lia
 have hat:(vs.push v)[vs.size]? =some v:=by simp
 have herase:(vs.push v).eraseIdxIfInBounds vs.size=vs:=by
  unfold Array.eraseIdxIfInBounds;rw [dif_pos (by simp)]
  apply Array.ext'
  rw [Array.toList_eraseIdx,Array.toList_push,List.eraseIdx_append_of_length_le (by simp)];simp
 have hfit:Builtin.List.listFitsIndex (-1)=true:=by decide
 dsimp only;refine wpAny_bind (wpAny_pure ?_);refine bM (by rw [hfit]; exact Bool.false_ne_true) ?_;refine wpAny_bind (m:=Builtin.List.listItems (.ref c)) ?_;unfold Builtin.List.listItems;refine wpAny_bind (wpAny_seqItems ho rfl (wpAny_pure ?_));have hne:(vs.push v).isEmpty=false:=by simp
 refine bM (by rw [hne]; exact Bool.false_ne_true) ?_;rw [show ((seqIndex? (-1) (vs.push v).size).bind fun k=>Option.map (fun x=>(k,x)) (vs.push v)[k]?)=some (vs.size,v) by rw [hidx]; show Option.map _ _=_;rw [hat]; rfl];refine wpAny_bind (m:=Builtin.List.listUpdate _ _) ?_;refine jO hl (fun h' a b=>wpAny_pure ⟨v,rfl,hq h' (by rwa [herase] at a) b⟩) (by rw [sizeLine_eq]; simp;exact lit hsz rfl) (by rw [herase,sizeLine_eq]; exact lit hsz rfl)
end
section
variable {b:Addr}{vs:Array Value}
theorem sM {it:Addr}{x:Value}{Q:Option Value->Shared->Prop}(hit:s.heap.IsListIter it c i)
  (hl:fO s.heap C c dc vs) (hx:vs[i]? =some x)
  (hQ:∀h',h'.IsListIter it c (i+1)->Heap.SameBut it s.heap h'->Q (some x) {s with heap:=h'}):
  wpAny (model prog w) A (pyNext (.ref it)) Q E s:=by
 obtain ⟨o,ho,hc,hd⟩:=id hit;obtain ⟨nl,hol⟩:=hl;unfold pyNext;refine wpAny_bind (wpAny_attempt (wpAny_callSpecial?_slot (name:=ofString "__next__") hit.typeIs slot_listiter_next
  (wpAny_call_entry slot_listiter_next hit.typeIs entry_listiter_next ?_ (args_listiter_next _))))
 show wpAny _ _ (field (.ref it) 0 >>= _) _ _ s;refine wpAny_bind (wpAny_field ho hd (x:= .ref c) rfl ?_);show wpAny _ _ (if (Value.ref c==Value.none)=true then _ else _) _ _ s;refine bM (show ¬((Value.ref c==Value.none)=true) from Bool.false_ne_true) ?_;show wpAny _ _ (field (.ref it) 1 >>= _) _ _ s;refine wpAny_bind (wpAny_field ho hd (x:= .int i 0) rfl ?_);show wpAny _ _ (seqItems? (.ref c) >>= _) _ _ s;refine wpAny_bind (wpAny_seqItems hol rfl ?_);dsimp only;rw [show vs[((i:Nat):Int).toNat]? =_ from hx];refine wpAny_bind (wpAny_setField ho hd (by simp) (wpAny_pure ⟨x,rfl,wpAny_pure (hQ _ ?_ (Heap.SameBut.update ..))⟩));exact ⟨_,Heap.get?_update_self _ ho (Obj.isFreed_of_fields (Obj.data_mapFields hd _)),(Obj.cls_mapFields ..).trans hc,by
  rw [Obj.data_mapFields hd]; simp [rawInt]⟩
theorem xB {it:Addr}{Q:Option Value->Shared->Prop}(hh:A.handled=none)
  (hit:s.heap.IsListIter it c i) (hl:fO s.heap C c dc vs) (hx:vs[i]? =none)
  (hQ:∀h',Heap.ExtBut it s.heap h'->Q none {s with heap:=h'}):wpAny (model prog w) A (pyNext (.ref it)) Q E s:=by
 obtain ⟨o,ho,hc,hd⟩:=id hit;obtain ⟨nl,hol⟩:=hl;unfold pyNext;refine wpAny_bind (wpAny_attempt (wpAny_callSpecial?_slot (name:=ofString "__next__") hit.typeIs slot_listiter_next
  (wpAny_call_entry slot_listiter_next hit.typeIs entry_listiter_next ?_ (args_listiter_next _))))
 show wpAny _ _ (field (.ref it) 0 >>= _) _ _ s;refine wpAny_bind (wpAny_field ho hd (x:= .ref c) rfl ?_);show wpAny _ _ (if (Value.ref c==Value.none)=true then _ else _) _ _ s;refine bM (show ¬((Value.ref c==Value.none)=true) from Bool.false_ne_true) ?_;show wpAny _ _ (field (.ref it) 1 >>= _) _ _ s;refine wpAny_bind (wpAny_field ho hd (x:= .int i 0) rfl ?_);show wpAny _ _ (seqItems? (.ref c) >>= _) _ _ s;refine wpAny_bind (wpAny_seqItems hol rfl ?_);dsimp only;rw [show vs[((i:Nat):Int).toNat]? =_ from hx];refine wpAny_bind (wpAny_rule (wpAny_bind (wpAny_setField ho hd (by simp) ?_)));show wpAny _ _ (newExc (.type "StopIteration") [] >>= _) _ _ _;refine wpAny_bind ?_;unfold newExc newTuple;refine wpAny_bind (wpAny_newObj_type ?_ (by size_fits));refine wpAny_bind (m:=firstArgMember _ _) (wpAny_of_eq (a:=Value.none) (by first | rfl | (simp only [firstArgMember]; rfl)) ?_);refine wpAny_newObj_type ?_ (by size_fits);unfold raiseNew;refine wpAny_bind (wpAny_handled ?_);rw [show A.in1.handled=none from hh];refine wpAny_bind (wpAny_pure (wpAny_throw ?_));refine wpAny_bind (wpAny_isInstance (T:="StopIteration") (b:=true) ⟨_,Heap.get?_push_size _ rfl,rfl⟩ isSubtype_stop ?_);exact wpAny_pure (hQ _ (((Heap.SameBut.update ..).extBut.push _).push _))
theorem aKf (X:uU s.heap C N mN)(hm:mN "__iter__"=none)(hl:fO s.heap C c dc vs)
  (hQ:Q (.ref s.heap.objs.size) {s with heap:=s.heap.push {cls:= .type "list_iterator",data:= .fields #[.ref c,.int 0 0]}}):wpAny (model prog w) A (pyIter (.ref c)) Q E s:=by
 unfold pyIter;refine wpAny_bind (eQ X hl hm slot_list_iter.lookup ?_);unfold callSpecialIfBoundUnlessNone? bindSpecialIfBound?;refine wpAny_bind (wpAny_holding ?_);refine wpAny_bind (wpAny_bind (eQ X hl hm slot_list_iter.lookup ?_));dsimp only;rw [slot_list_iter.bind];refine wpAny_bind (wpAny_askSetting (wpAny_ite ?_));have body:wpAny (model prog w) A (call (.builtin "list.__iter__") [.ref c]) (fun it s'=>it= .ref s.heap.objs.size/\s'={s with heap:=s.heap.push {cls:= .type "list_iterator",data:= .fields #[.ref c,.int 0 0]}}) E s:=by
  obtain ⟨cr,hC⟩:=X.obj;obtain ⟨n,ho⟩:=hl;obtain ⟨hp,g,d,t,os⟩:=s;refine gX (id:="list.__iter__") (b:=Builtin.«list.__iter__») (rest:=[]) (aHi _) hC ho rfl ?_;show wpAny _ _ (do ret (<- newFields "list_iterator" [.ref c,rawInt 0])) _ _ _;exact wpAny_bind (wpAny_newObj_type (wpAny_pure ⟨_,rfl,rfl,rfl⟩))
 have fin:wpAny (model prog w) A (if (Value.builtin "list.__iter__"==Value.none)=true then ((do rule "iter.none";raiseError "TypeError" s!"'{← typeNameOf (.ref c)}' object is not iterable") >>= fun v=>pure (some v)) else (call (.builtin "list.__iter__") [.ref c] >>= fun v=>pure (some v)))
   (fun r s'=>r=some (.ref s.heap.objs.size)/\s'={s with heap:=s.heap.push {cls:= .type "list_iterator",data:= .fields #[.ref c,.int 0 0]}}) E s:=by
  refine bM (by rw [builtin_beq_none]; exact Bool.false_ne_true) ?_;exact wpAny_bind (wpAny_mono body (fun v s' h'=>wpAny_pure ⟨congrArg some h'.1,h'.2⟩) fun _ _ h'=>h')
 split
 ·refine wpAny_bind (wpAny_pure (wpAny_pure (wpAny_mono fin (fun r s' h=> ?_) fun _ _ e=>e)));obtain ⟨rfl,rfl⟩:=h;exact wpAny_bind (wpAny_specialOf (T:="list_iterator") ⟨_,Heap.get?_push_size _ rfl,rfl⟩ slot_listiter_next.lookup (wpAny_pure hQ))
 ·refine wpAny_tryCatch (wpAny_bind (wpAny_pure (wpAny_pure (wpAny_mono fin (fun r s' h=> ?_) fun _ _ e=>e))));obtain ⟨rfl,rfl⟩:=h;exact wpAny_bind (wpAny_specialOf (T:="list_iterator") ⟨_,Heap.get?_push_size _ rfl,rfl⟩ slot_listiter_next.lookup (wpAny_pure hQ))
theorem xC (hh:A.handled=none)(I:Addr)(hne:c≠I)(Ts:Nat->Addr)(vals:Nat->Array Value)
  (hit:∀j,j<vs.size->vs[j]? =some (.ref (Ts j))) (hTI:∀j,j<vs.size->Ts j≠I):
  WalksU prog w A I (I::c::(List.range vs.size).map Ts) [I] vs.size (fun j v=>j<vs.size/\v=vals j)
   (fun j h=>h.IsListIter I c j/\fO h C c dc vs/\∀k,k<vs.size->h.IsTuple (Ts k) (vals k))
   (fun j T h=>(j<vs.size/\T=Ts j)/\h.IsListIter I c (j+1)/\fO h C c dc vs/\∀k,k<vs.size->h.IsTuple (Ts k) (vals k)) where
 sub:=fun b hb=>by simp at hb;simp [hb]
 frame:=fun _ _ _ st hk=>⟨st.1.at fun o e=>hk I (by simp) o e,st.2.1.at fun o e=>hk c (by simp) o e,
  fun k hk'=>(st.2.2 k hk').at fun o e=>hk (Ts k) (List.mem_cons_of_mem _ (List.mem_cons_of_mem _ (List.mem_map.mpr ⟨k,List.mem_range.mpr hk',rfl⟩))) o e⟩
 item:=fun i s Q E hi st hQ=>by
  refine sM st.1 st.2.1 (x:= .ref (Ts i)) (hit i hi) fun h' hit' hs'=> ?_
  have tup:∀k,k<vs.size->h'.IsTuple (Ts k) (vals k):=fun k hk'=>(st.2.2 k hk').extBut hs'.extBut (hTI k hk')
  exact hQ (Ts i) (vals i) h' s.toks ⟨hi,rfl⟩ (tup i hi) ⟨⟨hi,rfl⟩,hit',st.2.1.at fun o e=>hs'.extBut c o hne e,tup⟩ fun b o hb e=>hs'.extBut b o (fun h=>hb (by simp [h])) e
 go:=fun _ _ _ _ _ s Q _ hm hQ=>wpAny_letOwnedTupleGo_listiter hm.2.1 (hQ s.heap hm.2 fun _ _ _ e=>e)
 apart:=fun j T _ hm hmem=>by
  rcases List.mem_cons.mp hmem with e | e
  ·exact hTI j hm.1.1 (hm.1.2▸e)
  ·cases e
 done:=fun s Q E st hQ=>xB hh st.1 st.2.1 (by simp) fun h' he'=>hQ h' s.toks fun b o hb e=>he' b o (fun h=>hb (by simp [h])) e
 self:=fun _ _ _ _ st hQ=>wpAny_pyIter_listiter st.1 hQ
end
structure Df (Sta:Heap->Prop)(a:Addr)(fd:FuncData):Prop where
 at':∀h,Sta h->(∃ o,h.get? a=some o/\o.cls= .type "function"/\o.data= .func fd)/\h.CodeRec fd.code fd.qualname/\h.NoLimit
 globals:fd.globals=mainGlobals
 builtins:fd.builtins=builtinsNs
 nocell:∀x∈fd.scope.names,x.2≠ .cell
 kind:fd.scope.kind= .function
 co:fd.scope.isCoroutine=false
 gen:fd.scope.isGenerator=false
theorem aFw {binds:List (Str × Value)}(D:Df Sta a fd)(hS:Sta s.heap)(hA:A.depth<990)(hbody:fd.body= .stmts body)(hbind:BindsTo s fd ⟨ys,[]⟩ binds)
  (hloc:∀x∈binds,fd.scope.names.lookup x.1=some .local)
  (h:∀(h'0:Heap)(tk:Nat)(E':Value->Shared->Prop)(env:Env),env=callEnv fd s.heap.objs.size a->env.locals=s.heap.objs.size->h'0.Ns env.locals (fun x=>binds.reverse.lookup x)->(∀ b o,s.heap.get? b=some o->h'0.get? b=some o)->
   _root_.PySem.wpAt (model prog w) (A.deeper env) (.func body env) (execs body env) (fun f s'=>R (.ok (.ret (match f with | .ret v=>v | _=> .none))) s') E' {s with heap:=h'0,toks:=tk}):
  codeAny (model prog w) A (.call (.ref a) ⟨ys,[]⟩) R s:=by
 obtain ⟨⟨o,ho,_,hod⟩,hcd,hlim⟩:=D.at' _ hS;exact ks_codeAny_call_defAt (by show A.depth<1000;exact lit hA rfl) ho hod hlim hcd hbody hbind D.nocell hloc (fun h'0 hn hk=>h h'0 _ _ _ rfl rfl hn hk) D.co D.gen D.kind
theorem aAu {binds:List (Str × Value)}(D:Df Sta a fd)(hS:Sta s.heap)(hA:A.depth<990)(hbody:fd.body= .stmts body)(hbind:BindsTo s fd ⟨ys,[]⟩ binds)
  (hloc:∀x∈binds,fd.scope.names.lookup x.1=some .local)
  (h:∀(h'0:Heap)(tk:Nat)(E':Value->Shared->Prop)(env:Env),env=callEnv fd s.heap.objs.size a->env.locals=s.heap.objs.size->h'0.Ns env.locals (fun x=>binds.reverse.lookup x)->(∀ b o,s.heap.get? b=some o->h'0.get? b=some o)->
   _root_.PySem.wpAt (model prog w) (A.deeper env) (.func body env) (execs body env) (fun f s'=>Q (match f with | .ret v=>v | _=> .none) s') E' {s with heap:=h'0,toks:=tk}):
  wpAny (model prog w) A (call (.ref a) ys) Q E s:=
 wpAny_call (aFw D hS hA hbody hbind hloc h)
structure InF (A A':Around):Prop where
 depth:A'.depth=A.depth+1
 units:A'.units=A.units+3
 handled:A'.handled=A.handled
theorem aAv {binds:List (Str × Value)}(D:Df Sta a fd)(hS:Sta s.heap)(hA:A.depth<990)(hbody:fd.body= .stmts body)(hbind:BindsTo s fd ⟨ys,[]⟩ binds)
  (hloc:∀x∈binds,fd.scope.names.lookup x.1=some .local)
  (h:∀(h'0:Heap)(tk:Nat)(E':Value->Shared->Prop)(env:Env)(b:List Stmt)(A':Around)(K:Flow->Shared->Prop),InF A A'->env=callEnv fd s.heap.objs.size a->env.locals=s.heap.objs.size->h'0.Ns env.locals (fun x=>binds.reverse.lookup x)->(∀ b o,s.heap.get? b=some o->h'0.get? b=some o)->
   (∀ v s',Q v s'->K (.ret v) s')->(∀ s',Q .none s'->K .next s')->_root_.PySem.wpAt (model prog w) A' (.func b env) (execs body env) K E' {s with heap:=h'0,toks:=tk}):
  wpAny (model prog w) A (call (.ref a) ys) Q E s:=
 aAu D hS hA hbody hbind hloc fun h'0 tk E' env e1 e2 e3 e4=>h h'0 tk E' env body _ _ ⟨rfl,rfl,rfl⟩ e1 e2 e3 e4 (fun _ _ q=>q) fun _ q=>q
theorem aKg {c:Code}{st:Stmt}{rest:List Stmt}{K:Flow->Shared->Prop}(h:∀K':Flow->Shared->Prop,(∀ s',_root_.PySem.wpAt (model prog w) A c (execs rest env) K E s'->K' .next s')->(∀ v s',K (.ret v) s'->K' (.ret v) s')->_root_.PySem.wpAt (model prog w) A c (exec st env) K' E s):
  _root_.PySem.wpAt (model prog w) A c (execs (st::rest) env) K E s:=ks_wpAt_execs_cons (h _ (fun _ q=>q) fun _ _ q=>q)
theorem cK {st:Stmt}{rest:List Stmt}{K:Flow->Shared->Prop}(h:∀K':Flow->Shared->Prop,(∀ s',wpAny (model prog w) A (execs rest env) K E s'->K' .next s')->(∀ v s',K (.ret v) s'->K' (.ret v) s')->wpAny (model prog w) A (exec st env) K' E s):
  wpAny (model prog w) A (execs (st::rest) env) K E s:=wpAny_execs_cons (h _ (fun _ q=>q) fun _ _ q=>q)
theorem eU {st:Stmt}{l rest:List Stmt}{K:Flow->Shared->Prop}(e:l=st::rest)(h:∀K':Flow->Shared->Prop,(∀ s',wpAny (model prog w) A (execs rest env) K E s'->K' .next s')->(∀ f s',f≠ .next->K f s'->K' f s')->wpAny (model prog w) A (exec st env) K' E s):
  wpAny (model prog w) A (execs l env) K E s:=e▸wpAny_execs_cons (h _ (fun _ q=>q) fun f _ n q=>by cases f <;> first | exact (n rfl).elim | exact q)
theorem InF.room {A':Around}{d:Nat}(i:InF A A')(r:bT A (d+1)):bT A' d:=⟨i.handled.trans r.handled,by have:=r.depth;have:=i.depth;lia,by have:=r.units;have:=i.units;lia⟩
theorem aFx:typeLookup (.type "list") "_initial_size"=pure none:=by rw [typeLookup_type,builtinLookup_eq_fast]; kernel_rfl
structure AW (prog:Program)(w:World)(Sta:Heap->Prop)(C N:Addr)(mN:Str->Option Value):Prop where
 cls:∀h,Sta h->uU h C N mN
 looks:∀h,Sta h->Looks (model prog w) h (opaqueClassAbove (.ref C)) none
 ga:mN "__getattribute__"=none
 gt:mN "__getattr__"=none
 sa:mN "__setattr__"=none
 gi:mN "__getitem__"=none
 si:mN "__setitem__"=none
 it:mN "__iter__"=none
 isz:mN "_initial_size"=none
 app:mN "append"=none
 bo:mN "__bool__"=none
def bB (h:Heap)(vs:List Value)(ps:List (Str × Str)):Prop:=vs.length=ps.length/\∀(i:Nat)(v:Value)(p:Str × Str),vs[i]? =some v->ps[i]? =some p->∃T t u,v= .ref T/\h.IsTuple T #[.str p.1 t,.str p.2 u]
structure Acc (C:Addr)(h:Heap)(c dc:Addr)(ps:List (Str × Str)):Prop where
 seq:∃vs,fO h C c dc vs/\bB h vs.toList ps
 dict:∃t,h.Ns1 dc (fun n=>if n="_initial_size" then some (.int 0 t) else none)
 ne:dc≠c
def NT (h:Heap)(W:List Addr):Prop:=∀a∈W,∃o,h.get? a=some o/\(o.cls≠ .type "tuple"\/∀items n,o.data≠ .seq items n)
theorem bB.keeps {vs:List Value}(x:bB h vs ps)(k:∀T vals,h.IsTuple T vals->h'.IsTuple T vals):bB h' vs ps:=
 ⟨x.1,fun i v p h1 h2=>by obtain ⟨T,t,u,e,ht⟩:=x.2 i v p h1 h2;exact ⟨T,t,u,e,k _ _ ht⟩⟩
theorem bB.snoc {vs:List Value}(x:bB h vs ps){T:Addr}{a b:Str}{u:Tok}(hT:h.IsTuple T #[.str a t,.str b u]):bB h (vs++[.ref T]) (ps++[(a,b)]):=by
 refine ⟨by simp [x.1],fun i v p h1 h2=> ?_⟩
 rcases Nat.lt_trichotomy i vs.length with q | q | q
 ·rw [List.getElem?_append_left q] at h1;rw [List.getElem?_append_left (x.1▸q)] at h2;exact x.2 i v p h1 h2
 ·subst q;rw [List.getElem?_append_right (Nat.le_refl _),Nat.sub_self] at h1;rw [x.1,List.getElem?_append_right (Nat.le_refl _),Nat.sub_self] at h2
  (replace h1:=Option.some.inj h1;subst h1); (replace h2:=Option.some.inj h2;subst h2)
  exact ⟨T,t,u,rfl,hT⟩
 ·rw [List.getElem?_eq_none (by simp;exact q)] at h1;exact no1 h1
theorem KW.tup (k:KW W Z s s')(nt:NT s.heap W)(hz:Zok Z W s.heap){T:Addr}{vals:Array Value}(h:s.heap.IsTuple T vals):s'.heap.IsTuple T vals:=by
 obtain ⟨o,ho,hc,n,hd⟩:=id h;refine ⟨o,k.keep T o (fun q=> ?_) (fun q=> ?_) ho,hc,n,hd⟩
 ·obtain ⟨o',ho',r⟩:=nt T q;rw [ho] at ho';(replace ho':=Option.some.inj ho';subst ho')
  rcases r with r | r
  ·exact r hc
  ·exact r _ _ hd
 ·obtain ⟨z,hz1,rfl⟩:=List.mem_map.mp q;obtain ⟨ps,_,_,ht⟩:=hz.at' z hz1;rw [ho] at ht;(replace ht:=Option.some.inj ht;subst ht); exact nomatch hc
theorem Acc.nt (a:Acc C h c dc ps):NT h [c,dc]:=by
 intro y hy;obtain ⟨vs,⟨n,ho⟩,_⟩:=a.seq;obtain ⟨t,hd⟩:=a.dict
 rcases List.mem_cons.mp hy with rfl | hy
 ·exact ⟨_,ho,.inl (fun e=>nomatch e)⟩
 ·rw [List.mem_singleton.mp hy];obtain ⟨o,es,ep,h1,h2,_⟩:=hd;exact ⟨o,h1,.inr fun _ _ e=>by rw [h2] at e;exact nomatch e⟩
theorem Acc.inst (a:Acc C h c dc ps):∃t,h.Inst c C (fun n=>if n="_initial_size" then some (.int 0 t) else none):=by
 obtain ⟨vs,⟨n,ho⟩,_⟩:=a.seq;obtain ⟨t,hd⟩:=a.dict;exact ⟨t,_,ho,rfl,(fun _ e=>nomatch e),.inr ⟨dc,rfl,a.ne,hd⟩⟩
section
structure Bs (Sta:Heap->Prop)(Z:List (Addr × Addr))(W:List Addr)(hb h:Heap):Prop where
 sta:Sta hb
 keep:∀b o,b∉Z.map (·.2)->hb.get? b=some o->h.get? b=some o
 new:∀y∈W,hb.get? y=none
 z:Zok Z W h
def SZ (Sta:Heap->Prop)(Z:List (Addr × Addr)):Prop:=∀h h',(∀ b o,b∉Z.map (·.2)->h.get? b=some o->h'.get? b=some o)->Sta h->Sta h'
theorem Bs.of (x:Bs Sta Z W hb s.heap)(k:KW W Z s s'):Bs Sta Z W hb s'.heap where
 sta:=x.sta
 keep:=fun b o h e=>k.keep b o (fun q=>by rw [x.new b q] at e;exact no1 e) h (x.keep b o h e)
 new:=x.new
 z:=x.z.of k
theorem Bs.st (x:Bs Sta Z W hb h)(S:SZ Sta Z):Sta h:=S _ _ x.keep x.sta
theorem Bs.sub {W':List Addr}(x:Bs Sta Z W hb h)(hs:∀y∈W',y∈W):Bs Sta Z W' hb h:=
 ⟨x.sta,x.keep,fun y hy=>x.new y (hs y hy),x.z.at',fun z hz y hy=>x.z.apart z hz y (hs y hy)⟩
section
variable {m:Str->Option Value}
noncomputable def knd (fd:FuncData)(x:Str):Option NameKind:=fd.scope.names.lookup x
theorem nm {u:Value}(hk:env.scope.kind= .function)(hx:env.kindOf x=some .local)(hn:s.heap.Ns env.locals m)(hm:m x=some u)(hd:(x==("__debug__":Str))=false)(h:Q u s):
  wpAny (model prog w) A (eval (.Name x pos) env) Q E s:=wpAny_Name (wpAny_loadName_local hk hx hn hm h) hd
theorem Ns.kw (hn:s.heap.Ns L m)(k:KW W Z s s')(h1:L∉W)(h2:L∉Z.map (·.2)):s'.heap.Ns L m:=hn.at' fun o e=>k.keep L o h1 h2 e
theorem oM (hk:env.scope.kind= .function):interactive env=false:=by unfold interactive;rw [hk]; rfl
end
theorem Acc.keeps (X:Acc C h c dc ps)(k:∀b o,h.get? b=some o->h'.get? b=some o):Acc C h' c dc ps:=by
 obtain ⟨vs,hl,hp⟩:=X.seq;obtain ⟨t,hd⟩:=X.dict;exact ⟨⟨vs,hl.at fun o e=>k _ _ e,hp.keeps fun T vals h=>by obtain ⟨o,e,r⟩:=h;exact ⟨o,k _ _ e,r⟩⟩,⟨t,hd.at fun o e=>k _ _ e⟩,X.ne⟩
theorem Acc.fresh (X:Acc C h c dc ps):h.objs.size∉[c,dc]:=fun q=>by
 obtain ⟨o,e,_⟩:=X.nt _ q;exact absurd (Heap.lt_size e) (Nat.lt_irrefl _)
theorem Zok.fresh (z:Zok Z W h):h.objs.size∉Z.map (·.2):=fun q=>by
 obtain ⟨y,hy,e⟩:=List.mem_map.mp q;obtain ⟨ps,_,_,ht⟩:=z.at' y hy;rw [e] at ht;exact absurd (Heap.lt_size ht) (Nat.lt_irrefl _)
theorem gY {l:Addr}(hn:h.Ns l mm)(hs:Heap.SameBut l h h'){T:Addr}{vals:Array Value}(hT:h.IsTuple T vals):h'.IsTuple T vals:=by
 obtain ⟨o,e,hc,n,hd⟩:=hT;refine ⟨o,hs.extBut T o (fun q=> ?_) e,hc,n,hd⟩;obtain ⟨o',es,ep,e2,e3,_⟩:=hn;rw [q,e2] at e
 (replace e:=(Option.some.inj e).symm;subst e)
 rw [e3] at hd;exact nomatch hd
theorem Acc.loc {l:Addr}(X:Acc C h c dc ps)(hn:h.Ns l mm)(hs:Heap.SameBut l h h')(hl:l∉[c,dc]):Acc C h' c dc ps:=by
 obtain ⟨vs,h1,h2⟩:=X.seq;obtain ⟨t,h3⟩:=X.dict;exact ⟨⟨vs,h1.at fun o e=>hs.extBut _ _ (fun q=>hl (q▸ .head _)) e,h2.keeps fun T vals hT=>gY hn hs hT⟩,⟨t,h3.at fun o e=>hs.extBut _ _ (fun q=>hl (q▸ .tail _ (.head _))) e⟩,X.ne⟩
theorem Acc.kw (X:Acc C s.heap c dc ps)(z:Zok Z [c,dc] s.heap)(k:KW [] Z s s'):Acc C s'.heap c dc ps:=by
 have nz:∀y∈[c,dc],y∉Z.map (·.2):=fun y hy q=>by obtain ⟨v,hv,e⟩:=List.mem_map.mp q;exact (z.apart v hv y hy).2 e.symm
 obtain ⟨vs,hl,hp⟩:=X.seq;obtain ⟨t,hd⟩:=X.dict;exact ⟨⟨vs,hl.at fun o e=>k.keep c o (fun h=>nomatch h) (nz c (.head _)) e,hp.keeps fun T vals h=>k.tup (fun _ h=>nomatch h) ⟨z.at',fun _ _ _ h=>nomatch h⟩ h⟩,⟨t,hd.at fun o e=>k.keep dc o (fun h=>nomatch h) (nz dc (.tail _ (.head _))) e⟩,X.ne⟩
set_option genInjectivity false in
structure AX where
 prog:Program
 w:World
 Sta:Heap->Prop
 Z:List (Addr × Addr)
 C:Addr
 N:Addr
 c:Addr
 dc:Addr
 mN:Str->Option Value
 hb:Heap
 A:Around
 env:Env
 fd:FuncData
 f:Addr
 W:List Addr
 s0:Shared
namespace AX
structure Ok (X:AX):Prop where
 S:SZ X.Sta X.Z
 K:AW X.prog X.w X.Sta X.C X.N X.mN
 D:Df X.Sta X.f X.fd
 env:∃L,X.env=callEnv X.fd L X.f
 LF:X.env.locals∉[X.c,X.dc]
 LZ:X.env.locals∉X.Z.map (·.2)
 self:knd X.fd "self"=some .local
 B:Bs X.Sta X.Z [X.c,X.dc] X.hb X.s0.heap
 new:X.s0.heap.get? X.env.locals=none
 sub:∀y∈X.W,y∈[X.c,X.dc]
structure At (X:AX)(s:Shared)(mm:Str->Option Value)(ps:List (Str × Str)):Prop where
 ns:s.heap.Ns X.env.locals mm
 ac:Acc X.C s.heap X.c X.dc ps
 w:KW X.W X.Z X.s0 s
 me:mm "self"=some (.ref X.c)
variable {X:AX}{mm':Str->Option Value}
theorem Ok.kf (O:Ok X):X.env.scope.kind= .function:=by obtain ⟨L,e⟩:=O.env;rw [e]; exact O.D.kind
theorem Ok.ko (O:Ok X)(x:Str):X.env.kindOf x=knd X.fd x:=by obtain ⟨L,e⟩:=O.env;rw [e]; rfl
theorem Ok.ge (O:Ok X):X.env.globals=mainGlobals:=by obtain ⟨L,e⟩:=O.env;rw [e]; exact O.D.globals
theorem Ok.be (O:Ok X):X.env.builtins=builtinsNs:=by obtain ⟨L,e⟩:=O.env;rw [e]; exact O.D.builtins
theorem At.B (J:At X s mm ps)(O:Ok X):Bs X.Sta X.Z [X.c,X.dc] X.hb s.heap:=O.B.of (J.w.weaken O.sub)
theorem At.st (J:At X s mm ps)(O:Ok X):X.Sta s.heap:=(J.B O).st O.S
theorem At.keep (J:At X s mm ps)(k:∀b o,s.heap.get? b=some o->h'.get? b=some o):At X {s with heap:=h',toks:=t} mm ps:=⟨J.ns.keeps k,J.ac.keeps k,J.w.trans (KW.of_keep k),J.me⟩
theorem At.tok (J:At X s mm ps):At X {s with toks:=t} mm ps:=J.keep fun _ _ e=>e
theorem At.set (J:At X s mm ps)(O:Ok X)(hn:h'.Ns X.env.locals mm')(hs:Heap.SameBut X.env.locals s.heap h')(e:mm' "self"=some (.ref X.c)):At X {s with heap:=h',toks:=t} mm' ps:=⟨hn,J.ac.loc J.ns hs O.LF,KW.fresh J.w O.new hs,e⟩
theorem At.chg (J:At X s mm ps)(O:Ok X){us:Array Value}(hW:X.c∈X.W)(hl:fO h' X.C X.c X.dc us)(hs:Heap.SameBut X.c s.heap h')(hp:(∀ T vals,s.heap.IsTuple T vals->h'.IsTuple T vals)->bB h' us.toList qs):At X {s with heap:=h',toks:=t} mm qs:=by
 have w:KW [X.c,X.dc] X.Z s {s with heap:=h',toks:=t}:=KW.change (.head _) (J.B O).z hs;have w2:KW X.W X.Z s {s with heap:=h',toks:=t}:=KW.change hW ⟨(J.B O).z.at',fun z hz y hy=>(J.B O).z.apart z hz y (O.sub y hy)⟩ hs;obtain ⟨n,e⟩:=hl;refine ⟨J.ns.at' fun o e=>hs.extBut _ o (fun q=>O.LF (q▸ .head _)) e,⟨⟨us,⟨n,e⟩,hp fun T vals h=>w.tup J.ac.nt (J.B O).z h⟩,?_,J.ac.ne⟩,J.w.trans w2,J.me⟩;obtain ⟨t,hd⟩:=J.ac.dict;exact ⟨t,hd.at fun o e=>hs.extBut _ _ J.ac.ne e⟩
theorem me (O:Ok X)(J:At X s mm ps)(h:Q (.ref X.c) s):wpAny (model X.prog X.w) X.A (eval (.Name "self" p) X.env) Q E s:=nm O.kf ((O.ko _).trans O.self) J.ns J.me rfl h
theorem name (O:Ok X)(J:At X s mm ps){v:Value}(k:knd X.fd x=some .local)(e:mm x=some v)(d:(x==("__debug__":Str))=false)(h:Q v s):wpAny (model X.prog X.w) X.A (eval (.Name x p) X.env) Q E s:=nm O.kf ((O.ko _).trans k) J.ns e d h
theorem store (O:Ok X)(J:At X s mm ps){v:Value}{Q:Unit->Shared->Prop}(k:knd X.fd x=some .local)(d:ofString "self"≠x)(h:∀s',Heap.SameBut X.env.locals s.heap s'.heap->At X s' (fun z=>if z=x then some v else mm z) ps->Q () s'):wpAny (model X.prog X.w) X.A (storeName X.env x v) Q E s:=
 wpAny_storeName_local ((O.ko _).trans k) J.ns (fun _ hn hs=>h _ hs (J.set O hn hs ((if_neg d).trans J.me))) (by rw [O.kf]; rfl)
end AX
theorem nB (S:SZ Sta Z)(K:AW prog w Sta C N mN){f:Addr}(D:Df Sta f fd)(ks:knd fd "self"=some .local)(W:List Addr)(hW:∀y∈W,y∈[c,dc]){vs:List Value}{binds:List (Str × Value)}
  (hbody:fd.body= .stmts body) (hbind:BindsTo s fd ⟨.ref c::vs,[]⟩ binds) (hloc:∀x∈binds,fd.scope.names.lookup x.1=some .local) (hme:binds.reverse.lookup (ofString "self")=some (.ref c)) (hA:A.depth<990) (B:Bs Sta Z [c,dc] hb s.heap) (X:Acc C s.heap c dc ps)
  {T:AX->Prop} (hT:∀A' env,InF A A'->T ⟨prog,w,Sta,Z,C,N,c,dc,mN,hb,A',env,fd,f,W,s⟩)
  (h:∀(X:AX)(s':Shared)(b:List Stmt)(K':Flow->Shared->Prop)(E':Value->Shared->Prop),(∀ {x v},knd fd x=v->knd X.fd x=v)->T X->AX.Ok X->AX.At X s' (fun x=>binds.reverse.lookup x) ps->(∀ b o,X.s0.heap.get? b=some o->s'.heap.get? b=some o)->
   (∀ s'2 mm p' v,AX.At X s'2 mm p'->(KW W Z s s'2->Acc C s'2.heap c dc p'->(∀ b,X.s0.heap.get? b=none->s.heap.get? b=none)->R (.ok (.ret v)) s'2)->K' (.ret v) s'2/\(v= .none->K' .next s'2))->
   _root_.PySem.wpAt (model X.prog X.w) X.A (.func b X.env) (execs body X.env) K' E' s'):
  codeAny (model prog w) A (.call (.ref f) ⟨.ref c::vs,[]⟩) R s:=by
 refine aFw D (B.st S) hA hbody hbind hloc fun h'0 tk E' env henv hL hns hk=> ?_
 have O:AX.Ok ⟨prog,w,Sta,Z,C,N,c,dc,mN,hb,A.deeper env,env,fd,f,W,s⟩:=⟨S,K,D,⟨_,henv⟩,by rw [hL]; exact X.fresh,by rw [hL]; exact B.z.fresh,ks,B,by rw [hL]; exact aR _,hW⟩;exact h _ _ body _ _ id (hT (A.deeper env) env ⟨rfl,rfl,rfl⟩) O ⟨hns,X.keeps hk,KW.of_keep hk,hme⟩ hk fun s'2 mm p' v J g=>⟨g J.w J.ac fun _ e=>e,fun e=>e▸g J.w J.ac fun _ e=>e⟩
theorem aAw (S:SZ Sta Z)(K:AW prog w Sta C N mN){f:Addr}(D:Df Sta f fd){k0:Nat}
  (hbody:fd.body= .stmts [.Expr (.Call (.Attribute (.Name "self" p0) "append" p1) [.Tuple [.Name "fws" p2,.Name "string" p3] k0 p4] [] p5) p6]) (hl:(p1.endLine==p5.line)=true)
  (hself:knd fd "self"=some .local) (hfws:knd fd "fws"=some .local) (hstr:knd fd "string"=some .local)
  (hbind:∀x y z:Value,bindArgs fd ⟨[x,y,z],[]⟩=pure [(ofString "self",x),(ofString "fws",y),(ofString "string",z)])
  (A:Around) (s:Shared) (hb:Heap) (a b:Str) (t u:Tok) (ps:List (Str × Str)) (hA:A.depth<980) (B:Bs Sta Z [c,dc] hb s.heap) (X:Acc C s.heap c dc ps) (hn:ps.length<=900)
   (hR:∀s',KW [c,dc] Z s s'->Acc C s'.heap c dc (ps++[(a,b)])->R (.ok (.ret .none)) s'):
  codeAny (model prog w) A (.call (.ref f) ⟨[.ref c,.str a t,.str b u],[]⟩) R s:=by
 refine nB S K D hself [c,dc] (fun _ h=>h) hbody (.of_eq (hbind _ _ _)) (aM5 hself hfws hstr) rfl (Nat.lt_trans hA (by decide)) B X (T:=fun X=>X.c∈X.W) (fun _ _ _=> .head _) fun X s'0 bd K' E' hk hc O J _ hq=>wpAt_of_wpAny (cK fun R n _=>wpAny_Expr_any ?_ (oM O.kf) rfl)
 obtain ⟨tI,hI⟩:=J.ac.inst;obtain ⟨vs,hl0,hps⟩:=J.ac.seq;have hsz:vs.size=ps.length:=hps.1;refine aT rfl hl rfl (Nat.le_of_ble_eq_true rfl) (AX.me O J fun pl=> ?_);obtain ⟨cr,hC⟩:=(O.K.cls _ (J.st O)).obj;refine qH (name:="append") hC (O.K.cls _ (J.st O)).ns O.K.ga O.K.gt O.K.app slot_list_append.lookup type_list_append hI rfl ?_;refine callWith_builtin rfl (aF rfl (spliced_cons (wpAny_Tuple (k:=k0) (wpAny_items_cons (AX.name O J (hk hfws) rfl rfl (wpAny_items_cons (AX.name O J (hk hstr) rfl rfl (wpAny_items_nil ?_))))))));refine ⟨by rw [sizeLine_eq]; show 2<=_;decide,spliced_nil ?_⟩;have J1:AX.At X {s'0 with heap:=s'0.heap.push {cls:= .type "tuple",data:= .seq #[.str a t,.str b u]}} _ ps:=J.keep (t:=s'0.toks) fun _ _ e=>Heap.get?_push_of_some _ e
 have hT:(s'0.heap.push {cls:= .type "tuple",data:= .seq #[.str a t,.str b u]}).IsTuple s'0.heap.objs.size #[.str a t,.str b u]:=⟨_,Heap.get?_push_size _ rfl,rfl,0,rfl⟩;have hTc:s'0.heap.objs.size≠X.c:=fun q=>J.ac.fresh (q▸ .head _)
 refine aDy (s:={s'0 with heap:=s'0.heap.push {cls:= .type "tuple",data:= .seq #[.str a t,.str b u]}}) (O.K.cls _ (J1.st O)) (hl0.at fun o e=>Heap.get?_push_of_some _ e) (Nat.le_trans (hsz▸hn) (by decide)) fun h' hl' hs'=> ?_
 refine n _ (wpAny_execs_nil ((hq _ _ (ps++[(a,b)]) _ (AX.At.chg (t:=s'0.toks) J1 O hc hl' hs' fun k=> ?_) fun w x _=>hR _ w x).2 rfl));rw [Array.toList_push];exact (hps.keeps fun T vals h=>k T vals (by obtain ⟨o,e,r⟩:=h;exact ⟨o,Heap.get?_push_of_some _ e,r⟩)).snoc (hT.extBut hs'.extBut hTc)
def qL (prog:Program)(w:World)(Sta:Heap->Prop)(Z:List (Addr × Addr))(C f:Addr):Prop:=
 ∀(c dc:Addr)(A:Around)(s:Shared)(hb:Heap)(a b:Str)(t u:Tok)(ps:List (Str × Str)),A.depth<980->Bs Sta Z [c,dc] hb s.heap->Acc C s.heap c dc ps->ps.length<=900->
  ∀{R:Result->Shared->Prop},(∀ s',KW [c,dc] Z s s'->Acc C s'.heap c dc (ps++[(a,b)])->R (.ok (.ret .none)) s')->codeAny (model prog w) A (.call (.ref f) ⟨[.ref c,.str a t,.str b u],[]⟩) R s
theorem qL.run {f:Addr}(h:qL prog w Sta Z C f){a b:Str}{u:Tok}(hA:A.depth<980)(B:Bs Sta Z [c,dc] hb s.heap)(X:Acc C s.heap c dc ps)(hn:ps.length<=900):
  wpAny (model prog w) A (call (.ref f) [.ref c,.str a t,.str b u]) (fun v s'=>v= .none/\KW [c,dc] Z s s'/\Acc C s'.heap c dc (ps++[(a,b)])) E s:=
 wpAny_call (h c dc A s hb a b t u ps hA B X hn fun s' k X'=>⟨rfl,k,X'⟩)
end
structure Sup (prog:Program)(Sta:Heap->Prop)(C:Addr)(fd:FuncData):Prop where
 clo:∃cl,fd.closure=[(ofString "__class__",cl)]/\∀h,Sta h->h.IsCell cl (some (.ref C))
 code:∃cc,fd.code= .ref cc/\∀h,Sta h->∃oc vs file tf,h.get? cc=some oc/\oc.data= .fields vs/\vs[2]? =some (.str file tf)/\((prog.main.file:Str)==file)=true
 top:(prog.main.scope.names.lookup ("super":Str)).isSome=false
 par:∃ar,(fd.params.posonlyargs++fd.params.args).head? =some ar/\ar.arg=ofString "self"
 sup:knd fd "super"=some .globalImplicit
 cls:knd fd "__class__"=some .free
 slf:knd fd "self"=some .local
theorem uW (G:∀h,Sta h->h.Ns mainGlobals mg/\h.Ns builtinsNs mb)(hg:mg "super"=none)(hb:mb "super"=some (.type "super"))(K:AW prog w Sta C N mN){f:Addr}(D:Df Sta f fd)(U:Sup prog Sta C fd)
     {m:Str->Option Value} {attr:Str} {whole:Sem Value} (henv:env=callEnv fd L f) (hS:Sta s.heap) (hns:s.heap.Ns env.locals m) (hm:m "self"=some (.ref c)) (I:s.heap.Inst c C mA)
  (hat:(attr==("__class__":Str))=false)
  (h:∀so h',h'.get? so=some {cls:= .type "super",data:= .fields #[.ref C,.ref c,.ref C]}->(∀ b o,s.heap.get? b=some o->h'.get? b=some o)->s.heap.get? so=none->Q (.ref so) {s with heap:=h'}):
  _root_.PySem.wpAt (model prog w) A (.func body env) (attributeBase (.Call (.Name "super" p0) [] [] p1) attr env whole) Q E s:=by
 obtain ⟨cl,hclo,hcell⟩:=U.clo;obtain ⟨cc,hcc,hcode⟩:=U.code;obtain ⟨oc,vs,file,tf,hoc,hod,hvs,hfile⟩:=hcode _ hS;obtain ⟨ar,hpar,har⟩:=U.par;obtain ⟨⟨of,hof,_,hofd⟩,_,_⟩:=D.at' _ hS;have hko:∀x,env.kindOf x=knd fd x:=fun x=>by rw [henv]; rfl
 have hkf:env.scope.kind= .function:=by rw [henv]; exact D.kind
 have X:=K.cls _ hS;obtain ⟨cr,hC⟩:=X.obj;obtain ⟨hg',hb'⟩:=G _ hS;refine ks_wpAt_super_base (cc:=cc) ((hko _).trans U.sup) ((hko _).trans U.cls) hat (by rw [henv]; rfl) hof hofd hpar (by rw [henv]; exact hcc) hoc hod hvs hfile U.top ?_;refine ks_loadName_global hkf ((hko _).trans U.sup) (loadGlobal_builtin (env:=env) (by rw [henv]; show s.heap.Ns fd.globals mg;rw [D.globals]; exact hg') hg (by rw [henv]; show s.heap.Ns fd.builtins mb;rw [D.builtins]; exact hb') hb ⟨rfl,?_⟩);refine wpAny_loadName_free hkf ((hko _).trans U.cls) (c:=cl) (by rw [henv]; show fd.closure.lookup _=_;rw [hclo]; rfl) (hcell _ hS) ?_;refine wpAny_loadName_local hkf ((hko _).trans (har▸U.slf)) hns (by rw [har]; exact hm) ?_;obtain ⟨hp,g,d,t,os⟩:=s;refine ks_wpAny_isType_cls hC rfl ⟨rfl,?_⟩;obtain ⟨ox,hox,hxc,hnc,_⟩:=I;refine ks_wpAny_call_super (C:=C) hC rfl hox hxc hnc ?_ (fun h' e k=>h _ h' e k ?_)
 ·intro A' Q' E' s' k q;obtain ⟨hp',g',d',t',os'⟩:=s';refine wpAny_isSubtype_exc (k _ _ hC) ?_;rw [List.contains_cons,beq_self_eq_true,Bool.true_or];exact q
 ·exact aR _
theorem lB {c:Code}{name:Str}(hline:(ap.endLine==pos.line)=true)(hstar:(backTo pos (starEach args env)).any (·.1)=false)(hlen:args.length<30)
  (h:_root_.PySem.wpAt (model prog w) A c (attributeBase o name env (eval o env)) (fun ov s'1=>∀pl,wpAny (model prog w) A (getMethod ov name pl) (fun fx s'2=>wpAny (model prog w) A (callWith pos fx.1 fx.2 (backTo pos (starEach args env)) []) Q E s'2) E s'1) E s):
  _root_.PySem.wpAt (model prog w) A c (eval (.Call (.Attribute o name ap) args [] pos) env) Q E s:=by
 rw [arm_eval_Call];refine _root_.PySem.wpAt_bind (ks_wpAt_mono h (fun ov s'1 h'1=>wpAt_of_wpAny ?_) fun _ _ e=>e);refine wpAny_bind (wpAny_standAt ?_);have hform:=pT hstar hlen;have hpos:methodCallPos true o env ap pos=pure pos:=by unfold methodCallPos;simp [hline]
 unfold methodCall;rw [hform];refine wpAny_bind (wpAny_holding ?_);unfold calleeOf;refine wpAny_mono (h'1 _) (fun fx s'2 h'2=> ?_) fun _ _ e=>e
 exact wpAny_bind (wpAny_of_eq hpos h'2)
theorem eV {b:Addr}{bt:String}{self:Value}(hbt:bt="builtin_function_or_method"\/bt="method-wrapper")(hb:s.heap.get? b=some {cls:= .type bt,data:= .fields #[.builtin id,self]})
  (h:wpAny (model prog w) A (call (.ref b) []) Q E s):wpAny (model prog w) A (callWith pos (.ref b) [] (backTo pos (starEach [] env)) []) Q E s:=by
 refine callWith_of (P:=fun h=>h.get? b=some {cls:= .type bt,data:= .fields #[.builtin id,self]}) rfl (fun h hh=>⟨.machine,.inr (.inl rfl),?_⟩) (evalArgs_nil3 ⟨hb,h⟩);have hc:(Value.type bt !=Value.type "method")=true:=by rcases hbt with rfl | rfl <;> decide+kernel
 have hc2:((Value.type bt==Value.type "builtin_function_or_method")||(Value.type bt==Value.type "method-wrapper"))=true:=by rcases hbt with rfl | rfl <;> decide+kernel
 intro A' Q' E' s' k q;unfold keeperOf;refine wpAny_bind (wpAny_load (k _ _ hh) ?_);dsimp only;rw [if_pos hc,if_pos hc2];exact wpAny_pure q
theorem AX.sup {X:AX}{bd:List Stmt}{name:Str}{T bt getId:String}{Bi:Args->Sem Fin}(O:AX.Ok X)(J:AX.At X s mm ps)(G:∀h,X.Sta h->h.Ns mainGlobals mg/\h.Ns builtinsNs mb)(hg:mg "super"=none)(hb:mb "super"=some (.type "super"))(U:Sup X.prog X.Sta X.C X.fd)
  (Bh:nA id name T bt getId Bi) (hbt:bt="builtin_function_or_method"\/bt="method-wrapper") (hat:(name==("__class__":Str))=false) (hl:(p2.endLine==p3.line)=true)
  (h:∀h' tk b,AX.At X {s with heap:=h',toks:=tk} mm ps->(∀ b o,s.heap.get? b=some o->h'.get? b=some o)->h'.get? b=some {cls:= .type bt,data:= .fields #[.builtin id,.ref X.c]}->wpAny (model X.prog X.w) X.A (call (.ref b) []) Q E {s with heap:=h',toks:=tk}):
  _root_.PySem.wpAt (model X.prog X.w) X.A (.func bd X.env) (eval (.Call (.Attribute (.Call (.Name "super" p0) [] [] p1) name p2) [] [] p3) X.env) Q E s:=by
 obtain ⟨L,henv⟩:=O.env;obtain ⟨tI,hI⟩:=J.ac.inst;refine lB hl rfl (Nat.le_of_ble_eq_true rfl) (uW G hg hb O.K O.D U henv (J.st O) J.ns J.me hI hat fun so h' hso k _ pl=> ?_);have J1:AX.At X {s with heap:=h'} mm ps:=J.keep (t:=s.toks) k;obtain ⟨cr,hC⟩:=(O.K.cls _ (J1.st O)).obj;obtain ⟨_,⟨_,ho⟩,_⟩:=J1.ac.seq;have hcC:X.c≠X.C:=fun e=>by rw [e,hC] at ho;cases ho
 refine eR Bh hso (O.K.looks _ (J1.st O)) hC ho rfl hcC ?_;have hb':(h'.push {cls:= .type bt,data:= .fields #[.builtin id,.ref X.c]}).get? h'.objs.size=some {cls:= .type bt,data:= .fields #[.builtin id,.ref X.c]}:=Heap.get?_push_size _ rfl;exact eV hbt hb' (h _ _ _ (AX.At.keep (s:={s with heap:=h'}) J1 fun _ _ e=>Heap.get?_push_of_some _ e) (fun b o e=>Heap.get?_push_of_some _ (k b o e)) hb')
theorem aAx (S:SZ Sta Z)(G:∀h,Sta h->h.Ns mainGlobals mg/\h.Ns builtinsNs mb)(hg:mg "super"=none)(hmb:mb "super"=some (.type "super"))(K:AW prog w Sta C N mN){f:Addr}(D:Df Sta f fd)(U:Sup prog Sta C fd)
  (hbody:fd.body= .stmts [.Return (some (.Call (.Attribute (.Call (.Name "super" p0) [] [] p1) "__len__" p2) [] [] p3)) p4]) (hl:(p2.endLine==p3.line)=true) (hbind:∀x:Value,bindArgs fd ⟨[x],[]⟩=pure [(ofString "self",x)])
  (A:Around) (E:Value->Shared->Prop) (s:Shared) (hb:Heap) (ps:List (Str × Str)) (hA:A.depth<980) (B:Bs Sta Z [c,dc] hb s.heap) (X:Acc C s.heap c dc ps):
  wpAny (model prog w) A (call (.ref f) [.ref c]) (fun v s'=>(∃ t,v= .int ps.length t)/\KW [] Z s s'/\Acc C s'.heap c dc ps) E s:=by
 refine wpAny_call (nB S K D U.slf [] (fun _ h=>nomatch h) hbody (.of_eq (hbind _)) (aLi U.slf) rfl (Nat.lt_trans hA (by decide)) B X (T:=fun X=>Sup X.prog X.Sta X.C X.fd/\∀h,X.Sta h->h.Ns mainGlobals mg/\h.Ns builtinsNs mb) (fun _ _ _=>⟨U,G⟩) fun X s'0 bd K' E' _ T O J _ hq=> ?_);refine ks_wpAt_execs_cons (ks_wpAt_Return_some (AX.sup O J T.2 hg hmb T.1 wV (.inr rfl) rfl hl fun h' tk b J1 _ hb'=> ?_));obtain ⟨vs,hl1,hps⟩:=J1.ac.seq;exact aAs hb' hl1 (hq _ _ _ _ (AX.At.tok (s:={s'0 with heap:=h',toks:=tk}) J1) fun w x _=>⟨⟨_,by rw [show vs.size=ps.length from hps.1]⟩,w,x⟩).1
structure Mth (Sta:Heap->Prop)(mN:Str->Option Value)(name:Str)(f:Addr):Prop where
 at':mN name=some (.ref f)
 fn:∃o fd,o.cls= .type "function"/\o.data= .func fd/\∀h,Sta h->h.get? f=some o
 lk:∃y,typeLookup (.type "list") name=pure y
 ni:name≠"_initial_size"
theorem aHl (K:AW prog w Sta C N mN){name:Str}{f:Addr}(F:Mth Sta mN name f)(hb:cI o=true)(hline:(ap.endLine==pos.line)=true)(hstar:(backTo pos (starEach args env)).any (·.1)=false)(hlen:args.length<30)
  (h:wpAny (model prog w) A (eval o env) (fun ov s'1=>ov= .ref c/\Sta s'1.heap/\(∃ t,s'1.heap.Inst c C (fun n=>if n="_initial_size" then some (.int 0 t) else none))/\
   wpAny (model prog w) A (spliced (backTo pos (starEach args env))) (fun vs s'2=>Sta s'2.heap/\wpAny (model prog w) A (call (.ref f) (.ref c::vs)) Q E s'2) E s'1) E s):
  wpAny (model prog w) A (eval (.Call (.Attribute o name ap) args [] pos) env) Q E s:=by
 refine aT hb hline hstar hlen (wpAny_mono h (fun ov s'1 h'1 pl=> ?_) fun _ _ e=>e);obtain ⟨rfl,hS,⟨t,I⟩,h'1⟩:=h'1;obtain ⟨cr,hC⟩:=(K.cls _ hS).obj;have hns:=(K.cls _ hS).ns;obtain ⟨of,fd,hfc,hfd,hfo⟩:=F.fn;obtain ⟨y,hy⟩:=F.lk;refine sH hC hns K.ga K.gt F.at' (hfo _ hS) hfc hy I (if_neg F.ni) ?_;refine callWith_function (o:=of) (fd:=fd) (aF hstar (wpAny_mono h'1 (fun vs s'2 h'2=> ?_) fun _ _ e=>e));exact ⟨⟨hfo _ h'2.1,hfd⟩,h'2.2⟩
def oN (prog:Program)(w:World)(Sta:Heap->Prop)(Z:List (Addr × Addr))(C f:Addr):Prop:=
 ∀(c dc:Addr)(A:Around)(E:Value->Shared->Prop)(s:Shared)(hb:Heap)(ps:List (Str × Str)),A.depth<980->Bs Sta Z [c,dc] hb s.heap->Acc C s.heap c dc ps->
  wpAny (model prog w) A (call (.ref f) [.ref c]) (fun v s'=>(∃ t,v= .int ps.length t)/\KW [] Z s s'/\Acc C s'.heap c dc ps) E s
theorem aAy {α:Type}{l:List α}(h:l.length=n+1):∃k a,l=k++[a]:=by
 have hne:l≠[]:=fun q=>by rw [q] at h;cases h
 exact ⟨l.dropLast,l.getLast hne,(List.dropLast_concat_getLast hne).symm⟩
theorem bB.unsnoc {vs:List Value}{v:Value}{a b:Str}(x:bB h (vs++[v]) (ps++[(a,b)])):bB h vs ps/\∃T t u,v= .ref T/\h.IsTuple T #[.str a t,.str b u]:=by
 have hl:vs.length=ps.length:=by simpa using x.1
 refine ⟨⟨hl,fun i y p h1 h2=>x.2 i y p ?_ ?_⟩,x.2 vs.length v (a,b) ?_ ?_⟩
 ·obtain ⟨hi,_⟩:=List.getElem?_eq_some_iff.mp h1;rw [List.getElem?_append_left hi]; exact h1
 ·obtain ⟨hi,_⟩:=List.getElem?_eq_some_iff.mp h2;rw [List.getElem?_append_left hi]; exact h2
 ·simp
 ·rw [hl]; simp
theorem bB.unpush {vs:Array Value}{a b:Str}(x:bB h vs.toList (ps++[(a,b)])):∃(vl:Array Value) (v:Value),vs=vl.push v/\bB h vl.toList ps/\∃T t u,v= .ref T/\h.IsTuple T #[.str a t,.str b u]:=by
 obtain ⟨vl,v,hvl⟩:=aAy (x.1.trans (List.length_append ..));rw [hvl] at x;exact ⟨vl.toArray,v,Array.ext' (by rw [hvl,Array.toList_push]),x.unsnoc⟩
theorem aHm (S:SZ Sta Z)(G:∀h,Sta h->h.Ns mainGlobals mg/\h.Ns builtinsNs mb)(hg:mg "super"=none)(hmb:mb "super"=some (.type "super"))(K:AW prog w Sta C N mN){f fc:Addr}(D:Df Sta f fd)(U:Sup prog Sta C fd)
  (F:Mth Sta mN "part_count" fc) (hc:oN prog w Sta Z C fc) {k0:Nat} {rb:List Stmt}
  (hbody:fd.body= .stmts [.If (.Compare (.Call (.Attribute (.Name "self" p0) "part_count" p1) [] [] p2) [.Eq] [.Constant (.int 0) k0 p3] p4) rb [] p5,
   .Return (some (.Call (.Attribute (.Call (.Name "super" q0) [] [] q1) "pop" q2) [] [] q3)) q4]) (hl:(p1.endLine==p2.line)=true) (hl2:(q2.endLine==q3.line)=true) (hbind:∀x:Value,bindArgs fd ⟨[x],[]⟩=pure [(ofString "self",x)])
  (A:Around) (E:Value->Shared->Prop) (s:Shared) (hb:Heap) (a b:Str) (ps:List (Str × Str)) (hA:A.depth<970) (B:Bs Sta Z [c,dc] hb s.heap) (X:Acc C s.heap c dc (ps++[(a,b)])) (hn:ps.length<=900):
  wpAny (model prog w) A (call (.ref f) [.ref c]) (fun v s'=>(∃ T t u,v= .ref T/\s'.heap.IsTuple T #[.str a t,.str b u])/\KW [c,dc] Z s s'/\Acc C s'.heap c dc ps) E s:=by
 refine wpAny_call (nB S K D U.slf [c,dc] (fun _ h=>h) hbody (.of_eq (hbind _)) (aLi U.slf) rfl (Nat.lt_trans hA (by decide)) B X (T:=fun X=>(Sup X.prog X.Sta X.C X.fd/\∀h,X.Sta h->h.Ns mainGlobals mg/\h.Ns builtinsNs mb)/\X.A.depth<980/\Mth X.Sta X.mN "part_count" fc/\oN X.prog X.w X.Sta X.Z X.C fc/\X.c∈X.W) (fun _ _ i=>⟨⟨U,G⟩,by rw [i.depth]; exact Nat.succ_lt_succ (Nat.lt_trans hA (by decide)),F,hc,.head _⟩) fun X s'0 bd K' E' _ T O J _ hq=> ?_);refine aKg fun R n _=>wpAt_of_wpAny (wpAny_If (wpAny_isTrue_Compare1 (aHl (c:=X.c) O.K T.2.2.1 rfl hl rfl (Nat.le_of_ble_eq_true rfl) (AX.me O J ⟨rfl,J.st O,J.ac.inst,wpAny_items_nil ⟨J.st O,wpAny_mono (T.2.2.2.1 X.c X.dc _ _ _ X.hb _ T.2.1 (J.B O) J.ac) (fun v s'1 h'1=> ?_) fun _ _ e=>e⟩⟩)) (by rfl)))
 obtain ⟨⟨t,e⟩,w1,X1⟩:=h'1;rw [e];have J1:AX.At X s'1 _ (ps++[(a,b)]):=⟨Ns.kw J.ns w1 (fun h=>nomatch h) O.LZ,X1,J.w.trans w1.wk,J.me⟩;refine wpAny_Constant_int (eq_int ?_);rw [show (((ps++[(a,b)]).length:Int)==0)=false from by rw [beq_eq_false_iff_ne,List.length_append]; exact Int.ofNat_ne_zero.mpr (Nat.succ_ne_zero _)];refine wpAny_truthy_bool (wpAny_execs_nil (n _ ?_));refine aKg fun R1 _ r1=>ks_wpAt_Return_some (AX.sup O (AX.At.tok (s:=s'1) J1) T.1.2 hg hmb T.1.1 wU (.inl rfl) rfl hl2 fun h' tk bd J2 k2 hb'=> ?_)
 obtain ⟨vs,hl0,hps⟩:=J2.ac.seq;obtain ⟨vl,v,hvs,hps1,T',t',u',e',hT⟩:=hps.unpush;have hlen:vl.size=ps.length:=hps1.1;rw [hvs] at hl0;refine aAt (O.K.cls _ (J2.st O)) hb' hl0 (hlen▸Nat.le_trans hn (by decide)) fun h'' hl'' hs''=>r1 _ _ (hq _ _ ps _ (AX.At.chg (s:={s'1 with heap:=h',toks:=tk}) J2 O T.2.2.2.2 hl'' hs'' hps1.keeps) fun w x _=>⟨⟨T',t',u',e',?_⟩,w,x⟩).1
 obtain ⟨o,e,hc,r⟩:=hT;refine ⟨o,hs''.extBut T' o (fun q=> ?_) e,hc,r⟩;obtain ⟨m,el⟩:=hl0;rw [q,el] at e;(replace e:=Option.some.inj e;subst e); exact nomatch hc
def ZU (Z:List (Addr × Addr)):Prop:=∀z∈Z,∀z'∈Z,z.2=z'.2->z=z'
theorem aD4 {c' P':Addr}{ps ps':Array Value}(t:h.TableAt c P ps)(t':h.TableAt c' P' ps'):c≠P':=fun e=>by
 obtain ⟨⟨o,vs,h1,h2,_⟩,_⟩:=t;rw [e,t'.2] at h1
 (replace h1:=Option.some.inj h1;subst h1); exact nomatch h2
theorem KW.table {tk:Nat}{ps more:Array Value}(hu:ZU Z)(hz:(c,P)∈Z)(hx:Heap.ExtBut P s.heap h')(h0:s.heap.TableAt c P ps)(h1:h'.IsCode c P (ps++more))(h2:h'.TableAt c P (ps++more)):
  KW W Z s {s with heap:=h',toks:=tk} where
 keep:=fun b o _ hb e=>hx b o (fun q=>hb (List.mem_map.mpr ⟨_,hz,q.symm⟩)) e
 tab:=fun y hy qs hq=>by
  by_cases e:y.2=P
  ·obtain rfl:=hu y hy _ hz e;obtain rfl:qs=ps:=Data.fields.inj (congrArg Obj.data (Option.some.inj (hq.2.2.symm.trans h0.2)));exact ⟨more,h1,h2⟩
  ·exact ⟨#[],Array.append_empty.symm▸hq.at fun b o q e'=>hx b o (q.elim (fun q=>q▸aD4 hq.2 h0) fun q=>q▸e) e'⟩
 bare:=fun h=>h
 drawn:=rfl
 os:=rfl
theorem aD5 {qualname:Str}{scope:Scope}(hu:ZU Z)(hz:(c,P)∈Z)(z:Zok Z W s.heap)(hc:env.code= .ref c)
  (h:∀code h' tk,KW W Z s {s with heap:=h',toks:=tk}->s.heap.objs.size<=h'.objs.size->Q code {s with heap:=h',toks:=tk}):wpAny (model prog w) A (genexprCode env pos qualname scope) Q E s:=by
 obtain ⟨ps,h1,h2⟩:=z.at' _ hz
 rcases hf:codeAmong pos ps.toList with _ | c'
 ·exact wpAny_genexprCodeX hc h1 h2 hf fun c' h' tk hx hge hlt hi _ ht _=>h _ h' tk (KW.table hu hz hx h2 hi ht) (Nat.le_trans hge (Nat.le_of_lt hlt))
 ·exact wpAny_genexprCode_hit hc h1 hf (h c' s.heap s.toks (KW.refl s) (Nat.le_refl _))
theorem KW.moved {wr:List Addr}{g:Nat}(k:KW W Z s'0 s)(m:Moved wr (GenOnlyQ g) s s')(hw:∀b∈wr,s'0.heap.get? b=none):KW W Z s'0 s' where
 keep:=fun b o h1 h2 e=>m.heap b o (fun q=>no1 ((hw b q).symm.trans e)) (k.keep b o h1 h2 e)
 tab:=fun y hy ps h=>(k.tab y hy ps h).imp fun _ h1=>h1.at fun b o q e=>m.heap b o (fun z=>(h.ex b q).elim fun _ e=>no1 ((hw b z).symm.trans e)) e
 bare:=fun h=>(k.bare h).movedS m
 drawn:=m.drawn.trans k.drawn
 os:=m.os.trans k.os
theorem lC (n:Nat):passing (fun _=>true) n 0=List.range n:=by
 unfold passing;rw [List.drop_zero,List.filter_eq_self];simp
theorem bB.pick {vs:Array Value}(x:bB h vs.toList ps):∃(Ts:Nat->Addr) (vals:Nat->Array Value), ∀j,j<vs.size->vs[j]? =some (.ref (Ts j))/\h.IsTuple (Ts j) (vals j)/\∃p t u,ps[j]? =some p/\vals j= #[.str p.1 t,.str p.2 u]:=by
 have pick:∀j,∃(q:Addr × Array Value),j<vs.size->vs[j]? =some (.ref q.1)/\h.IsTuple q.1 q.2/\∃p t u,ps[j]? =some p/\q.2= #[.str p.1 t,.str p.2 u]:=fun j=>by
  by_cases hj:j<vs.size
  ·have hp:j<ps.length:=x.1▸hj;obtain ⟨T,t,u,e,ht⟩:=x.2 j vs[j] ps[j] (by rw [Array.getElem?_toList]; exact Array.getElem?_eq_getElem hj) (List.getElem?_eq_getElem hp);exact ⟨(T, #[.str ps[j].1 t,.str ps[j].2 u]),fun _=>⟨by rw [Array.getElem?_eq_getElem hj,e],ht,ps[j],t,u,List.getElem?_eq_getElem hp,rfl⟩⟩
  ·exact ⟨(0, #[]),fun h=>absurd h hj⟩
 exact ⟨fun j=>(pick j).choose.1,fun j=>(pick j).choose.2,fun j hj=>(pick j).choose_spec hj⟩
theorem xD (h:(passing (fun _=>true) n 0)[j]? =some i):i=j:=by
 rw [lC] at h;obtain ⟨hj,e⟩:=List.getElem?_eq_some_iff.mp h;exact e.symm.trans (List.getElem_range ..)
theorem aD6 {a b x:Value}(e: #[a,b]= #[x,y]):a=x/\b=y:=by
 injection e with e
 injection e with e1 e
 injection e with e2
 exact ⟨e1,e2⟩
theorem aMh {h'3:Heap}{I:Addr}{vs:Array Value}{Ts:Nat->Addr}{vals:Nat->Array Value}{P:Nat->Prop}{Q:Nat->Prop}(hI:h'3.IsListIter I c 0)(hl:fO h C c dc vs)(hT:∀j,j<vs.size->P j/\h.IsTuple (Ts j) (vals j)/\Q j)(lt:∀b o,h.get? b=some o->b<h'3.objs.size):
  ∀b∈I::c::(List.range vs.size).map Ts,b<h'3.objs.size:=fun b hb=>by
 rcases List.mem_cons.mp hb with e | hb
 ·obtain ⟨o,e',_⟩:=hI;exact e▸Heap.lt_size e'
 ·rcases List.mem_cons.mp hb with e | hb
  ·obtain ⟨n,e'⟩:=hl;exact e▸lt _ _ e'
  ·obtain ⟨j,hj,e⟩:=List.mem_map.mp hb;obtain ⟨o,e',_⟩:=(hT j (List.mem_range.mp hj)).2.1;exact e▸lt _ _ e'
theorem aMi {scope:Scope}{cl:List (Str × Addr)}{bi:Addr}{code:Value}{xa xb:Str}{ifs:List Expr}{s4:Shared}{I:Addr}{fp wr:List Addr}{n'0:Nat}{Pt:Nat->Array Value->Prop}{St0:Nat->Heap->Prop}{Mid:Nat->Addr->Heap->Prop}{pz:Nat->Bool}{F:Nat->Value->Prop}
  (h1:∀A':Around,A'.handled=none->WalksU prog w A' I fp wr n'0 Pt St0 Mid) (h2:∀i vals,Pt i vals->∃va vb,vals= #[va,vb]) (h3:St0 0 s4.heap) (h4:∀b∈fp,b<s4.heap.objs.size) (h5:s4.heap.NoLimit) (h6:cStatics∉wr)
  (h7:∀href:Heap,(∀ b o,s4.heap.get? b=some o->href.get? b=some o)->QuietGenT prog w (genEnv scope cl s4.heap.objs.size code bi env) xa xb ifs elt (List.range s4.heap.objs.size) wr Pt pz F href)
  (h8:∀a h'5 tk gs,gs.bare=true->s4.heap.objs.size<a->h'5.objs.size=a+1->(∀ b o,s4.heap.get? b=some o->h'5.get? b=some o)->
   WalksS prog w A.in4 a (a::s4.heap.objs.size::List.range s4.heap.objs.size) (s4.heap.objs.size::wr) (GenOnlyQ s4.gens.size) (passing pz n'0 0).length (fun j y=>∃i,(passing pz n'0 0)[j]? =some i/\F i y) (GenAt prog w A.in4 a s4.gens.size s4.heap.objs.size (List.range s4.heap.objs.size) wr pz n'0 F)->
   GenAt prog w A.in4 a s4.gens.size s4.heap.objs.size (List.range s4.heap.objs.size) wr pz n'0 F 0 {s4 with gens:=s4.gens.push gs,toks:=tk,heap:=h'5}->Q (.ref a) {s4 with gens:=s4.gens.push gs,toks:=tk,heap:=h'5}):
  ∃I' fp wr n'0 Pt St0 Mid pz F,(Value.ref I)= .ref I'/\(∀ A':Around,A'.handled=none->WalksU prog w A' I' fp wr n'0 Pt St0 Mid)/\(∀ i vals,Pt i vals->∃va vb,vals= #[va,vb])/\St0 0 s4.heap/\(∀ b∈fp,b<s4.heap.objs.size)/\s4.heap.NoLimit/\cStatics∉wr/\
   (∀ href:Heap,(∀ b o,s4.heap.get? b=some o->href.get? b=some o)->QuietGenT prog w (genEnv scope cl s4.heap.objs.size code bi env) xa xb ifs elt (List.range s4.heap.objs.size) wr Pt pz F href)/\
   (∀ a h'5 tk gs,gs.bare=true->s4.heap.objs.size<a->h'5.objs.size=a+1->(∀ b o,s4.heap.get? b=some o->h'5.get? b=some o)->
    WalksS prog w A.in4 a (a::s4.heap.objs.size::List.range s4.heap.objs.size) (s4.heap.objs.size::wr) (GenOnlyQ s4.gens.size) (passing pz n'0 0).length (fun j y=>∃i,(passing pz n'0 0)[j]? =some i/\F i y) (GenAt prog w A.in4 a s4.gens.size s4.heap.objs.size (List.range s4.heap.objs.size) wr pz n'0 F)->
    GenAt prog w A.in4 a s4.gens.size s4.heap.objs.size (List.range s4.heap.objs.size) wr pz n'0 F 0 {s4 with gens:=s4.gens.push gs,toks:=tk,heap:=h'5}->Q (.ref a) {s4 with gens:=s4.gens.push gs,toks:=tk,heap:=h'5}):=
 ⟨I,fp,wr,n'0,Pt,St0,Mid,pz,F,rfl,h1,h2,h3,h4,h5,h6,h7,h8⟩
theorem aD7 {vs:Array Value}(K:AW prog w Sta C N mN)(hS:Sta s.heap)(hl:fO s.heap C c dc vs)
  (hQ:∀I h',I=s.heap.objs.size->s.heap.get? I=none->c≠I->(∀ b o,s.heap.get? b=some o->h'.get? b=some o/\b<h'.objs.size)->(∃ o,h'.get? I=some o/\o.cls= .type "list_iterator"/\o.data= .fields #[.ref c,.int 0 0])->Q (.ref I) {s with heap:=h'}):wpAny (model prog w) A (pyIter (.ref c)) Q E s:=
 aKf (K.cls _ hS) K.it hl (hQ _ _ rfl (aR _) (fun q=>by obtain ⟨n,e⟩:=hl;rw [q,aR] at e;exact no1 e) (fun _ _ e=>⟨Heap.get?_push_of_some _ e,Heap.lt_size (Heap.get?_push_of_some _ e)⟩) ⟨_,Heap.get?_push_size _ rfl,rfl,rfl⟩)
theorem qM (S:SZ Sta Z)(hu:ZU Z)(K:AW prog w Sta C N mN)(BM:∀h,Sta h->∃bm ob,BMod h mainGlobals mg bm ob)(nl:∀h,Sta h->h.NoLimit)
     {m:Str->Option Value} {gsc:Scope} {xa xb slf:Str} {pa pb pt ps':Pos} {kt:Nat} {G:Str->Str->Value->Prop}
  (hh:A.handled=none) (hA:A.depth<980) (B:Bs Sta Z [c,dc] hb s.heap) (X:Acc C s.heap c dc ps)
  (hcode:env.code= .ref cc) (hz:(cc,P)∈Z) (hglob:env.globals=mainGlobals) (hkf:env.scope.kind= .function) (hks:env.kindOf slf=some .local) (hns:s.heap.Ns env.locals m) (hm:m slf=some (.ref c)) (hd:(slf==("__debug__":Str))=false)
  (hco:gsc.isCoroutine=false) (hclos:closureFor gsc env=pure []) (hcell:∀y∈gsc.names,y.2≠ .cell) (h0:gsc.names.lookup (".0":Str)=some NameKind.local)
  (hxa:gsc.names.lookup xa=some .local) (hxb:gsc.names.lookup xb=some .local) (hab:xa≠xb) (hkind:gsc.kind= .function)
  (helt:∀(D:Addr)(code:Value)(A':Around)(E':Value->Shared->Prop)(a b:Str)(t u:Tok)(s'2:Shared)(m'2:Str->Option Value),(a,b)∈ps->A'.handled=none->Sta s'2.heap->s'2.heap.Ns D m'2->m'2 xa=some (.str a t)->m'2 xb=some (.str b u)->
   wpAny (model prog w) A' (eval elt (genEnv gsc [] D code builtinsNs env)) (fun y s3=>G a b y/\Keeps s'2 s3) E' s'2)
  (hQ:∀(a:Addr)(s5:Shared)(fp wr:List Addr)(g:Nat)(F:Nat->Value->Prop)(St:Nat->Shared->Prop),KW [] Z s s5->Acc C s5.heap c dc ps->WalksS prog w A.in4 a fp wr (GenOnlyQ g) ps.length F St->St 0 s5->(∀ b∈fp,b<s5.heap.objs.size)->a∈fp->(∀ b∈wr,s.heap.get? b=none)->
   (∀ j y,F j y->∃p,ps[j]? =some p/\G p.1 p.2 y)->(∀ i s',St i s'->s'.TypeIs (.ref a) "generator")->Q (.ref a) s5):
  wpAny (model prog w) A (eval (.GeneratorExp elt [⟨.Tuple [.Name xa pa,.Name xb pb] kt pt,.Name slf ps',[],0⟩] gsc pos) env) Q E s:=by
 obtain ⟨vs,hl0,hps⟩:=X.seq;have hsz:vs.size=ps.length:=hps.1;obtain ⟨Ts,vals,hTs⟩:=hps.pick;have z0:Zok Z [] s.heap:=⟨B.z.at',fun _ _ _ h=>nomatch h⟩;refine wpAny_GeneratorExp_walksQT hh hco hclos hcell h0 hxa hxb hab hkind (Nat.lt_trans hA (by decide)) (opq fun R0 n0=>nm hkf hks hns hm hd (n0 _ _ (opq fun R1 n1=>aD7 K (B.st S) hl0 fun I h'1 hIe hI0 hne k01 hI1=>n1 _ _ ?_))) (fun _=>rfl);have k1:KW [] Z s {s with heap:=h'1}:=KW.of_keep (tk:=s.toks) fun b o e=>(k01 b o e).1
 refine ⟨nl _ ((B.of k1.wk).st S),opq fun R2 n2=>aD5 (W:=[]) (s:={s with heap:=h'1}) hu hz (z0.of k1) hcode fun code h'3 tk3 k3 hge=>n2 _ _ (opq fun R3 n3=> ?_)⟩
 clear n0 n1 n2
 have k13:=k1.trans k3;have B3:=B.of (k13.wk (W:=[c,dc]));obtain ⟨bm,ob,hbm⟩:=BM _ (B3.st S);refine wpAny_builtinsFor (hglob▸hbm.ns) hbm.name hbm.ne hbm.obj hbm.cls hbm.dict hbm.data (n3 _ _ ?_)
 clear n3
 have hIZ:I∉Z.map (·.2):=hIe▸B.z.fresh;have hcZ:c∉Z.map (·.2):=fun q=>by obtain ⟨y,hy,e⟩:=List.mem_map.mp q;exact (B.z.apart y hy c (.head _)).2 e.symm
 have hlt3:∀b o,s.heap.get? b=some o->b<h'3.objs.size:=fun b o e=>Nat.lt_of_lt_of_le (k01 b o e).2 hge
 have hIt:h'3.IsListIter I c 0:=hI1.imp fun o h=>⟨k3.keep I _ (fun h=>nomatch h) hIZ h.1,h.2⟩
 have hcs:cStatics∉[I]:=fun q=>by
  obtain ⟨mc,⟨o,es,ep,ho,_⟩,_⟩:=nl _ (B.st S);rw [List.mem_singleton.mp q,hI0] at ho;exact no1 ho
 refine aMi (I:=I) (fp:=I::c::(List.range vs.size).map Ts) (wr:=[I]) (pz:=fun _=>true) (F:=fun i y=>∃p,ps[i]? =some p/\G p.1 p.2 y) (fun A' hA'=>xC (C:=C) (dc:=dc) (vs:=vs) hA' I hne Ts vals (fun j hj=>(hTs j hj).1) fun j hj q=> ?_) (fun i vals' h=> ?_)
  ⟨hIt,hl0.at fun o e=>k13.keep c o (fun h=>nomatch h) hcZ e,fun k hk=>k13.tup (fun _ h=>nomatch h) z0 (hTs k hk).2.1⟩ (aMh hIt hl0 hTs hlt3) (nl _ (B3.st S)) hcs (fun href hhref=>⟨fun A' E' i va vb s'2 m'2 _ _ _ _ _ _=>wpAny_pure ⟨rfl,dB.refl s'2⟩,fun A' E' i va vb s'2 m'2 hA' hPt _ hn'2 hma hmb' hk'2=> ?_⟩) fun a h'5 tk gs hgb hag hsz5 hk'5 W hat=> ?_
 ·obtain ⟨o,e,_⟩:=(hTs j hj).2.1;rw [q,hI0] at e;exact no1 e
 ·obtain ⟨p,t,u,_,e⟩:=(hTs i h.1).2.2;exact ⟨_,_,h.2.trans e⟩
 ·obtain ⟨p,t,u,hp,e'⟩:=(hTs i hPt.1).2.2;obtain ⟨e1,e2⟩:=aD6 (hPt.2.trans e');refine wpAny_mono (helt _ _ A' E' p.1 p.2 t u s'2 m'2 (List.mem_of_getElem? hp) hA' (S _ _ (fun b o hb e=> ?_) (B.st S)) hn'2 (hma.trans (congrArg some e1)) (hmb'.trans (congrArg some e2))) (fun y s3 h=>⟨⟨p,hp,h.1⟩,h.2⟩) fun _ _ e=>e
  exact hk'2 b (List.mem_range.mpr (hlt3 _ _ e)) (fun q=>by rw [List.mem_singleton.mp q,hI0] at e;exact no1 e) o (hhref _ _ (k13.keep b o (fun h=>nomatch h) hb e))
 ·have k4:KW [] Z s {s with heap:=h'5,toks:=tk}:=k13.trans (KW.of_keep (s:={s with heap:=h'3,toks:=tk3}) hk'5);have k5:KW [] Z s {s with heap:=h'5,toks:=tk,gens:=s.gens.push gs}:={k4 with bare:=fun h=>h.push hgb};have hlen:(passing (fun _=>true) vs.size 0).length=ps.length:=by rw [lC,List.length_range,hsz]
  rw [hlen] at W;refine hQ a _ _ _ _ _ _ k5 (X.kw B.z k5) W hat (fun b hb=>hsz5▸ ?_) (.head _) (fun b hb=> ?_) (fun j y ⟨i,hi,h⟩=>xD hi▸h) fun i s' st=>st.1.typeIs
  ·rcases List.mem_cons.mp hb with e | hb
   ·exact e▸Nat.lt_succ_self _
   ·rcases List.mem_cons.mp hb with e | hb
    ·exact e▸Nat.lt_succ_of_lt hag
    ·exact Nat.lt_succ_of_lt (Nat.lt_trans (List.mem_range.mp hb) hag)
  ·rcases List.mem_cons.mp hb with e | hb
   ·rcases e':s.heap.get? b with _ | o
    ·rfl
    ·exact absurd (hlt3 _ _ e') (e▸Nat.lt_irrefl _)
   ·rw [List.mem_singleton.mp hb]; exact hI0
theorem qN (a b:Value):argsOk "sum" ⟨[a,b],[]⟩:=by unfold argsOk;kernel_rfl
theorem aAz {x:Value}{tt:Tok}
  (h:wpAny (model prog w) A.in1 (pyIter x) (fun it s'2=>∃I fp wr G n P St val,it= .ref I/\WalksS prog w A.in1 I fp wr G n P St/\St 0 s'2/\(∀ b∈fp,b<s'2.heap.objs.size)/\
   (∀ i v,P i v->∃t,v= .int (val i) t)/\(∀ j,j<n->InLong (val j)/\InLong (preSum val (j+1)))/\
   ∀s' t',Moved wr G s'2 s'->Q (.int (preSum val n) t') s') E s):
  wpAny (model prog w) A (call (.builtin "sum") [x,.int 0 tt]) Q E s:=by
 refine call_function_tree F.kind_sum F.plain_sum F.entry_sum (qN _ _) ?_;unfold Builtin.«sum»;refine bM (show ¬(1+1+0>2) by decide) ?_;refine wpAny_bind (wpAny_of_eq (show Builtin.Builtins.bindParams "sum" ["start"] 0 ⟨[.int 0 tt],[]⟩=pure [some (.int 0 tt)] from rfl) ?_);refine wpAny_bind (wpAny_mono h (fun it s'2 h'2=> ?_) fun _ _ e=>e);obtain ⟨I,fp,wr,G,n,P,St,val,rfl,W,hst,hfp,hval,hfit,hQ⟩:=h'2;refine iV (by decide) ?_;refine wpAny_bind (wpAny_rule (wpAny_bind (wpAny_mkInt ?_)));refine wpAny_bind (wpAny_pure ?_);dsimp only;simp-iota only [List.forIn_cons,List.forIn_nil];refine wpAny_bind (wpAny_bind (wpAny_bind (wpAny_isInstance (T:="int") (b:=false) (typeIs_int _ _ _) _root_.PySem.sub_int_str ?_)));refine rI ?_;refine wpAny_pure (wpAny_bind (wpAny_bind (wpAny_isInstance (T:="int") (b:=false) (typeIs_int _ _ _) _root_.PySem.sub_int_bytes ?_)));refine rI ?_;refine wpAny_pure (wpAny_bind (wpAny_bind (wpAny_isInstance (T:="int") (b:=false) (typeIs_int _ _ _) _root_.PySem.sub_int_bytearray ?_)));refine rI ?_;refine wpAny_pure (wpAny_pure ?_);refine wpAny_bind (wpAny_newObj_type ?_);have hSf:s'2.heap.objs.size∉fp:=fun hm=>Nat.lt_irrefl _ (hfp _ hm)
 refine wpAny_pure ⟨plainId_quiet F.plain_sum_loop _,codeAny_sum_loopS W val hval hfit s'2.heap.objs.size hSf n 0 _ s'2.toks 0 rfl (Nat.zero_le _)
  (W.frame 0 s'2 _ _ hst (by first | exact Nat.le_refl _ | exact Nat.le_succ _ | lia) fun b _ o e=>Heap.get?_push_of_some _ e) (Heap.get?_push_size _ rfl) fun s' t' hm=> ?_⟩
 exact hQ s' t' (hm.drop_new (by first | exact Nat.le_refl _ | exact Nat.le_succ _ | lia))
noncomputable def eW (ps:List (Str × Str)):Int:=(ps.map fun p=>((p.1.length:Int)+p.2.length)).sum
noncomputable def aKh (ps:List (Str × Str))(j:Nat):Int:=match ps[j]? with
 | some p=>(p.1.length:Int)+p.2.length
 | none=>0
theorem sN {p:Str × Str}(h:ps[j]? =some p):aKh ps j=(p.1.length:Int)+p.2.length:=by unfold aKh;rw [h]
theorem eY (ps:List (Str × Str)):∀n,n<=ps.length->preSum (aKh ps) n=eW (ps.take n)
 | 0,_=>by simp [preSum,eW]
 | n+1,h=>by
  rw [preSum,eY ps n (by exact Nat.le_of_lt h),List.take_add_one];have:ps[n]? =some ps[n]:=List.getElem?_eq_getElem (by exact h);rw [this,sN this];unfold eW;rw [List.map_append,List.sum_append];simp
theorem fP:∀(ps:List (Str × Str))(M:Nat),(∀ p∈ps,p.1.length+p.2.length<=M)->0<=eW ps/\eW ps<=ps.length*M
 | [],M,_=>by simp [eW]
 | p::ps,M,h=>by
  have h1:=h p List.mem_cons_self;have h2:=fP ps M fun q hq=>h q (List.mem_cons_of_mem _ hq)
  have e:eW (p::ps)=((p.1.length:Int)+p.2.length)+eW ps:=by simp [eW]
  rw [e,List.length_cons];have:(((ps.length+1:Nat):Int)*(M:Int))=(ps.length:Int)*M+M:=by
   rw [Int.natCast_add,Int.add_mul]; simp
  rw [this]
  lia
def cN (ps:List (Str × Str)):Prop:=ps.length<=900/\∀p∈ps,p.1.length+p.2.length<=1000
structure FW (prog:Program)(w:World)(Sta:Heap->Prop)(Z:List (Addr × Addr))(mg mb:Str->Option Value):Prop where
 sz:SZ Sta Z
 zu:ZU Z
 ns:∀h,Sta h->h.Ns mainGlobals mg/\h.Ns builtinsNs mb
 bm:∀h,Sta h->∃bm ob,BMod h mainGlobals mg bm ob
 nl:∀h,Sta h->h.NoLimit
 sup:mg "super"=none/\mb "super"=some (.type "super")
 len:mg "len"=none/\mb "len"=some (.builtin "len")
 sum:mg "sum"=none/\mb "sum"=some (.builtin "sum")
 str:mg "str"=none/\mb "str"=some (.type "str")
 rng:mg "range"=none/\mb "range"=some (.type "range")
theorem cM {f:Str}(hkf:env.scope.kind= .function)(hf:env.kindOf f=some .globalImplicit)(hd:(f==("__debug__":Str))=false)
  (hg:s.heap.Ns env.globals mg) (hb:s.heap.Ns env.builtins mb) (h1:mg f=none) (h2:mb f=some (.builtin id)) (hstar:(backTo q (starEach args env)).any (·.1)=false)
  (h:wpAny (model prog w) A (spliced (backTo q (starEach args env))) (fun vs s'=>wpAny (model prog w) A (call (.builtin id) vs) Q E s') E s):
  wpAny (model prog w) A (eval (.Call (.Name f p) args [] q) env) Q E s:=by
 show wpAny _ A (eval (.Name f p) env >>= fun g=>callWith q g [] (backTo q (starEach args env)) []) _ _ s;refine wpAny_bind (Name_function_global hkf hf (loadGlobal_builtin (env:=env) hg h1 hb h2 ?_) hd);exact callWith_builtin hstar (aF hstar h)
theorem len_str (hx:x.length<=2^20)(h:∀h' tk,(∀ b o,s.heap.get? b=some o->h'.get? b=some o)->∀u,Q (.int x.length u) {s with heap:=h',toks:=tk}):
  wpAny (model prog w) A (call (.builtin "len") [.str x t]) Q E s:=by
 refine wpAny_mono (pO (M:=[]) (vs:=[.str x]) (v:= .int x.length) (by unfold aLc;exact if_pos hx) (.cons (.str _ _) .nil)) (fun v s' h'=> ?_) fun _ _ e=>e
 obtain ⟨h1,h',tk,rfl,hk⟩:=h';obtain ⟨u,rfl⟩:=h1.int_inv;exact h _ _ hk u
theorem oO (K:AW prog w Sta C N mN)(hb:cI o=true)
  (h:wpAny (model prog w) A (eval o env) (fun ov s'1=>ov= .ref c/\Sta s'1.heap/\Acc C s'1.heap c dc ps/\∀t,Q (.int 0 t) {s'1 with toks:=s'1.toks+1}) E s):
  wpAny (model prog w) A (eval (.Attribute o "_initial_size" p) env) Q E s:=by
 rw [arm_eval_Attribute,eL hb];refine wpAny_bind (wpAny_mono h (fun ov s'1 h'1=> ?_) fun _ _ e=>e);obtain ⟨rfl,hS,X,hQ⟩:=h'1;obtain ⟨t,I⟩:=X.inst;obtain ⟨cr,hC⟩:=(K.cls _ hS).obj;have hns:=(K.cls _ hS).ns;refine wpAny_bind (wpAny_standAt (wpAny_bind (wpAny_holding ?_)));refine wP hC hns K.ga K.gt K.isz aFx I (if_pos rfl) rfl ?_;exact wpAny_bind (wpAny_letTemporaryGo (wpAny_pure (hQ t)))
def xE (prog:Program)(w:World)(Sta:Heap->Prop)(Z:List (Addr × Addr))(C f:Addr):Prop:=
 ∀(c dc:Addr)(A:Around)(E:Value->Shared->Prop)(s:Shared)(hb:Heap)(ps:List (Str × Str)),A.handled=none->A.depth<970->Bs Sta Z [c,dc] hb s.heap->Acc C s.heap c dc ps->cN ps->
  wpAny (model prog w) A (call (.ref f) [.ref c]) (fun v s'=>(∃ t,v= .int (eW ps) t)/\KW [] Z s s'/\Acc C s'.heap c dc ps) E s
theorem aHn (W:FW prog w Sta Z mg mb)(K:AW prog w Sta C N mN){f:Addr}(D:Df Sta f fd)(hcc:fd.code= .ref cc)(hz:(cc,P)∈Z){gsc:Scope}{kt:Nat}
  (hbody:fd.body= .stmts [.Return (some (.Call (.Name "sum" p0) [.GeneratorExp (.BinOp (.Call (.Name "len" e0) [.Name "fws" e1] [] e2) .Add (.Call (.Name "len" e3) [.Name "part" e4] [] e5) e6) [⟨.Tuple [.Name "fws" g0,.Name "part" g1] kt g2,.Name "self" g3,[],0⟩] gsc g4,
   .Attribute (.Name "self" a0) "_initial_size" a1] [] p1)) p2]) (hself:knd fd "self"=some .local) (hsum:knd fd "sum"=some .globalImplicit)
  (hgn:gsc.names=[(ofString ".0",.local),(ofString "fws",.local),(ofString "part",.local),(ofString "len",.globalImplicit)]) (hgk:gsc.kind= .function) (hgc:gsc.isCoroutine=false)
  (hbind:∀x:Value,bindArgs fd ⟨[x],[]⟩=pure [(ofString "self",x)]):xE prog w Sta Z C f:=by
 intro c dc A E s hb ps hh hA B X hsm;refine opq fun R nR=> ?_
 refine aAu D (B.st W.sz) (by exact lit hA rfl) hbody (.of_eq (hbind _)) (fun x hx=> ?_) fun h'0 tk E' env henv hL hns hk=> ?_
 ·rw [List.mem_singleton.mp hx]; exact hself
 have hkf:env.scope.kind= .function:=by rw [henv]; exact D.kind
 have hko:∀x,env.kindOf x=knd fd x:=fun x=>by rw [henv]; rfl
 have hge:env.globals=mainGlobals:=by rw [henv]; exact D.globals
 have hbe:env.builtins=builtinsNs:=by rw [henv]; exact D.builtins
 have w0:KW [] Z s {s with heap:=h'0,toks:=tk}:=KW.of_keep hk;have B0:=B.of (w0.weaken fun _ h=>nomatch h);have X0:=X.keeps hk;have hLZ:env.locals∉Z.map (·.2):=by rw [hL]; exact B.z.fresh
 obtain ⟨hg0,hb0⟩:=W.ns _ (B0.st W.sz);refine wpAt_of_wpAny (wpAny_execs_cons (wpAny_Return_some (cM hkf ((hko _).trans hsum) rfl (hge▸hg0) (hbe▸hb0) W.sum.1 W.sum.2 rfl ?_)));refine wpAny_items_cons (qM (c:=c) (dc:=dc) (hb:=hb) (G:=fun a b y=>∃t,y= .int ((a.length:Int)+b.length) t) W.sz W.zu K W.bm W.nl (by show A.handled=none;exact hh) (by show A.depth+1<980;exact sll hA rfl) B0 X0 (by rw [henv]; exact hcc) hz hge hkf ((hko _).trans hself) hns (by rfl) rfl
  hgc ?_ ?_ (by rw [hgn]; rfl) (by rw [hgn]; rfl) (by rw [hgn]; rfl) (by decide) hgk ?_ fun a s5 fp wr g F St k5 X5 Wk hst hfp haf hwr hF hty=> ?_)
 ·unfold closureFor;rw [hgn]; rfl
 ·rw [hgn]; decide
 ·intro Dl code A' E'' a b t u s'2 m'2 hmem hh' hS hn'2 hma hmb';obtain ⟨hg2,hb2⟩:=W.ns _ hS;have hl:=hsm.2 _ hmem;have hke:∀x,(genEnv gsc [] Dl code builtinsNs env).kindOf x=gsc.names.lookup x:=fun _=>rfl
  refine wpAny_BinOp (cM (mg:=mg) (mb:=mb) hgk ((hke _).trans (by rw [hgn]; rfl)) rfl (by show s'2.heap.Ns env.globals mg;rw [hge]; exact hg2) hb2 W.len.1 W.len.2 rfl
   (wpAny_items_cons (nm (m:=m'2) hgk ((hke _).trans (by rw [hgn]; rfl)) hn'2 hma rfl (wpAny_items_nil (len_str (by simp only at hl;exact lit (aL1 hl) rfl) fun h' tk' hk' u'=> ?_)))))
  refine cM (mg:=mg) (mb:=mb) hgk ((hke _).trans (by rw [hgn]; rfl)) rfl (by show h'.Ns env.globals mg;rw [hge]; exact hg2.keeps hk') (hb2.keeps hk') W.len.1 W.len.2 rfl
   (wpAny_items_cons (nm (m:=m'2) hgk ((hke _).trans (by rw [hgn]; rfl)) (hn'2.keeps hk') hmb' rfl (wpAny_items_nil (len_str (by simp only at hl;exact lit (aL2 hl) rfl) fun h'' tk'' hk'' u''=> ?_))))
  exact wpAny_add_int ⟨⟨_,rfl⟩,dB.of (s:=s'2) fun b o e=>hk'' b o (hk' b o e)⟩
 ·have B5:Bs Sta Z [c,dc] hb s5.heap:=B0.of (k5.weaken fun _ h=>nomatch h);have hns5:s5.heap.Ns env.locals _:=Ns.kw hns k5 (fun h=>nomatch h) hLZ;refine wpAny_items_cons (oO (c:=c) (dc:=dc) (ps:=ps) K rfl (nm hkf ((hko _).trans hself) hns5 (u:= .ref c) (by rfl) rfl ⟨rfl,B5.st W.sz,X5,fun t=>wpAny_items_nil ?_⟩));have Wk1:=Wk.in4_1;have hst6:St 0 {s5 with toks:=s5.toks+1}:=Wk1.frame 0 s5 s5.heap _ hst (Nat.le_succ _) fun _ _ _ e=>e
  refine aAz (Wk1.self 0 _ _ _ hst6 ⟨a,fp,wr,_,ps.length,F,St,aKh ps,rfl,Wk1,hst6,hfp,fun j v hv=> ?_,fun j hj=> ?_,fun s' t' hm=> ?_⟩)
  ·obtain ⟨p,hp,t,rfl⟩:=hF j v hv;exact ⟨t,by rw [sN hp]⟩
  ·have hp:ps[j]? =some ps[j]:=List.getElem?_eq_getElem hj;have hl:=hsm.2 _ (List.getElem_mem hj);have hb1:=fP (ps.take (j+1)) 1000 fun q hq=>hsm.2 q (List.mem_of_mem_take hq)
   have hb2:(ps.take (j+1)).length<=900:=Nat.le_trans (List.length_take_le' _ _) hsm.1;unfold InLong;rw [eY ps (j+1) hj,sN hp];refine ⟨⟨by exact Int.natCast_nonneg _,by lia⟩,⟨by exact jil hb1.1 rfl,?_⟩⟩;have:((ps.take (j+1)).length:Int)*1000<=900*1000:=by lia
   lia
  ·have hps:preSum (aKh ps) ps.length=eW ps:=by rw [eY ps ps.length (Nat.le_refl _),List.take_length]
   have k6:KW [] Z s s5:=w0.trans k5;have kz:Zok Z [] s.heap:=⟨B.z.at',fun _ _ _ h=>nomatch h⟩;have kf:KW [] Z s s':=KW.moved (k6.trans KW.toks) hm fun b hb'=>by
    have:=hwr b hb'
    cases e:s.heap.get? b with
    | none=>rfl
    | some o=>rw [hk b o e] at this;exact no2 this
   exact nR _ _ ⟨⟨_,by rw [hps]⟩,kf,X.kw B.z kf⟩
noncomputable def pjoin (p:Str × Str):Str:=Txt.join "" [p.1,p.2]
noncomputable def bC (ps:List (Str × Str)):Str:=Txt.join "" (ps.map pjoin)
theorem aA0 (a b:Str):(a++b:Str).length=a.length+b.length:=Array.size_append ..
theorem aA1 (p:Str × Str):(pjoin p).length=p.1.length+p.2.length:=by
 show (p.1++("":Str)++p.2:Str).length=_;rw [aA0,aA0];rfl
theorem aA2:∀(l:List Nat)(M:Nat),(∀ x∈l,x<=M)->l.sum<=l.length*M
 | [],_,_=>by simp
 | a::l,M,h=>by
  have h1:=h a List.mem_cons_self;have h2:=aA2 l M fun x hx=>h x (List.mem_cons_of_mem _ hx)
  rw [List.sum_cons,List.length_cons,Nat.add_mul]
  lia
theorem xF (h:cN ps):((ps.map pjoin).map (·.length)).sum+(ps.map pjoin).length*("":Str).length<=16777216:=by
 have h1:((ps.map pjoin).map (·.length)).sum<=900*1000:=by
  refine Nat.le_trans (aA2 _ 1000 fun x hx=> ?_) ?_
  ·obtain ⟨y,hy,rfl⟩:=List.mem_map.mp hx;obtain ⟨p,hp,rfl⟩:=List.mem_map.mp hy;rw [aA1]; exact h.2 p hp
  ·rw [List.length_map,List.length_map];exact Nat.mul_le_mul_right _ h.1
 have h2:("":Str).length=0:=rfl;rw [h2];exact lit h1 rfl
def aA3 (prog:Program)(w:World)(Sta:Heap->Prop)(Z:List (Addr × Addr))(C f:Addr):Prop:=
 ∀(c dc:Addr)(A:Around)(E:Value->Shared->Prop)(s:Shared)(hb:Heap)(ps:List (Str × Str)),A.handled=none->A.depth<970->Bs Sta Z [c,dc] hb s.heap->Acc C s.heap c dc ps->cN ps->
  wpAny (model prog w) A (call (.ref f) [.ref c]) (fun v s'=>(∃ t,v= .str (bC ps) t)/\KW [] Z s s'/\Acc C s'.heap c dc ps) E s
theorem aHo (W:FW prog w Sta Z mg mb)(K:AW prog w Sta C N mN){tE:Tok}(hE:mg "EMPTYSTRING"=some (.str "" tE)){f:Addr}(D:Df Sta f fd)(hcc:fd.code= .ref cc)(hz:(cc,P)∈Z){gsc:Scope}{kt k1:Nat}
  (hbody:fd.body= .stmts [.Return (some (.Call (.Attribute (.Name "EMPTYSTRING" p0) "join" p1) [.GeneratorExp (.Call (.Attribute (.Name "EMPTYSTRING" e0) "join" e1) [.Tuple [.Name "fws" e2,.Name "part" e3] k1 e4] [] e5) [⟨.Tuple [.Name "fws" g0,.Name "part" g1] kt g2,.Name "self" g3,[],0⟩] gsc g4] [] p2)) p3])
  (hl1:(p1.endLine==p2.line)=true) (hl2:(e1.endLine==e5.line)=true) (hself:knd fd "self"=some .local) (hes:knd fd "EMPTYSTRING"=some .globalImplicit)
  (hgn:gsc.names=[(ofString ".0",.local),(ofString "fws",.local),(ofString "part",.local),(ofString "EMPTYSTRING",.globalImplicit)]) (hgk:gsc.kind= .function) (hgc:gsc.isCoroutine=false)
  (hbind:∀x:Value,bindArgs fd ⟨[x],[]⟩=pure [(ofString "self",x)]):aA3 prog w Sta Z C f:=by
 intro c dc A E s hb ps hh hA B X hsm;refine opq fun R nR=> ?_
 refine aAu D (B.st W.sz) (by exact lit hA rfl) hbody (.of_eq (hbind _)) (fun x hx=> ?_) fun h'0 tk E' env henv hL hns hk=> ?_
 ·rw [List.mem_singleton.mp hx]; exact hself
 have hkf:env.scope.kind= .function:=by rw [henv]; exact D.kind
 have hko:∀x,env.kindOf x=knd fd x:=fun x=>by rw [henv]; rfl
 have hge:env.globals=mainGlobals:=by rw [henv]; exact D.globals
 have w0:KW [] Z s {s with heap:=h'0,toks:=tk}:=KW.of_keep hk;have B0:=B.of (w0.weaken fun _ h=>nomatch h);have X0:=X.keeps hk;obtain ⟨hg0,hb0⟩:=W.ns _ (B0.st W.sz);refine wpAt_of_wpAny (wpAny_execs_cons (wpAny_Return_some (aT rfl hl1 rfl (by simp) (Name_function_global hkf ((hko _).trans hes) (loadGlobal_global (env:=env) (hge▸hg0) hE fun pl=> ?_) rfl))));refine GM.join (callWith_builtin rfl (aF rfl ?_));refine wpAny_items_cons (qM (c:=c) (dc:=dc) (hb:=hb) (G:=fun a b y=>∃t,y= .str (pjoin (a,b)) t) W.sz W.zu K W.bm W.nl (by show A.handled=none;exact hh) (by show A.depth+1<980;exact sll hA rfl) B0 X0 (by rw [henv]; exact hcc) hz hge hkf ((hko _).trans hself) hns (by rfl) rfl
  hgc ?_ ?_ (by rw [hgn]; rfl) (by rw [hgn]; rfl) (by rw [hgn]; rfl) (by decide) hgk ?_ fun a s5 fp wr g F St k5 X5 Wk hst hfp haf hwr hF hty=>wpAny_items_nil ?_)
 ·unfold closureFor;rw [hgn]; rfl
 ·rw [hgn]; decide
 ·intro Dl code A' E'' a b t u s'2 m'2 hmem hh' hS hn'2 hma hmb';obtain ⟨hg2,hb2⟩:=W.ns _ hS;have hl:=hsm.2 _ hmem;have hke:∀x,(genEnv gsc [] Dl code builtinsNs env).kindOf x=gsc.names.lookup x:=fun _=>rfl
  refine aT rfl hl2 rfl (by simp) (Name_function_global hgk ((hke _).trans (by rw [hgn]; rfl)) (loadGlobal_global (env:=genEnv gsc [] Dl code builtinsNs env) (by show s'2.heap.Ns env.globals mg;rw [hge]; exact hg2) hE fun pl=> ?_) rfl);refine GM.join (callWith_builtin rfl (aF rfl ?_));refine wpAny_items_cons (wpAny_Tuple (k:=k1) (wpAny_items_cons (nm (m:=m'2) hgk ((hke _).trans (by rw [hgn]; rfl)) hn'2 hma rfl (wpAny_items_cons (nm (m:=m'2) hgk ((hke _).trans (by rw [hgn]; rfl)) hn'2 hmb' rfl (wpAny_items_nil ⟨by rw [sizeLine_eq]; simp,wpAny_items_nil ?_⟩))))));refine PyProof.Rows.join_tuple (ys:=[a,b]) (items:= #[.str a t,.str b u]) ⟨_,Heap.get?_push_size _ rfl,rfl,0,rfl⟩ (.cons _ _ (.cons _ _ .nil)) ?_ fun t' k=>⟨⟨t',rfl⟩,dB.of (s:=s'2) fun b o e=>Heap.get?_push_of_some _ e⟩
  have h2:("":Str).length=0:=rfl;simp only at hl;simp [h2];exact lit hl rfl
 ·have hn:ps.length<=sizeLine:=by rw [sizeLine_eq]; have:=hsm.1;exact lit this rfl
  refine SC.joinGen Wk.in4_2 hty hst hfp haf (fun i v hv=> ?_) (fun s' l hm hit=> ?_) hn
  ·obtain ⟨p,_,t,rfl⟩:=hF i v hv;exact ⟨_,_,rfl⟩
  ·have hl:l.map (·.1)=ps.map pjoin:=by
    have hsz:l.length=ps.length:=by simpa [strValues] using hit.1
    apply List.ext_getElem?
    intro i;rw [List.getElem?_map,List.getElem?_map]
    by_cases hi:i<l.length
    ·have hv:(strValues l).toArray[i]? =some (.str l[i].1 l[i].2):=by simp [strValues,hi]
     obtain ⟨p,hp,t,e⟩:=hF i _ (hit.2 i _ hv);rw [hp,List.getElem?_eq_getElem hi]
     injection e with e1 _
     simp [e1]
    ·rw [List.getElem?_eq_none (by exact Nat.le_of_not_lt hi),List.getElem?_eq_none (by lia)];rfl
   rw [hl];refine ⟨joinOk_of (xF hsm),fun t' k=> ?_⟩;have kz:Zok Z [] s.heap:=⟨B.z.at',fun _ _ _ h=>nomatch h⟩;have kf:KW [] Z s {s' with toks:=k}:=(KW.moved (w0.trans k5) hm fun b hb'=>by
    have:=hwr b hb'
    cases e:s.heap.get? b with
    | none=>rfl
    | some o=>rw [hk b o e] at this;exact no2 this).trans KW.toks
   exact nR _ _ ⟨⟨_,rfl⟩,kf,X.kw B.z kf⟩
theorem bT.in1 {d:Nat}(r:bT A (d+1)):bT A.in1 d:=
 ⟨r.handled,by have:=r.depth;show A.depth+d<990;exact Nat.le_of_lt this,by have:=r.units;show A.units+1+8*d+400<9900;lia⟩
theorem bT.less {d e:Nat}(r:bT A d)(h:e<=d):bT A e:=
 ⟨r.handled,by have:=r.depth;lia,by have:=r.units;lia⟩
theorem bT.dp {d:Nat}(r:bT A d)(h:990- d<=n):A.depth<n:=by have:=r.depth;omega
theorem aHp (K:AW prog w Sta C N mN){name:Str}{f:Addr}(F:Mth Sta mN name f)(hS:Sta h)(X:Acc C h c dc ps):h.OwnSpecial c C f "list" name:=by
 obtain ⟨cr,hC⟩:=(K.cls _ hS).obj;obtain ⟨of,fd,hfc,hfd,hfo⟩:=F.fn;obtain ⟨vs,⟨n,ho⟩,_⟩:=X.seq;obtain ⟨y,hy⟩:=F.lk;exact ⟨_,of,cr.nm,cr.q,N,cr.bs,[.type "list",.type "object"],true,cr.sn,cr.sub,false,cr.col,cr.dd,cr.k0,cr.k1,cr.k2,cr.k3,cr.k5,"list.__new__",mN,y,ho,rfl,hC,(K.cls _ hS).ns,F.at',hfo _ hS,hfc,aU,hy⟩
theorem aMj (W:FW prog w Sta Z mg mb)(K:AW prog w Sta C N mN){f:Addr}(F:Mth Sta mN "__len__" f)(hf:xE prog w Sta Z C f)(hA:bT A 25)(B:Bs Sta Z [c,dc] hb s.heap)(X:Acc C s.heap c dc ps)(hs:cN ps):
  wpAny (model prog w) A (call (.builtin "len") [.ref c]) (fun v s'=>(∃ t,v= .int (eW ps) t)/\KW [] Z s s'/\Acc C s'.heap c dc ps) E s:=by
 have O:=aHp K F (B.st W.sz) X;have hA':=bT.in1 (d:=24) hA;have hbd:=fP ps 1000 hs.2;have h9:(ps.length:Int)*1000<=900*1000:=by have:=hs.1;lia
 obtain ⟨hp,g,d,t,os⟩:=s;refine len_own O (wpAny_mono (hf c dc _ _ _ hb ps hA'.handled (by have:=hA'.depth;lia) B X hs) (fun r s' h=> ?_) fun _ _ e=>e);obtain ⟨⟨u,rfl⟩,k,X'⟩:=h;exact ⟨_,u,rfl,hbd.1,by lia,⟨_,rfl⟩,k.trans KW.toks,X'⟩
theorem aKi (W:FW prog w Sta Z mg mb)(K:AW prog w Sta C N mN){f:Addr}(F:Mth Sta mN "__str__" f)(hf:aA3 prog w Sta Z C f)(hA:bT A 25)(B:Bs Sta Z [c,dc] hb s.heap)(X:Acc C s.heap c dc ps)(hs:cN ps):
  wpAny (model prog w) A (call (.type "str") [.ref c]) (fun v s'=>(∃ t,v= .str (bC ps) t)/\KW [] Z s s'/\Acc C s'.heap c dc ps) E s:=by
 have O:=aHp K F (B.st W.sz) X;have hA2:bT A.in1.in1 22:=bT.in1 (bT.in1 (d:=23) (hA.less (by exact Nat.le_add_left _ _)));refine callType_codes (T:="str") (Bi:=Builtin.«object.__init__») (Q₁:=fun r s'1=>(∃ t,r= .str (bC ps) t)/\KW [] Z s s'1/\Acc C s'1.heap c dc ps) PySem.F.called_str (PySem.F.typeCall_str_1 _) PySem.F.entry_object_init ?_ ?_
 ·refine codeAny_of_tree ?_;show wpAny _ A.in1.in1 (do checkBuiltinCall "str.__new__" ⟨[.type "str",.ref c],[]⟩; again (.builtin "str.__new__" ⟨[.type "str",.ref c],[]⟩)) _ _ s;refine wpAny_bind (wpAny_of_eq (PySem.F.newCall_str_1 _) (wpAny_pure ⟨plainId_quiet (by decide+kernel) _,codeAny_builtin PySem.F.entry_str_new ?_⟩));rw [Around.under_plainId (by decide+kernel) _];rw [str_new_tree];refine wpAny_bind (wpAny_pure ?_);refine wpAny_bind (wpAny_of_eq isSubtype_str_str ?_);refine wpAny_bind ?_;unfold PySem.Builtin.Str.strOf;rw [show PySem.Builtin.Str.isExactStr (.ref c)=false from rfl];refine wpAny_bind (m:=cRoomFor _ _) (wpAny_cRoomFor (by have:=hA2.units;unfold cLine;exact bsl this) ?_);obtain ⟨hp,g,d,t,os⟩:=s;refine wpAny_bind (m:=callSpecial? (.ref c) (ofString "__str__")) (wpAny_callSpecial?_own O (wpAny_mono (hf c dc _ _ _ hb ps hA2.handled (by have:=hA2.depth;lia) B X hs) (fun r s' h=> ?_) fun _ _ e=>e));obtain ⟨⟨u,rfl⟩,k,X'⟩:=h;exact wpAny_pure (wpAny_pure ⟨⟨u,rfl⟩,k,X'⟩)
 ·rintro obj s'1 ⟨⟨u,rfl⟩,k,X'⟩
  exact ⟨typeIs_str _ _ _,PySem.F.args_object_init_2 _ _,object_init_meets PySem.F.called_str.init.lookup PySem.F.called_str.made (by decide) prog w A.in1 _ s'1 ⟨typeIs_str _ _ _,rfl,⟨u,rfl⟩,k,X'⟩⟩
theorem qO:typeLookup (.type "list") "__bool__"=pure none:=by rw [typeLookup_type,builtinLookup_eq_fast]; kernel_rfl
theorem aHq (W:FW prog w Sta Z mg mb)(K:AW prog w Sta C N mN){f:Addr}(F:Mth Sta mN "__len__" f)(hf:xE prog w Sta Z C f)(hA:bT A 26)(B:Bs Sta Z [c,dc] hb s.heap)(X:Acc C s.heap c dc ps)(hs:cN ps):
  wpAny (model prog w) A (truthy (.ref c)) (fun v s'=>v=(eW ps !=0)/\KW [] Z s s'/\Acc C s'.heap c dc ps) E s:=by
 have O:=aHp K F (B.st W.sz) X;have hA':=bT.in1 (d:=25) hA;have hbd:=fP ps 1000 hs.2;have h9:(ps.length:Int)*1000<=900*1000:=by have:=hs.1;lia
 obtain ⟨vs,hl,hp⟩:=id X.seq;unfold truthy;refine wpAny_bind ?_;unfold callSpecial?;refine wpAny_bind (eQ (K.cls _ (B.st W.sz)) hl K.bo qO ?_);refine wpAny_pure ?_;obtain ⟨hp,g,d,t,os⟩:=s;refine wpAny_bind (wpAny_specialOf_own O ?_);show wpAny _ _ (if (some (Value.ref f)).isNone=true then _ else _) _ _ _;rw [if_neg (by simp)];refine wpAny_bind (wpAny_runValue (codeAny_builtin entry_len ?_));rw [Around.under_plainId plain_len _];unfold Builtin.«len»;refine wpAny_bind (m:=oneArg "len" _) (wpAny_pure ?_);refine wpAny_bind (m:=callSpecial? (.ref c) (ofString "__len__")) (wpAny_callSpecial?_own O (wpAny_mono (hf c dc _ _ _ hb ps hA'.handled (by have:=hA'.depth;lia) B X hs) (fun r s' h=> ?_) fun _ _ e=>e));obtain ⟨⟨u,rfl⟩,k,X'⟩:=h;refine wpAny_bind (wpAny_holding (wpAny_pure ?_));refine wpAny_bind (wpAny_letGo ?_);show wpAny _ _ (if eW ps<0 then _ else _) _ _ _;rw [if_neg (by exact Int.not_lt.mpr hbd.1)];show wpAny _ _ (if eW ps>=2^63 then _ else _) _ _ _;rw [if_neg (by lia)];refine wpAny_bind (wpAny_mkInt (wpAny_pure ?_));exact wpAny_pure ⟨rfl,k.trans KW.toks,X'⟩
theorem aKj {value slice:Expr}{vs:Array Value}(K:AW prog w Sta C N mN)
  (h:wpAny (model prog w) A (eval value env) (fun o s'1=>wpAny (model prog w) A (eval slice env) (fun i s'2=>o= .ref c/\Sta s'2.heap/\fO s'2.heap C c dc vs/\wpAny (model prog w) A (getItem o i) Q E s'2) E s'1) E s):
  wpAny (model prog w) A (eval (.Subscript value slice pos) env) Q E s:=by
 rw [eval_Subscript];refine wpAny_bind (wpAny_mono h (fun o s'1 h'1=>wpAny_bind (wpAny_holding (wpAny_mono h'1 (fun i s'2 h'2=>wpAny_bind (wpAny_standAt ?_)) fun _ _ x=>x))) fun _ _ x=>x);obtain ⟨rfl,hS,hl,hg⟩:=h'2;refine wpAny_bind ?_;rw [getitemInPython_of_ne (o:= .ref c) (by intro e;exact nomatch e)];refine wpAny_bind (eQ (K.cls _ hS) hl K.gi slot_list_getitem.lookup (wpAny_pure ?_));obtain ⟨ops,ho⟩:=aFo slice (.ref c) i;rw [ho];exact wpAny_bind (wpAny_operating (wpAny_mono hg (fun r s3 h'3=>wpAny_bind (wpAny_letTemporaryGo (wpAny_pure h'3))) fun _ _ x=>x))
theorem sO {k:Int}(h0:0<=k)(h1:k<=n):sliceBounds (some k) none none n=(k,(n:Int),1):=by
 unfold sliceBounds;simp only [Option.getD_none];rw [if_pos (by decide),if_neg (by exact Int.not_lt.mpr h0)];simp only [show ((1:Int)>0)=True from by simp,if_true]
 congr 1
 lia
theorem bB.drop {vs:List Value}(x:bB h vs ps)(j:Nat):bB h (vs.drop j) (ps.drop j):=
 ⟨by simp [x.1],fun i v p h1 h2=>x.2 (j+i) v p (by rwa [List.getElem?_drop] at h1) (by rwa [List.getElem?_drop] at h2)⟩
theorem bB.take {vs:List Value}(x:bB h vs ps)(j:Nat):bB h (vs.take j) (ps.take j):=by
 refine ⟨by simp [x.1],fun i v p h1 h2=> ?_⟩
 by_cases q:i<j
 ·rw [List.getElem?_take_of_lt q] at h1 h2;exact x.2 i v p h1 h2
 ·rw [List.getElem?_take,if_neg q] at h1;exact no1 h1
theorem AX.slice {X:AX}{k:Int}(O:AX.Ok X)(J:AX.At X s mm ps)(kx:knd X.fd x=some .local)(mx:mm x=some (.int k t))(d:(x==("__debug__":Str))=false)
  (h:∀sl h',AX.At X {s with heap:=h'} mm ps->(∀ b o,s.heap.get? b=some o->h'.get? b=some o)->h'.IsSliceOf sl (.int k t) .none .none->Q (.ref sl) {s with heap:=h'}):wpAny (model X.prog X.w) X.A (eval (.Slice (some (.Name x p2)) none none p3) X.env) Q E s:=by
 refine wpAny_Slice ?_;rw [evalPart_some,evalPart_none];exact AX.name O J kx mx d (wpAny_pure (wpAny_pure (h _ _ (J.keep (t:=s.toks) fun _ _ e=>Heap.get?_push_of_some _ e) (fun _ _ e=>Heap.get?_push_of_some _ e) (Heap.IsSliceOf.new ..))))
theorem AX.from {X:AX}(O:AX.Ok X)(J:AX.At X s mm ps)(hj:j<=ps.length)(hn:ps.length<=900)(ki:knd X.fd "i"=some .local)(mi:mm "i"=some (.int j t))
  (h:∀R us h',AX.At X {s with heap:=h'} mm ps->s.heap.get? R=none->h'.PlainList R us->bB h' us.toList (ps.drop j)->Q (.ref R) {s with heap:=h'}):wpAny (model X.prog X.w) X.A (eval (.Subscript (.Name "self" p1) (.Slice (some (.Name "i" p2)) none none p3) p4) X.env) Q E s:=by
 obtain ⟨vs,hl0,hps⟩:=J.ac.seq;have hsz:vs.size=ps.length:=hps.1;refine aKj (c:=X.c) (dc:=X.dc) (vs:=vs) O.K (AX.me O J (AX.slice O J ki mi rfl fun sl h'1 J1 k1 hsl=>⟨rfl,J1.st O,hl0.at fun o e=>k1 _ o e,?_⟩));refine wR (s:={s with heap:=h'1}) (O.K.cls _ (J1.st O)) O.K.gi (hl0.at fun o e=>k1 _ o e) hsl (.int _ _) .none .none (by simp) ?_ (hsz▸Nat.le_trans hn (by decide));rw [show slicePick vs (some (j:Int)) none none=(vs.toList.drop j).toArray from slicePick_from vs j (hsz▸hj)];have k2:∀b o,h'1.get? b=some o->(h'1.push {cls:= .type "list",data:= .seq (vs.toList.drop j).toArray}).get? b=some o:=fun _ _ e=>Heap.get?_push_of_some _ e
 refine h _ _ _ (AX.At.keep (s:={s with heap:=h'1}) J1 k2) ?_ ⟨0,Heap.get?_push_size _ rfl⟩ ((hps.drop j).keeps fun T vals h=>by obtain ⟨o,e,r⟩:=h;exact ⟨o,k2 _ _ (k1 _ _ e),r⟩)
 rcases e:s.heap.get? h'1.objs.size with _ | o
 ·rfl
 ·exact absurd (Heap.lt_size (k1 _ _ e)) (Nat.lt_irrefl _)
theorem AX.put {X:AX}{Q:Unit->Shared->Prop}{vs us:Array Value}{sl:Addr}{vl:Value}{lo:Option Int}(O:AX.Ok X)(hW:X.c∈X.W)(J:AX.At X s mm ps)(hl:fO s.heap X.C X.c X.dc vs)(hn:vs.size<=900)(hL:s.heap.PlainList L us)(hn2:us.size<=900)(hLc:L≠X.c)(hs:s.heap.IsSliceOf sl vl .none .none)(pl:IsPart vl lo)
  {ws:List Value} (he:(vs.extract 0 (sliceBounds lo none none vs.size).1.toNat++us++vs.extract (max (sliceBounds lo none none vs.size).1 (sliceBounds lo none none vs.size).2.1).toNat vs.size).toList=ws) (hp:bB s.heap ws qs)
  (h:∀h',AX.At X {s with heap:=h'} mm qs->Heap.SameBut X.c s.heap h'->(∀ T vals,s.heap.IsTuple T vals->h'.IsTuple T vals)->Q () {s with heap:=h'}):wpAny (model X.prog X.w) X.A (setItem (.ref X.c) (.ref sl) (.ref L)) Q E s:=
 wT (O.K.cls _ (J.st O)) O.K.si hl hL hs pl .none hLc (fun h' hl' hs'=>h h' (AX.At.chg (t:=s.toks) J O hW hl' hs' fun k=>he.symm▸hp.keeps k) hs' fun _ _ hT=>KW.tup (s':={s with heap:=h'}) (KW.change (tk:=s.toks) (.head _) (J.B O).z hs') J.ac.nt (J.B O).z hT) (Nat.le_trans hn (by decide)) (Nat.le_trans hn2 (by decide))
theorem aD8 {vs:Array Value}(hj:j<=vs.size):(vs.extract 0 (sliceBounds (some (j:Int)) none none vs.size).1.toNat++ #[]++vs.extract (max (sliceBounds (some (j:Int)) none none vs.size).1 (sliceBounds (some (j:Int)) none none vs.size).2.1).toNat vs.size).toList=vs.toList.take j:=by
 rw [sO (Int.natCast_nonneg _) (Int.ofNat_le.mpr hj)];have h2:(max (j:Int) (vs.size:Int)).toNat=vs.size:=by lia
 show (vs.extract 0 (j:Int).toNat++ #[]++vs.extract (max (j:Int) (vs.size:Int)).toNat vs.size).toList=_;rw [h2,Int.toNat_natCast];simp
theorem sP (S:SZ Sta Z)(K:AW prog w Sta C N mN){f:Addr}(D:Df Sta f fd){l1 l2:List Stmt}
  (hbody:fd.body= .stmts (.Assign [.Name "popped" p0] (.Subscript (.Name "self" p1) (.Slice (some (.Name "i" p2)) none none p3) p4) p5::l1))
  (e1:l1= .Assign [.Subscript (.Name "self" q0) (.Slice (some (.Name "i" q1)) none none q2) q3] (.List [] q4) q5::l2) (e2:l2=[.Return (some (.Name "popped" r0)) r1])
  (hself:knd fd "self"=some .local) (hi:knd fd "i"=some .local) (hpop:knd fd "popped"=some .local)
  (hbind:∀(s:Shared)(x y:Value),Sta s.heap->BindsTo s fd ⟨[x,y],[]⟩ [(ofString "self",x),(ofString "i",y)])
  (A:Around) (E:Value->Shared->Prop) (s:Shared) (hb:Heap) (ps:List (Str × Str)) (j:Nat) (t:Tok) (hj:j<=ps.length) (hA:A.depth<980) (B:Bs Sta Z [c,dc] hb s.heap) (X:Acc C s.heap c dc ps) (hn:ps.length<=900):
  wpAny (model prog w) A (call (.ref f) [.ref c,.int j t]) (fun v s'=>(∃ R us,v= .ref R/\s'.heap.PlainList R us/\bB s'.heap us.toList (ps.drop j)/\s.heap.get? R=none)/\KW [c,dc] Z s s'/\Acc C s'.heap c dc (ps.take j)) E s:=by
 refine wpAny_call (nB S K D hself [c,dc] (fun _ h=>h) hbody (hbind _ _ _ (B.st S)) (aIx hself hi) rfl (Nat.lt_trans hA (by decide)) B X (T:=fun X=>X.c∈X.W) (fun _ _ _=> .head _) fun X s'0 bd K' E' hk hc O J k0 hq=>wpAt_of_wpAny ?_);refine cK fun R n _=>wpAny_Assign_Name (AX.from O J hj hn (hk hi) rfl fun P us h'1 J1 hP0 hP hus=>AX.store O J1 (hk hpop) (by decide) fun s'2 hs2 J2=>n _ ?_)
 have hPl:P≠X.env.locals:=fun q=>by obtain ⟨o,es,ep,e,_⟩:=J.ns;rw [<- q,hP0] at e;exact no1 e
 have hPc:P≠X.c:=fun q=>by obtain ⟨_,⟨n,e⟩,_⟩:=J.ac.seq;rw [<- q,hP0] at e;exact no1 e
 have hP2:s'2.heap.PlainList P us:=hP.at fun o e=>hs2.extBut P o hPl e
 have hus2:bB s'2.heap us.toList (ps.drop j):=hus.keeps fun T vals h=>gY J1.ns hs2 h
 have hP0':X.s0.heap.get? P=none:=by
  rcases e:X.s0.heap.get? P with _ | o
  ·rfl
  ·exact no1 (hP0.symm.trans (k0 _ _ e))
 obtain ⟨vs,hl0,hps⟩:=J2.ac.seq;have hsz:vs.size=ps.length:=hps.1;have k3:∀b o,s'2.heap.get? b=some o->(s'2.heap.push {cls:= .type "list",data:= .seq ([]:List Value).toArray}).get? b=some o:=fun _ _ e=>Heap.get?_push_of_some _ e
 have J3:AX.At X {s'2 with heap:=s'2.heap.push {cls:= .type "list",data:= .seq ([]:List Value).toArray}} _ ps:=J2.keep (t:=s'2.toks) k3;have hLc:s'2.heap.objs.size≠X.c:=fun q=>J2.ac.fresh (q▸ .head _)
 refine eU e1 fun R1 n1 _=>wpAny_Assign_Subscript (wpAny_List (wpAny_items_nil ⟨Nat.zero_le _,AX.me O J3 (AX.slice O J3 (hk hi) rfl rfl fun sl h'4 J4 k4 hsl=> ?_)⟩)) (kJ ..)
 have k5:=fun b o e=>k4 b o (k3 b o e)
 refine AX.put (s:={s'2 with heap:=h'4}) (us:= #[]) (qs:=ps.take j) O hc J4 (hl0.at fun o e=>k5 _ o e) (hsz▸hn) ⟨0,k4 _ _ (Heap.get?_push_size _ rfl)⟩ (Nat.zero_le _) hLc hsl (.int _ _) (aD8 (hsz▸hj)) ((hps.take j).keeps fun T vals h=>by obtain ⟨o,e,r⟩:=h;exact ⟨o,k5 _ _ e,r⟩) fun h'5 J5 hs5 kt=>n1 _ ?_
 refine eU e2 fun R2 _ r2=>wpAny_Return_some (AX.name (s:={s'2 with heap:=h'5}) O J5 (hk hpop) (v:= .ref P) (if_pos rfl) rfl (r2 _ _ nofun (hq _ _ _ _ J5 fun w x g=>⟨⟨P,us,rfl,(hP2.at fun o e=>hs5.extBut _ o hPc (k5 _ o e)),hus2.keeps fun T vals h=>kt T vals (by obtain ⟨o,e,r⟩:=h;exact ⟨o,k5 _ _ e,r⟩),g _ hP0'⟩,w,x⟩).1))
structure aMk (C:Addr)(h:Heap)(c dc:Addr)(ps:List (Str × Str)):Prop where
 seq:∃vs,fO h C c dc vs/\bB h vs.toList ps
 dict:∃mA,h.Ns1 dc mA/\∀n:Str,n≠ofString "_initial_size"->mA n=none
 ne:dc≠c
theorem Acc.acc0 (X:Acc C h c dc ps):aMk C h c dc ps:=⟨X.seq,by obtain ⟨_,hd⟩:=X.dict;exact ⟨_,hd,fun _ h=>if_neg h⟩,X.ne⟩
theorem aA4 (S:SZ Sta Z)(K:AW prog w Sta C N mN){Q:Unit->Shared->Prop}(B:Bs Sta Z [c,dc] hb s.heap)(X:aMk C s.heap c dc ps)
  (h:∀s',KW [c,dc] Z s s'->Acc C s'.heap c dc ps->(∀ b o,b≠c->b≠dc->s.heap.get? b=some o->s'.heap.get? b=some o)->Q () s'):wpAny (model prog w) A (setAttr (.ref c) "_initial_size" (.int 0 t)) Q E s:=by
 obtain ⟨cr,hC⟩:=(K.cls _ (B.st S)).obj;have hns:=(K.cls _ (B.st S)).ns;obtain ⟨vs,⟨n,ho⟩,hps⟩:=X.seq;obtain ⟨mA,hd,hA⟩:=X.dict;have hcC:c≠C:=fun e=>by rw [e,hC] at ho;cases ho
 have I:s.heap.Inst c C mA:=⟨_,ho,rfl,(fun _ e=>nomatch e),.inr ⟨dc,rfl,X.ne,hd⟩⟩;obtain ⟨hp,g,d,tk,os⟩:=s;refine store_attr wO hC hns K.sa K.isz aFx hcC I (fun h' tk' hI' hk ho'=> ?_) (ns:=[ofString "_initial_size"]) (fun y hy=> ?_) (by rw [sizeLine_eq]; simp)
 ·obtain ⟨o'1,ho1,hc'1,hd'1,hsl1,hdi1⟩:=ho' _ ho;have hdi:=hdi1 dc rfl;have e1:o'1={cls:= .ref C,dict:=some dc,data:= .seq vs n}:=by
   obtain ⟨a,b,e,f⟩:=o'1;simp only at hc'1 hd'1 hsl1 hdi;subst hc'1 hd'1 hsl1 hdi;rfl
  subst e1;have hkk:∀b o,b≠c->b≠dc->hp.get? b=some o->h'.get? b=some o:=fun b o h1 h2 e=>hk b o h1 (fun o'0 dx e1 e2=>by
   have e1:hp.get? c=some o'0:=e1;have ho:hp.get? c=_:=ho;rw [ho] at e1;(replace e1:=Option.some.inj e1;subst e1); (replace e2:=Option.some.inj e2;subst e2); exact h2) e
  have w1:KW [c,dc] Z ⟨hp,g,d,tk,os⟩ ⟨h',g,d,tk',os⟩:=KW.out (s:=⟨hp,g,d,tk,os⟩) B.z.out fun b o hb' e=>hkk b o (fun q=>hb' (by simp [q])) (fun q=>hb' (by simp [q])) e
  have hnt:NT hp [c,dc]:=by
   intro y hy
   rcases List.mem_cons.mp hy with rfl | hy
   ·exact ⟨_,ho,.inl (fun e=>nomatch e)⟩
   ·rw [List.mem_singleton.mp hy];obtain ⟨o,es,ep,h1,h2,_⟩:=hd;exact ⟨o,h1,.inr fun _ _ e=>by rw [h2] at e;exact nomatch e⟩
  refine h _ w1 ⟨⟨vs,⟨n,ho1⟩,hps.keeps fun T vals h=>w1.tup hnt B.z h⟩,⟨t,?_⟩,X.ne⟩ hkk;obtain ⟨o2,ho2,_,_,hd2⟩:=hI';rw [ho1] at ho2;(replace ho2:=Option.some.inj ho2;subst ho2)
  rcases hd2 with ⟨hn,_⟩ | ⟨d2,hd2,_,hns2⟩
  ·exact no2 hn
  ·(replace hd2:=Option.some.inj hd2;subst hd2)
   have:(fun y:Str=>if y=ofString "_initial_size" then some (Value.int 0 t) else mA y)=fun y=>if y=ofString "_initial_size" then some (.int 0 t) else none:=by
    funext y
    by_cases e:y=ofString "_initial_size"
    ·rw [if_pos e,if_pos e]
    ·rw [if_neg e,if_neg e]; exact hA y e
   rw [<- this];exact hns2
 ·refine List.mem_singleton.mpr ?_;refine Decidable.byContradiction fun q=>hy (hA y q)
theorem xG (n:Nat):sliceBounds none none none n=(0,(n:Int),1):=rfl
theorem aHr {vs us:Array Value}:(vs.extract 0 (sliceBounds none none none vs.size).1.toNat++us++vs.extract (max (sliceBounds none none none vs.size).1 (sliceBounds none none none vs.size).2.1).toNat vs.size).toList=us.toList:=by
 rw [xG];have h2:(max (0:Int) (vs.size:Int)).toNat=vs.size:=by exact Nat.add_zero _
 show (vs.extract 0 (0:Int).toNat++us++vs.extract (max (0:Int) (vs.size:Int)).toNat vs.size).toList=_;rw [h2];simp
theorem AX.reset {X:AX}{Q:Flow->Shared->Prop}{k1:Nat}{l:List Stmt}{R:Addr}{us:Array Value}(O:AX.Ok X)(hW:X.W=[X.c,X.dc])(J:AX.At X s mm ps)
  (e1:l=[.Assign [.Subscript (.Name "self" q0) (.Slice none none none q1) q2] (.Name "startval" q3) q4,.Assign [.Attribute (.Name "self" r0) "_initial_size" r1] (.Constant (.int 0) k1 r2) r3])
  (ks:knd X.fd "startval"=some .local) (m2:mm "startval"=some (.ref R)) (hn:ps.length<=900) (hR:s.heap.PlainList R us) (hqs:bB s.heap us.toList qs) (hn2:qs.length<=900) (hRc:R≠X.c)
  (h:∀s' mm',AX.At X s' mm' qs->Q .next s'):wpAny (model X.prog X.w) X.A (execs l X.env) Q E s:=by
 obtain ⟨vs,hl0,hps⟩:=J.ac.seq;have hsz:vs.size=ps.length:=hps.1;have hsz2:us.size=qs.length:=hqs.1;have k1:∀b o,s.heap.get? b=some o->(s.heap.push {cls:= .type "slice",data:= .fields #[.none,.none,.none]}).get? b=some o:=fun b o e=>Heap.get?_push_of_some _ e
 have J1:AX.At X {s with heap:=s.heap.push {cls:= .type "slice",data:= .fields #[.none,.none,.none]}} mm ps:=J.keep (t:=s.toks) k1;refine eU e1 fun R1 n1 _=>wpAny_Assign_Subscript (AX.name O J ks m2 rfl (AX.me O J (wpAny_Slice ?_))) (kJ ..)
 rw [evalPart_none];refine wpAny_pure (wpAny_pure (wpAny_pure ?_));refine AX.put (s:={s with heap:=s.heap.push {cls:= .type "slice",data:= .fields #[.none,.none,.none]}}) (us:=us) (qs:=qs) O (hW▸ .head _) J1 (hl0.at fun o e=>k1 _ o e) (hsz▸hn) (hR.at fun o e=>k1 _ o e) (hsz2▸hn2) hRc (Heap.IsSliceOf.new ..) .none aHr (hqs.keeps fun T vals h=>by obtain ⟨o,e,r⟩:=h;exact ⟨o,k1 _ _ e,r⟩) fun h'2 J2 _ _=>n1 _ ?_
 refine cK fun R2 n2 _=>plainObj_wpAny_Assign_Attribute (wpAny_Constant_int (AX.me O (AX.At.tok (s:={s with heap:=h'2}) J2) ?_))
 have J3:AX.At X {s with heap:=h'2,toks:=s.toks+1} mm qs:=AX.At.tok (s:={s with heap:=h'2}) J2;exact aA4 (hb:=X.hb) (ps:=qs) O.S O.K (J3.B O) J3.ac.acc0 fun s' k x _=>n2 _ (wpAny_execs_nil (h _ _ ⟨Ns.kw J3.ns k O.LF O.LZ,x,J3.w.trans (hW▸k),J3.me⟩))
theorem xH (S:SZ Sta Z)(K:AW prog w Sta C N mN){f:Addr}(D:Df Sta f fd){k0 k1:Nat}{l:List Stmt}
  (hbody:fd.body= .stmts (.If (.Compare (.Name "startval" p0) [.Is] [.Constant .none k0 p1] p2) [.Assign [.Name "startval" p3] (.List [] p4) p5] [] p6::l))
  (e1:l=[.Assign [.Subscript (.Name "self" q0) (.Slice none none none q1) q2] (.Name "startval" q3) q4,.Assign [.Attribute (.Name "self" r0) "_initial_size" r1] (.Constant (.int 0) k1 r2) r3])
  (hself:knd fd "self"=some .local) (hst:knd fd "startval"=some .local) (hbind:∀(s:Shared)(x y:Value),Sta s.heap->BindsTo s fd ⟨[x,y],[]⟩ [(ofString "self",x),(ofString "startval",y)])
  (A:Around) (E:Value->Shared->Prop) (s:Shared) (hb:Heap) (R:Addr) (us:Array Value) (ps qs:List (Str × Str)) (hA:A.depth<980) (B:Bs Sta Z [c,dc] hb s.heap) (X:Acc C s.heap c dc ps) (hn:ps.length<=900) (hR:s.heap.PlainList R us) (hqs:bB s.heap us.toList qs) (hn2:qs.length<=900) (hRc:R≠c):
  wpAny (model prog w) A (call (.ref f) [.ref c,.ref R]) (fun v s'=>v= .none/\KW [c,dc] Z s s'/\Acc C s'.heap c dc qs) E s:=by
 refine wpAny_call (nB S K D hself [c,dc] (fun _ h=>h) hbody (hbind _ _ _ (B.st S)) (aIx hself hst) rfl (Nat.lt_trans hA (by decide)) B X (T:=fun X=>X.W=[X.c,X.dc]/\R≠X.c/\X.s0.heap.PlainList R us/\bB X.s0.heap us.toList qs) (fun _ _ _=>⟨rfl,hRc,hR,hqs⟩) fun X s'0 bd K' E' hk T O J k0 hq=>wpAt_of_wpAny ?_);refine cK fun R0 n _=>wpAny_If (wpAny_isTrue_Compare1 (AX.name O J (hk hst) (v:= .ref R) rfl rfl (wpAny_Constant_none (wpAny_is_other (by rfl) (fun e=>nomatch e) (wpAny_truthy_bool (wpAny_execs_nil (n _ ?_)))))) (by rfl))
 exact AX.reset O T.1 J e1 (hk hst) rfl hn (T.2.2.1.at fun o e=>k0 _ o e) (T.2.2.2.keeps fun T vals h=>by obtain ⟨o,e,r⟩:=h;exact ⟨o,k0 _ _ e,r⟩) hn2 T.2.1 fun s' mm' J'=>(hq _ _ _ _ J' fun w x _=>⟨rfl,w,x⟩).2 rfl
theorem xI (S:SZ Sta Z)(K:AW prog w Sta C N mN){f:Addr}(D:Df Sta f fd){k0 k1:Nat}{l:List Stmt}
  (hbody:fd.body= .stmts (.If (.Compare (.Name "startval" p0) [.Is] [.Constant .none k0 p1] p2) [.Assign [.Name "startval" p3] (.List [] p4) p5] [] p6::l))
  (e1:l=[.Assign [.Subscript (.Name "self" q0) (.Slice none none none q1) q2] (.Name "startval" q3) q4,.Assign [.Attribute (.Name "self" r0) "_initial_size" r1] (.Constant (.int 0) k1 r2) r3])
  (hself:knd fd "self"=some .local) (hst:knd fd "startval"=some .local) (hbind:∀(s:Shared)(x:Value),Sta s.heap->BindsTo s fd ⟨[x],[]⟩ [(ofString "self",x),(ofString "startval",.none)])
  (A:Around) (E:Value->Shared->Prop) (s:Shared) (hb:Heap) (ps:List (Str × Str)) (hA:A.depth<980) (B:Bs Sta Z [c,dc] hb s.heap) (X:Acc C s.heap c dc ps) (hn:ps.length<=900):
  wpAny (model prog w) A (call (.ref f) [.ref c]) (fun v s'=>v= .none/\KW [c,dc] Z s s'/\Acc C s'.heap c dc []) E s:=by
 refine wpAny_call (nB S K D hself [c,dc] (fun _ h=>h) hbody (hbind _ _ (B.st S)) (aIx hself hst) rfl (Nat.lt_trans hA (by decide)) B X (T:=fun X=>X.W=[X.c,X.dc]) (fun _ _ _=>rfl) fun X s'0 bd K' E' hk T O J k0 hq=>wpAt_of_wpAny ?_);have k1:∀b o,s'0.heap.get? b=some o->(s'0.heap.push {cls:= .type "list",data:= .seq ([]:List Value).toArray}).get? b=some o:=fun b o e=>Heap.get?_push_of_some _ e
 have J1:AX.At X {s'0 with heap:=s'0.heap.push {cls:= .type "list",data:= .seq ([]:List Value).toArray}} _ ps:=J.keep (t:=s'0.toks) k1;have hRc:s'0.heap.objs.size≠X.c:=fun q=>J.ac.fresh (q▸ .head _)
 have hRl:s'0.heap.objs.size≠X.env.locals:=fun q=>by obtain ⟨o,es,ep,e,_⟩:=J.ns;exact absurd (Heap.lt_size e) (q▸Nat.lt_irrefl _)
 refine cK fun R0 n _=>wpAny_If (wpAny_isTrue_Compare1 (AX.name O J (hk hst) (v:= .none) rfl rfl (wpAny_Constant_none (wpAny_is_self (by rfl) (wpAny_truthy_bool (cK fun R1 n1 _=>wpAny_Assign_Name (wpAny_List (wpAny_items_nil ⟨Nat.zero_le _,AX.store O J1 (hk hst) (by decide) fun s'2 hs2 J2=>n1 _ (wpAny_execs_nil (n _ ?_))⟩))))))) (by rfl))
 exact AX.reset (R:=s'0.heap.objs.size) (us:= #[]) (qs:=[]) O T J2 e1 (hk hst) (if_pos rfl) hn (Heap.PlainList.at ⟨0,Heap.get?_push_size _ rfl⟩ fun o e=>hs2.extBut _ o hRl e) ⟨rfl,fun _ _ _ h=>nomatch h⟩ (Nat.zero_le _) hRc fun s' mm' J'=>(hq _ _ _ _ J' fun w x _=>⟨rfl,w,x⟩).2 rfl
theorem lD {f:Str}{T:String}(hkf:env.scope.kind= .function)(hf:env.kindOf f=some .globalImplicit)(hd:(f==("__debug__":Str))=false)
  (hg:s.heap.Ns env.globals mg) (hb:s.heap.Ns env.builtins mb) (h1:mg f=none) (h2:mb f=some (.type T)) (hstar:(backTo q (starEach args env)).any (·.1)=false)
  (h:wpAny (model prog w) A (spliced (backTo q (starEach args env))) (fun vs s'=>wpAny (model prog w) A (call (.type T) vs) Q E s') E s):
  wpAny (model prog w) A (eval (.Call (.Name f p) args [] q) env) Q E s:=by
 show wpAny _ A (eval (.Name f p) env >>= fun g=>callWith q g [] (backTo q (starEach args env)) []) _ _ s;refine wpAny_bind (Name_function_global hkf hf (loadGlobal_builtin (env:=env) hg h1 hb h2 ?_) hd);exact PySem.callWith_type hstar (aF hstar h)
theorem aD9 {e2:Expr}(h:wpAny (model prog w) A (eval e env) (fun y s'1=>y= .bool true/\wpAny (model prog w) A (eval e2 env) Q E s'1) E s):
  wpAny (model prog w) A (eval (.BoolOp .And [e,e2] pos) env) Q E s:=by
 show wpAny _ A (do
  let v <-eval e env
  standAt pos
  let t <-holding [v] (truthy v)
  match BoolOp.And,t with
  | .And,false | .Or,true=>pure v
  | _,_=>boolOp pos .And (evalEach [e2] env)) _ _ s
 refine wpAny_bind (wpAny_mono h (fun y s'1 h'1=> ?_) fun _ _ x=>x);obtain ⟨rfl,h'1⟩:=h'1;exact wpAny_bind (wpAny_standAt (wpAny_bind (wpAny_holding (wpAny_truthy_bool h'1))))
theorem aA5 {e2:Expr}(h:wpAny (model prog w) A (eval e env) (fun y s'1=>y= .bool false/\wpAny (model prog w) A (eval e2 env) Q E s'1) E s):
  wpAny (model prog w) A (eval (.BoolOp .Or [e,e2] pos) env) Q E s:=by
 show wpAny _ A (do
  let v <-eval e env
  standAt pos
  let t <-holding [v] (truthy v)
  match BoolOp.Or,t with
  | .And,false | .Or,true=>pure v
  | _,_=>boolOp pos .Or (evalEach [e2] env)) _ _ s
 refine wpAny_bind (wpAny_mono h (fun y s'1 h'1=> ?_) fun _ _ x=>x);obtain ⟨rfl,h'1⟩:=h'1;exact wpAny_bind (wpAny_standAt (wpAny_bind (wpAny_holding (wpAny_truthy_bool h'1))))
theorem aEa (W:FW prog w Sta Z mg mb)(K:AW prog w Sta C N mN){fl fs:Addr}(Fl:Mth Sta mN "__len__" fl)(hfl:xE prog w Sta Z C fl)(Fs:Mth Sta mN "__str__" fs)(hfs:aA3 prog w Sta Z C fs){f:Addr}(D:Df Sta f fd){k0:Nat}
  (hbody:fd.body= .stmts [.Return (some (.BoolOp .And [.Compare (.Attribute (.Name "self" p0) "_initial_size" p1) [.Eq] [.Constant (.int 0) k0 p2] p3,
   .BoolOp .Or [.UnaryOp .Not (.Name "self" p4) p5,.Call (.Attribute (.Call (.Name "str" p6) [.Name "self" p7] [] p8) "isspace" p9) [] [] q0] q1] q2)) q3])
  (hl:(p9.endLine==q0.line)=true) (hself:knd fd "self"=some .local) (hstr:knd fd "str"=some .globalImplicit) (hbind:∀x:Value,bindArgs fd ⟨[x],[]⟩=pure [(ofString "self",x)])
  (A:Around) (E:Value->Shared->Prop) (s:Shared) (hb:Heap) (ps:List (Str × Str)) (hA:bT A 28) (B:Bs Sta Z [c,dc] hb s.heap) (X:Acc C s.heap c dc ps) (hs:cN ps) (hne:eW ps≠0) (hsp:Txt.isspace (bC ps)=false):
  wpAny (model prog w) A (call (.ref f) [.ref c]) (fun v s'=>v= .bool false/\KW [] Z s s'/\Acc C s'.heap c dc ps) E s:=by
 refine aAu D (B.st W.sz) (by have:=hA.depth;exact bsl this) hbody (.of_eq (hbind _)) (fun x hx=> ?_) fun h'0 tk E' env henv hL hns hk=> ?_
 ·rw [List.mem_singleton.mp hx]; exact hself
 have hkf:env.scope.kind= .function:=by rw [henv]; exact D.kind
 have hko:∀x,env.kindOf x=knd fd x:=fun x=>by rw [henv]; rfl
 have hge:env.globals=mainGlobals:=by rw [henv]; exact D.globals
 have hbe:env.builtins=builtinsNs:=by rw [henv]; exact D.builtins
 have w0:KW [] Z s {s with heap:=h'0,toks:=tk}:=KW.of_keep hk;have hLZ:env.locals∉Z.map (·.2):=by rw [hL]; exact B.z.fresh
 have B0:=B.of (w0.weaken fun _ h=>nomatch h);have hA':bT (A.deeper env) 27:=bT.deeper hA;refine wpAt_of_wpAny (wpAny_execs_cons (wpAny_Return_some (aD9 (wpAny_Compare1 (oO (c:=c) (dc:=dc) (ps:=ps) K rfl (nm hkf ((hko _).trans hself) hns (u:= .ref c) (by rfl) rfl ⟨rfl,B0.st W.sz,X.keeps hk,fun t=> ?_⟩)) (by rfl)))));refine wpAny_Constant_int (eq_int ⟨by decide,?_⟩);have w1:KW [] Z s {s with heap:=h'0,toks:=tk+1+1}:=KW.of_keep hk;have B1:=B.of (w1.weaken fun _ h=>nomatch h);refine aA5 (wpAny_UnaryOp (nm (m:=_) hkf ((hko _).trans hself) hns (u:= .ref c) (by rfl) rfl (not_of ?_)));refine wpAny_mono (aHq (s:={s with heap:=h'0,toks:=tk+1+1}) (hb:=hb) W K Fl hfl (hA'.less (by exact Nat.le_add_left _ _)) B1 (X.keeps hk) hs) (fun b s'2 h'2=> ?_) fun _ _ e=>e
 obtain ⟨rfl,k2,X2⟩:=h'2;refine ⟨by rw [bne_iff_ne.mpr hne]; rfl,?_⟩;have w2:=w1.trans k2;have B2:=B.of (w2.weaken fun _ h=>nomatch h);have hns2:s'2.heap.Ns env.locals _:=Ns.kw hns k2 (fun h=>nomatch h) hLZ;obtain ⟨hg2,hb2⟩:=W.ns _ (B2.st W.sz);refine aT rfl hl rfl (by simp) (lD hkf ((hko _).trans hstr) rfl (hge▸hg2) (hbe▸hb2) W.str.1 W.str.2 rfl (wpAny_items_cons (nm hkf ((hko _).trans hself) hns2 (u:= .ref c) (by rfl) rfl (wpAny_items_nil ?_))));refine wpAny_mono (aKi (hb:=hb) W K Fs hfs (hA'.less (by exact Nat.le_add_left _ _)) B2 X2 hs) (fun v s3 h'3 pl=> ?_) fun _ _ e=>e
 obtain ⟨⟨t,rfl⟩,k3,X3⟩:=h'3;refine GM.isspace (callWith_builtin rfl (aF rfl (wpAny_items_nil ?_)));exact SC.isspace ⟨by rw [hsp],w2.trans k3,X3⟩
theorem aA6:builtinKind "list.__new__"=some .builtinFn:=by decide+kernel
theorem xJ:splitId "list.__new__"=some ("list","__new__"):=by decide+kernel
theorem aEb:Manifest.signature? "list.__new__"=some {machinery:= .any,full:="list",short:="list",receiver:= .cls,params:=[{name:="args",kind:= .varPos,required:=false},{name:="kwargs",kind:= .varKw,required:=false}]}:=by kernel_rfl
theorem aA7 (C v:Value):Bind.checkArgs "list.__new__" {machinery:= .any,full:="list",short:="list",receiver:= .cls,params:=[{name:="args",kind:= .varPos,required:=false},{name:="kwargs",kind:= .varKw,required:=false}]} ⟨[C,v],[]⟩=pure ():=by kernel_rfl
section
variable {g:Array GenState}{d:Drawn}{t:Nat}{os:OsState}
variable {cr:CR}
set_option maxHeartbeats 1000000 in
theorem mG {M:Model}{v:Value}{Q:Unit->Shared->Prop}
  (hC:h.get? C=some (eP cr C N)) (hq:Q () ⟨h,g,d,t,os⟩):
  wpAny M A (checkBuiltinCall "list.__new__" ⟨.ref C::[v],[]⟩) Q E ⟨h,g,d,t,os⟩:=by
 have hcont:=fN C;have hargs:=aA7 (.ref C) v;unfold checkBuiltinCall;rw [aA6,xJ,aEb]
 repeat (first | (with_reducible refine ks_wpAny_isType_cls hC rfl ?_) | (with_reducible refine wpAny_loadPart_at hC ?_) | (with_reducible refine wpAny_isSubtype_exc hC ?_;rw [hcont]) | (with_reducible refine wpAny_staticBase_exc hC ?_) | (with_reducible refine wpAny_madeBy_exc hC ?_) | (with_reducible refine rI ?_) | (with_reducible refine yG ?_) | (with_reducible refine bM (by decide+kernel) ?_) | wp_step | (with_reducible refine wpAny_of_eq hargs ?_))
 exact hq
set_option maxHeartbeats 1000000 in
theorem aA8 {v:Value}
  (hC:h.get? C=some (eP cr C N))
  (hq:R (.ok (.ret (.ref (h.objs.size+1)))) ⟨(h.push {cls:= .type "dict",data:= .dict #[]}).push {cls:= .ref C,dict:=some h.objs.size,data:= .seq #[]},g,d,t,os⟩):
  codeAny (model prog w) A (.builtin "list.__new__" ⟨.ref C::[v],[]⟩) R ⟨h,g,d,t,os⟩:=by
 refine codeAny_builtin_stack F.entry_list_new rfl fun p st=> ?_
 rw [Around.under_plainId F.plain_list_new _];have hown:=owner_list_new;have hcont:=fN C;dsimp only;rw [hown]
 repeat (first | (with_reducible refine ks_wpAny_isType_cls hC rfl ?_) | (with_reducible refine wpAny_isSubtype_exc hC ?_;rw [hcont]) | wp_step)
 show R _ _;rw [Heap.size_push];exact hq
structure aKk (h h':Heap)(x dx C:Addr):Prop where
 keeps:∀b o,h.get? b=some o->h'.get? b=some o
 newX:h.get? x=none
 newD:h.get? dx=none
 obj:fO h' C x dx #[]
 dict:h'.Ns1 dx fun _=>none
 ne:dx≠x
theorem qP:typeLookup (.type "list") "__init__"=pure (some (.builtin "list.__init__")):=by rw [typeLookup_type,builtinLookup_eq_fast]; kernel_rfl
set_option maxHeartbeats 1000000 in
theorem mH {v:Value}{fI:Addr}{oI:Obj}{Q:Fin->Shared->Prop}
  (hC:h.get? C=some (eP cr C N)) (hn:h.Ns N mN) (hi:mN "__init__"=some (.ref fI))
  (hfI:h.get? fI=some oI) (hfc:oI.cls= .type "function")
  (hq:∀h' x dx,aKk h h' x dx C->wpAny (model prog w) A (call (.ref fI) [.ref x,v]) (fun r s'=>r= .none/\Q (.done (.ret (.ref x))) s') E ⟨h',g,d,t,os⟩):
  wpAny (model prog w) A (Builtin.«type.__call__» ⟨.ref C::[v],[]⟩) Q E ⟨h,g,d,t,os⟩:=by
 repeat (first | with_reducible refine wpAny_loadPart_at hC ?_ | with_reducible refine wpAny_madeBy_exc hC ?_ | wp_step)
 refine codeAny_call_builtin_code (plainId_quiet F.plain_list_new _) (mG hC ?_);refine aA8 hC ?_;show wpAny _ _ _ _ _ _;have keep2:∀b o,h.get? b=some o->((h.push {cls:= .type "dict",data:= .dict #[]}).push {cls:= .ref C,dict:=some h.objs.size,data:= .seq #[]}).get? b=some o:=fun b o hb=>Heap.get?_push_of_some _ (Heap.get?_push_of_some _ hb)
 have hget:((h.push {cls:= .type "dict",data:= .dict #[]}).push {cls:= .ref C,dict:=some h.objs.size,data:= .seq #[]}).get? (h.objs.size+1)=some {cls:= .ref C,dict:=some h.objs.size,data:= .seq #[]}:=by heap_get
 have hgd:((h.push {cls:= .type "dict",data:= .dict #[]}).push {cls:= .ref C,dict:=some h.objs.size,data:= .seq #[]}).get? h.objs.size=some {cls:= .type "dict",data:= .dict #[]}:=Heap.get?_push_of_some _ (Heap.get?_push_at rfl rfl);generalize (h.push {cls:= .type "dict",data:= .dict #[]}).push {cls:= .ref C,dict:=some h.objs.size,data:= .seq #[]}=h2 at keep2 hget hgd ⊢;have hC1:=keep2 _ _ hC;have hfI1:=keep2 _ _ hfI;have hn'1:h2.Ns N mN:=by obtain ⟨o,es,ep,e,r⟩:=hn;exact ⟨o,es,ep,keep2 _ _ e,r⟩
 have hcC:(Value.ref C::[Value.type "list",.type "object"]).contains (.ref C)=true:=by simp
 unfold isInstance
 repeat (first | with_reducible refine wpAny_loadPart_at hget ?_ | (with_reducible refine wpAny_isSubtype_exc hC1 ?_;rw [hcC]) | wp_step)
 show wpAny _ _ (typeLookup (.ref C) _) _ _ _;refine wpAny_typeLookup_exc hC1 hn'1 aU qP ?_;rw [hi];refine wpAny_holding (wpAny_bind ?_);unfold bindSpecial;refine wpAny_bind (wpAny_typeOf (T:="function") ⟨_,hfI1,hfc⟩ ?_);refine iV (by decide) ?_;refine wpAny_pure (wpAny_bind (wpAny_mono (hq _ (h.objs.size+1) h.objs.size ⟨keep2,Heap.get?_none_of_le (Nat.le_succ _),Heap.get?_none_of_le (Nat.le_refl _),
  ⟨0,hget⟩,Heap.Ns1.of_empty ⟨_, #[],_,hgd,rfl,fun e he=>absurd he (by simp),fun _=>rfl⟩,Nat.ne_of_lt (Nat.lt_succ_self _)⟩) (fun r s' hr=> ?_) fun _ _ x=>x))
 obtain ⟨rfl,hQ⟩:=hr
 wp_walk
 exact hQ
theorem oP {v:Value}{fI:Addr}{oI:Obj}
  (hC:h.get? C=some (eP cr C N)) (hn:h.Ns N mN) (hi:mN "__init__"=some (.ref fI))
  (hfI:h.get? fI=some oI) (hfc:oI.cls= .type "function")
  (hq:∀h' x dx,aKk h h' x dx C->wpAny (model prog w) (A.under (.builtin "type.__call__" ⟨.ref C::[v],[]⟩)) (call (.ref fI) [.ref x,v]) (fun r s'=>r= .none/\Q (.ref x) s') E ⟨h',g,d,t,os⟩):
  wpAny (model prog w) A (call (.ref C) [v]) Q E ⟨h,g,d,t,os⟩:=by
 have f1:=tc_lookup;have f2:=tc_bind (.ref C);have hT:(⟨h,g,d,t,os⟩:Shared).TypeIs (.ref C) "type":=⟨_,hC,rfl⟩;refine wpAny_call (codeAny_of_tree ?_);show wpAny _ _ (callAny (.ref C) _) _ _ _
 repeat (any_goals (first | assumption | with_reducible refine wpAny_loadPart_at hC ?_ | wp_step))
 refine ⟨rfl,?_⟩;refine codeAny_call_builtin_at (Code.quiet_builtin _ (by decide+kernel)) entry_typeCall (wpAny_check_type_call_sub hC (mH hC hn hi hfI hfc fun h' x dx hm=> ?_));exact hq h' x dx hm
end
theorem Zok.add (z:Zok Z [] h)(hk:∀b o,h.get? b=some o->h'.get? b=some o)(hW:∀y∈W,h.get? y=none):Zok Z W h' where
 at':=fun y hy=>by obtain ⟨ps,h1,h2⟩:=z.at' y hy;exact ⟨ps,h1.keeps hk,h2.keeps hk⟩
 apart:=fun y hy a ha=>by
  obtain ⟨ps,h1,⟨⟨o,_,e,_⟩,t⟩⟩:=z.at' y hy;have:=hW a ha;refine ⟨fun q=> ?_,fun q=> ?_⟩
  ·rw [<- q,this] at e;exact no1 e
  ·rw [<- q,this] at t;exact no1 t
theorem aEc (W:FW prog w Sta Z mg mb)(K:AW prog w Sta C N mN){f:Addr}(hi:mN "__init__"=some (.ref f))(D:Df Sta f fd)(U:Sup prog Sta C fd)
  (hbody:fd.body= .stmts [.Assign [.Attribute (.Name "self" p0) "_initial_size" p1] (.Name "initial_size" p2) p3,.Expr (.Call (.Attribute (.Call (.Name "super" q0) [] [] q1) "__init__" q2) [] [] q3) q4])
  (hl:(q2.endLine==q3.line)=true) (his:knd fd "initial_size"=some .local) (hbind:∀(s:Shared)(x y:Value),Sta s.heap->BindsTo s fd ⟨[x,y],[]⟩ [(ofString "self",x),(ofString "initial_size",y)])
  (A:Around) (E:Value->Shared->Prop) (s:Shared) (hb:Heap) (t:Tok) (hA:bT A 10) (B:Bs Sta Z [] hb s.heap) (hbs:∀b,s.heap.get? b=none->hb.get? b=none):
  wpAny (model prog w) A (call (.ref C) [.int 0 t]) (fun v s'=>∃x dx,v= .ref x/\KW [] Z s s'/\Acc C s'.heap x dx []/\s.heap.get? x=none/\s.heap.get? dx=none) E s:=by
 refine opq fun R nR=> ?_
 obtain ⟨cr,hC⟩:=(K.cls _ (B.st W.sz)).obj;have hNs:=(K.cls _ (B.st W.sz)).ns;obtain ⟨⟨of,hof,hofc,hofd⟩,_,_⟩:=D.at' _ (B.st W.sz);obtain ⟨hp,g,d,tk0,os⟩:=s;refine oP hC hNs hi hof hofc fun h' x dx made=> ?_
 have hW:∀y∈[x,dx],hp.get? y=none:=fun y hy=>by
  rcases List.mem_cons.mp hy with rfl | hy
  ·exact made.newX
  ·rw [List.mem_singleton.mp hy]; exact made.newD
 have w1:KW [] Z ⟨hp,g,d,tk0,os⟩ ⟨h',g,d,tk0,os⟩:=KW.of_keep (s:=⟨hp,g,d,tk0,os⟩) made.keeps;have B1:Bs Sta Z [x,dx] hb h':=⟨B.sta,fun b o hz e=>made.keeps b o (B.keep b o hz e),fun y hy=>hbs y (hW y hy),B.z.add made.keeps hW⟩;refine aAu (s:=⟨h',g,d,tk0,os⟩) D (B1.st W.sz) (by have:=hA.depth;show A.depth+1<990;lia) hbody (hbind _ _ _ (B1.st W.sz)) (fun y hy=> ?_) fun h'0 tk E' env henv hL hns hk=> ?_
 ·simp only [List.mem_cons,List.not_mem_nil,or_false] at hy
  rcases hy with rfl | rfl
  ·exact U.slf
  ·exact his
 have hkf:env.scope.kind= .function:=by rw [henv]; exact D.kind
 have hko:∀x,env.kindOf x=knd fd x:=fun x=>by rw [henv]; rfl
 have w0:KW [] Z ⟨h',g,d,tk0,os⟩ ⟨h'0,g,d,tk,os⟩:=KW.of_keep (s:=⟨h',g,d,tk0,os⟩) hk;have B2:Bs Sta Z [x,dx] hb h'0:=B1.of (w0.weaken fun _ h=>nomatch h);have X2:aMk C h'0 x dx []:=⟨⟨#[],made.obj.at fun o e=>hk _ o e,⟨rfl,fun i v p h=>by simp at h⟩⟩,⟨_,made.dict.at fun o e=>hk _ o e,fun _ _=>rfl⟩,made.ne⟩;refine ks_wpAt_execs_cons (wpAt_of_wpAny (plainObj_wpAny_Assign_Attribute (nm hkf ((hko _).trans his) hns (u:= .int 0 t) (by rfl) rfl (nm hkf ((hko _).trans U.slf) hns (u:= .ref x) (by rfl) rfl ?_))));have hLfresh:h'.get? env.locals=none:=by rw [hL]; exact aR _
 have hexx:∀y∈[x,dx], ∃o,h'.get? y=some o:=fun y hy=>by
  rcases List.mem_cons.mp hy with rfl | hy
  ·obtain ⟨n,e⟩:=made.obj;exact ⟨_,e⟩
  ·rw [List.mem_singleton.mp hy]; obtain ⟨o,es,ep,e,_⟩:=made.dict;exact ⟨o,e⟩
 have hLW:env.locals∉[x,dx]:=fun q=>by obtain ⟨o,e⟩:=hexx _ q;rw [hLfresh] at e;exact no1 e
 have hLZ:env.locals∉Z.map (·.2):=by rw [hL]; exact B1.z.fresh
 refine aA4 (s:=⟨h'0,g,d,tk,os⟩) (hb:=hb) (ps:=[]) W.sz K B2 X2 fun s3 k3 X3 _=> ?_
 have B3:Bs Sta Z [x,dx] hb s3.heap:=B2.of k3;have hns3:s3.heap.Ns env.locals _:=Ns.kw hns k3 hLW hLZ;obtain ⟨tI,hI⟩:=X3.inst;refine ks_wpAt_execs_cons (ks_wpAt_Expr_any (lB hl rfl (by simp) (uW (c:=x) W.ns W.sup.1 W.sup.2 K D U henv (B3.st W.sz) hns3 rfl hI rfl fun so h4 hso k hnew pl=> ?_)) (oM hkf) rfl);obtain ⟨h'3,g'3,d'3,t'3,o'3⟩:=s3;have hS':Sta h4:=W.sz _ _ (fun b o _ e=>k b o e) (B3.st W.sz);obtain ⟨cr,hC⟩:=(K.cls _ hS').obj;obtain ⟨vs,hl0,hps⟩:=X3.seq;obtain ⟨n,ho⟩:=hl0.at fun o e=>k _ o e
 have hxC:x≠C:=fun e=>by rw [e,hC] at ho;cases ho
 refine eR sK hso (K.looks _ hS') hC ho rfl hxC ?_;have hb':(h4.push {cls:= .type "method-wrapper",data:= .fields #[.builtin "list.__init__",.ref x]}).get? h4.objs.size=some {cls:= .type "method-wrapper",data:= .fields #[.builtin "list.__init__",.ref x]}:=Heap.get?_push_size _ rfl;have kk:∀b o,h'3.get? b=some o->(h4.push {cls:= .type "method-wrapper",data:= .fields #[.builtin "list.__init__",.ref x]}).get? b=some o:=fun b o e=>Heap.get?_push_of_some _ (k _ _ e)
 generalize h4.push {cls:= .type "method-wrapper",data:= .fields #[.builtin "list.__init__",.ref x]}=h6 at hb' kk ⊢;refine eV (.inr rfl) hb' ?_;have hsz:vs.size=0:=by simpa using hps.1
 refine xA (s:=⟨h6,g'3,d'3,t'3+1,o'3⟩) hb' (hl0.at fun o e=>kk _ o e) (by exact lef hsz rfl) fun h5 hl5 hs5=> ?_
 have w4:KW [x,dx] Z ⟨h'3,g'3,d'3,t'3,o'3⟩ ⟨h6,g'3,d'3,t'3+1,o'3⟩:=KW.of_keep (s:=⟨h'3,g'3,d'3,t'3,o'3⟩) kk;have w5:=w4.trans (KW.change (s:=⟨h6,g'3,d'3,t'3+1,o'3⟩) (tk:=t'3+1) (by simp) (B3.of w4).z hs5);have wall:KW [x,dx] Z ⟨h',g,d,tk0,os⟩ ⟨h5,g'3,d'3,t'3+1,o'3⟩:=((w0.weaken fun _ h=>nomatch h).trans k3).trans w5;refine wpAt_of_wpAny (wpAny_execs_nil ⟨rfl,nR _ _ ⟨x,dx,rfl,?_,⟨⟨#[],hl5,⟨rfl,fun i v p h=>by simp at h⟩⟩,?_,X3.ne⟩,made.newX,made.newD⟩⟩)
 ·have hz':Zok Z [] hp:=⟨B.z.at',fun _ _ _ h=>nomatch h⟩;exact KW.after (c:=⟨h',g,d,tk0,os⟩) (fun b o e=>⟨fun q=>no1 ((hW b q).symm.trans e),made.keeps b o e⟩) rfl rfl rfl wall
 ·obtain ⟨t',hd⟩:=X3.dict;exact ⟨t',hd.at fun o e=>hs5.extBut _ _ X3.ne (kk _ _ e)⟩
theorem aA9:typeLookup (.type "function") "__set__"=pure none:=by rw [typeLookup_type,builtinLookup_eq_fast]; kernel_rfl
theorem qQ:typeLookup (.type "function") "__delete__"=pure none:=by rw [typeLookup_type,builtinLookup_eq_fast]; kernel_rfl
section
variable {g:Array GenState}{d:Drawn}{t:Nat}{os:OsState}
variable {cr:CR}{x:Addr}{name:Str}{v:Value}
set_option maxHeartbeats 1000000 in
theorem qR {tk:Tok}{f:Addr}{of:Obj}{y:Option Value}{Q:Fin->Shared->Prop}
  (hC:h.get? C=some (eP cr C N)) (hn:h.Ns N mN) (hna:mN name=some (.ref f)) (hfo:h.get? f=some of) (hfc:of.cls= .type "function")
  (hB:typeLookup (.type "list") name=pure y) (I:h.Inst x C mA) (hv:mA name=none) (hne0:∃n,mA n≠none) (hg:(["__module__","__name__","__qualname__","__doc__","__annotations__"]:List Str).contains name=false)
  (hq:Q (.done (.ret (.ref h.objs.size))) ⟨h.push {cls:= .type "method",data:= .fields #[.ref f,.ref x]},g,d,t,os⟩):
  wpAny (model prog w) A (Builtin.«object.__getattribute__» ⟨[.ref x,.str name tk],[]⟩) Q E ⟨h,g,d,t,os⟩:=by
 obtain ⟨⟨oc,od,oda,osl⟩,hx,hc,hnc,hd⟩:=I;obtain rfl:oc= .ref C:=hc;obtain ⟨dx,rfl,hns1⟩:∃dx,od=some dx/\h.Ns1 dx mA:=by
  rcases hd with ⟨_,hall⟩ | ⟨dx,hdx,_,hns1⟩
  ·obtain ⟨n,hn0⟩:=hne0;exact absurd (hall n) hn0
  ·exact ⟨dx,hdx,hns1⟩
 have hTf:(⟨h,g,d,t,os⟩:Shared).TypeIs (.ref f) "function":=⟨_,hfo,hfc⟩;have hlk:=F.ks_slot_function_get.lookup;have hns:=aA9;have hnd:=qQ;unfold Builtin.«object.__getattribute__»
 repeat (first | (with_reducible refine wpAny_loadPart_at hx ?_) | (with_reducible refine wpAny_typeLookup_exc hC hn aU hB ?_;rw [hna]) | (with_reducible refine wpAny_typeOf hTf ?_) | (with_reducible refine wpAny_loadPart_at hfo ?_;rw [hfc]) | wp_step)
 refine qG hnc ?_;unfold instanceDict
 repeat (first | (with_reducible refine wpAny_nsGet hns1.ns ?_;rw [hv]) | (with_reducible refine wpAny_loadPart_at hx ?_) | with_reducible refine wpAny_loadPart_at hC ?_ | wp_step)
 ·repeat (first | (with_reducible refine wpAny_nsGet hns1.ns ?_;rw [hv]) | (with_reducible refine bM (by rw [hg]; exact Bool.false_ne_true) ?_) | (with_reducible refine rI ?_) | (with_reducible refine wpAny_call_entry F.ks_slot_function_get hTf F.ks_entry_function_get ?_ (F.ks_getArgs_function _ _ _)) | (with_reducible refine ⟨_,rfl,?_⟩) | wp_step)
  exact hq
set_option maxHeartbeats 1000000 in
theorem sQ {expr:Bool}{f:Addr}{of:Obj}{y:Option Value}
  (hC:h.get? C=some (eP cr C N)) (hn:h.Ns N mN) (hng:mN "__getattribute__"=none) (hnh:mN "__getattr__"=none) (hna:mN name=some (.ref f)) (hfo:h.get? f=some of) (hfc:of.cls= .type "function")
  (hB:typeLookup (.type "list") name=pure y) (I:h.Inst x C mA) (hv:mA name=none) (hne0:∃n,mA n≠none) (hg:(["__module__","__name__","__qualname__","__doc__","__annotations__"]:List Str).contains name=false)
  (hq:Q (.ref h.objs.size) ⟨h.push {cls:= .type "method",data:= .fields #[.ref f,.ref x]},g,d,t+1,os⟩):
  wpAny (model prog w) A (getAttr (.ref x) name expr) Q E ⟨h,g,d,t,os⟩:=by
 obtain ⟨o,hx,hc,_⟩:=id I;have f3:=F.slot_list_getattribute.bind (.ref x);have hx0:(expr&&onTheHeap (Value.builtin "list.__getattribute__"))=false:=by rcases expr with _ | _ <;> rfl
 have hx2:(Value.builtin "list.__getattribute__"==Value.builtin "object.__getattribute__")=false:=by decide+kernel
 have hx1:(onTheHeap (Value.ref C)&&Value.builtin "list.__getattribute__"==Value.builtin "object.__getattribute__")=false:=by rw [hx2]; rfl
 unfold getAttr getAttrBy
 repeat (any_goals (first | assumption | (with_reducible refine wpAny_loadPart_at hx ?_;rw [hc]) | (with_reducible refine wpAny_typeLookup_exc hC hn aU fM ?_;rw [hng]) | (with_reducible refine wpAny_typeLookup_exc hC hn aU bU ?_;rw [hnh]) | wp_step))
 have L:=aKe (.ref x) (.str name t);refine codeAny_call_builtin L.plain L.entry ?_;refine kU (id:="list.__getattribute__") (b:=Builtin.«object.__getattribute__») (rest:=[.str name t]) (o:=o) L hC hx hc ?_;refine qR hC hn hna hfo hfc hB I hv hne0 hg ?_;show wpAny _ _ (handedOut (.ref h.objs.size)) _ _ _;exact wpAny_pure hq
end
theorem aBa (K:AW prog w Sta C N mN){name:Str}{f:Addr}{sp:Pos}(F:Mth Sta mN name f)(hb:cI o=true)(hg:(["__module__","__name__","__qualname__","__doc__","__annotations__"]:List Str).contains name=false)
  (h:wpAny (model prog w) A (eval o env) (fun ov s'1=>ov= .ref c/\Sta s'1.heap/\Acc C s'1.heap c dc ps/\
   ∀q,q=s'1.heap.objs.size->wpAny (model prog w) A (eval e env) (fun v s'2=>StarOf (model prog w) A E v (fun vs s3=>(s3.heap.get? q=some {cls:= .type "method",data:= .fields #[.ref f,.ref c]}/\Sta s3.heap)/\codeAny (model prog w) A (.call (.ref f) ⟨.ref c::vs,[]⟩) (fun r s'=>match r with | .ok (.ret v)=>Q v s' | .ok _=>False | .error e=>E e s') s3) s'2) E
    {s'1 with heap:=s'1.heap.push {cls:= .type "method",data:= .fields #[.ref f,.ref c]},toks:=s'1.toks+1}) E s):
  wpAny (model prog w) A (eval (.Call (.Attribute o name ap) [.Starred e sp] [] pos) env) Q E s:=by
 rw [arm_eval_Call,eL hb];refine wpAny_bind (wpAny_mono h (fun ov s'1 h'1=> ?_) fun _ _ e=>e);obtain ⟨rfl,hS,X,h'1⟩:=h'1;obtain ⟨cr,hC⟩:=(K.cls _ hS).obj;have hns:=(K.cls _ hS).ns;obtain ⟨of,fd,hfc,hfd,hfo⟩:=F.fn;obtain ⟨y,hy⟩:=F.lk;obtain ⟨t,I⟩:=X.inst;refine wpAny_bind (wpAny_standAt ?_);have hform:methodCallForm (([.Starred e sp]:List Expr).length+([]:List Keyword).length) (backTo pos (starEach [.Starred e sp] env)) (backToKw pos (keywordEach [] env))=false:=rfl;unfold methodCall;rw [hform];refine wpAny_bind (wpAny_holding ?_);unfold calleeOf;obtain ⟨hp,g,d,tk,os⟩:=s'1;refine wpAny_bind (sQ hC hns K.ga K.gt F.at' (hfo _ hS) hfc hy I (if_neg F.ni) ⟨ofString "_initial_size",by rw [if_pos rfl]; exact fun e=>nomatch e⟩ hg ?_);refine wpAny_pure ?_;refine wpAny_bind (wpAny_of_eq (show methodCallPos false o env ap pos=pure pos from rfl) ?_);refine ks_call (P:=fun h=>h.get? hp.objs.size=some {cls:= .type "method",data:= .fields #[.ref f,.ref c]}/\Sta h) rfl (fun h hh=>⟨.boundFrame,.inr (.inr rfl),?_⟩) (ks_lone ?_)
 ·intro A' Q' E' s' k q;unfold keeperOf;refine wpAny_bind (wpAny_load (k _ _ hh.1) ?_);dsimp only;rw [if_neg (by decide)];refine wpAny_bind (wpAny_load (k _ _ (hfo _ hh.2)) ?_);rw [hfd];exact wpAny_pure q
 ·refine wpAny_mono (h'1 _ rfl) (fun v s'2 h'2=> ?_) fun _ _ e=>e
  refine wpAny_mono h'2 (fun b s3 h'3=>⟨h'3.1,wpAny_mono h'3.2 (fun vs s4 h'4=>⟨h'4.1,?_⟩) fun _ _ e=>e⟩) fun _ _ e=>e
  exact wpAny_call (method_call h'4.1.1 h'4.2)
noncomputable def dQ:List Str:=[ofString "_maxlen",ofString "_continuation_ws",ofString "_continuation_ws_len",ofString "_splitchars",ofString "_lines",ofString "_current_line"]
structure VW (Sta:Heap->Prop)(C N:Addr)(mN:Str->Option Value):Prop where
 cls:∀h,Sta h->ClsAt h C N mN
 ga:mN "__getattribute__"=none
 gt:mN "__getattr__"=none
 sa:mN "__setattr__"=none
 att:∀n∈dQ,mN n=none/\typeLookup (.type "object") n=pure none
structure Fat (mA:Str->Option Value)(wd:Int)(sp:Str)(L c:Addr):Prop where
 mx:∃t,mA "_maxlen"=some (.int wd t)
 sp:∃t,mA "_splitchars"=some (.str sp t)
 ls:mA "_lines"=some (.ref L)
 cl:mA "_current_line"=some (.ref c)
 no:∀n,n∉dQ->mA n=none
structure Fm (V C:Addr)(h:Heap)(m dm L c dc:Addr)(wd:Int)(sp:Str)(lines:List Str)(ps:List (Str × Str)):Prop where
 obj:∃o,h.get? m=some o/\o.cls= .ref V/\(∀ c,o.data≠ .cls c)/\o.dict=some dm/\dm≠m
 att:∃mA,h.Ns1 dm mA/\Fat mA wd sp L c
 lines:∃us,h.PlainList L us/\StrsAre us.toList lines
 acc:Acc C h c dc ps
 ap:m∉[L,c,dc]/\dm∉[L,c,dc]/\L∉[c,dc]
section
variable {m:Addr}
theorem Fm.inst (F:Fm V C h m dm L c dc wd sp lines ps):∃mA,h.Inst m V mA/\Fat mA wd sp L c:=by
 obtain ⟨o,h1,h2,h3,h4,h5⟩:=F.obj;obtain ⟨mA,h6,h7⟩:=F.att;exact ⟨mA,⟨o,h1,h2,h3,.inr ⟨dm,h4,h5,h6⟩⟩,h7⟩
theorem Fm.step (F:Fm V C s.heap m dm L c dc wd sp lines ps)(B:Bs Sta Z [m,dm,L,c,dc] hb s.heap)(k:KW [c,dc] Z s s')(X:Acc C s'.heap c dc qs):Fm V C s'.heap m dm L c dc wd sp lines qs:=by
 have nz:∀y∈[m,dm,L,c,dc],y∉Z.map (·.2):=fun y hy q=>by obtain ⟨v,hv,e⟩:=List.mem_map.mp q;exact (B.z.apart v hv y hy).2 e.symm
 obtain ⟨o,h1,h2,h3,h4,h5⟩:=F.obj;obtain ⟨mA,h6,h7⟩:=F.att;obtain ⟨us,h8,h9⟩:=F.lines;have hm:m∉[c,dc]:=fun q=>F.ap.1 (List.mem_cons_of_mem _ q)
 have hdm:dm∉[c,dc]:=fun q=>F.ap.2.1 (List.mem_cons_of_mem _ q)
 exact ⟨⟨o,k.keep _ _ hm (nz m (by simp)) h1,h2,h3,h4,h5⟩,⟨mA,h6.at fun o e=>k.keep _ _ hdm (nz dm (by simp)) e,h7⟩,⟨us,h8.at fun o e=>k.keep _ _ F.ap.2.2 (nz L (by simp)) e,h9⟩,X,F.ap⟩
theorem Fm.kw (F:Fm V C s.heap m dm L c dc wd sp lines ps)(B:Bs Sta Z [m,dm,L,c,dc] hb s.heap)(k:KW [] Z s s'):Fm V C s'.heap m dm L c dc wd sp lines ps:=
 F.step B (k.weaken fun _ h=>nomatch h) (F.acc.kw (B.sub (W':=[c,dc]) (by simp)).z k)
theorem Fm.keeps (F:Fm V C h m dm L c dc wd sp lines ps)(k:∀b o,h.get? b=some o->h'.get? b=some o):Fm V C h' m dm L c dc wd sp lines ps:=by
 obtain ⟨o,h1,h2,h3,h4,h5⟩:=F.obj;obtain ⟨mA,h6,h7⟩:=F.att;obtain ⟨us,h8,h9⟩:=F.lines;exact ⟨⟨o,k _ _ h1,h2,h3,h4,h5⟩,⟨mA,h6.at fun o e=>k _ _ e,h7⟩,⟨us,h8.at fun o e=>k _ _ e,h9⟩,F.acc.keeps k,F.ap⟩
theorem Fm.exs (F:Fm V C h m dm L c dc wd sp lines ps):∀y∈[m,dm,L,c,dc], ∃o,h.get? y=some o:=fun y hy=>by
 simp only [List.mem_cons,List.not_mem_nil,or_false] at hy
 rcases hy with rfl | rfl | rfl | rfl | rfl
 ·obtain ⟨o,h1,_⟩:=F.obj;exact ⟨o,h1⟩
 ·obtain ⟨mA,⟨o,es,ep,h1,_⟩,_⟩:=F.att;exact ⟨o,h1⟩
 ·obtain ⟨us,⟨n,h1⟩,_⟩:=F.lines;exact ⟨_,h1⟩
 ·obtain ⟨_,⟨n,h1⟩,_⟩:=F.acc.seq;exact ⟨_,h1⟩
 ·obtain ⟨_,⟨o,es,ep,h1,_⟩⟩:=F.acc.dict;exact ⟨o,h1⟩
theorem Fm.fresh (F:Fm V C h m dm L c dc wd sp lines ps):h.objs.size∉[m,dm,L,c,dc]:=fun q=>by
 have ex:∀y∈[m,dm,L,c,dc], ∃o,h.get? y=some o:=fun y hy=>by
  simp only [List.mem_cons,List.not_mem_nil,or_false] at hy
  rcases hy with rfl | rfl | rfl | rfl | rfl
  ·obtain ⟨o,h1,_⟩:=F.obj;exact ⟨o,h1⟩
  ·obtain ⟨mA,⟨o,es,ep,h1,_⟩,_⟩:=F.att;exact ⟨o,h1⟩
  ·obtain ⟨us,⟨n,h1⟩,_⟩:=F.lines;exact ⟨_,h1⟩
  ·obtain ⟨_,⟨n,h1⟩,_⟩:=F.acc.seq;exact ⟨_,h1⟩
  ·obtain ⟨_,⟨o,es,ep,h1,_⟩⟩:=F.acc.dict;exact ⟨o,h1⟩
 obtain ⟨o,e⟩:=ex _ q;exact absurd (Heap.lt_size e) (Nat.lt_irrefl _)
theorem aEd (VV:VW Sta V NV mV){n:Str}(hn:n∈dQ)(hb:cI o=true)
  (h:wpAny (model prog w) A (eval o env) (fun ov s'1=>ov= .ref m/\Sta s'1.heap/\Fm V C s'1.heap m dm L c dc wd sp lines ps/\∀mA v,Fat mA wd sp L c->mA n=some v->handedOut v=pure v->Q v {s'1 with toks:=s'1.toks+1}) E s)
  (hv:∀mA,Fat mA wd sp L c->∃v,mA n=some v/\handedOut v=pure v):
  wpAny (model prog w) A (eval (.Attribute o n p) env) Q E s:=by
 rw [arm_eval_Attribute,eL hb];refine wpAny_bind (wpAny_mono h (fun ov s'1 h'1=> ?_) fun _ _ e=>e);obtain ⟨rfl,hS,F,hQ⟩:=h'1;obtain ⟨mA,I,hA⟩:=F.inst;obtain ⟨v,hmv,hh⟩:=hv mA hA;refine wpAny_bind (wpAny_standAt (wpAny_bind (wpAny_holding ?_)));refine iG (VV.cls _ hS) VV.ga (VV.att n hn).1 (VV.att n hn).2 I hmv hh ?_;exact wpAny_bind (wpAny_letTemporaryGo (wpAny_pure (hQ mA v hA hmv hh)))
theorem oQ (VV:VW Sta V NV mV)(hb:cI o=true)
  (h:wpAny (model prog w) A (eval o env) (fun ov s'1=>ov= .ref m/\Sta s'1.heap/\Fm V C s'1.heap m dm L c dc wd sp lines ps/\Q (.ref c) {s'1 with toks:=s'1.toks+1}) E s):
  wpAny (model prog w) A (eval (.Attribute o "_current_line" p) env) Q E s:=
 aEd VV (by simp [dQ]) hb (wpAny_mono h (fun ov s'1 h'1=>⟨h'1.1,h'1.2.1,h'1.2.2.1,fun mA v hA hv _=>by rw [hA.cl] at hv;(replace hv:=Option.some.inj hv;subst hv); exact h'1.2.2.2⟩) fun _ _ e=>e) fun mA hA=>⟨_,hA.cl,rfl⟩
theorem qS (VV:VW Sta V NV mV)(hb:cI o=true)
  (h:wpAny (model prog w) A (eval o env) (fun ov s'1=>ov= .ref m/\Sta s'1.heap/\Fm V C s'1.heap m dm L c dc wd sp lines ps/\Q (.ref L) {s'1 with toks:=s'1.toks+1}) E s):
  wpAny (model prog w) A (eval (.Attribute o "_lines" p) env) Q E s:=
 aEd VV (by simp [dQ]) hb (wpAny_mono h (fun ov s'1 h'1=>⟨h'1.1,h'1.2.1,h'1.2.2.1,fun mA v hA hv _=>by rw [hA.ls] at hv;(replace hv:=Option.some.inj hv;subst hv); exact h'1.2.2.2⟩) fun _ _ e=>e) fun mA hA=>⟨_,hA.ls,rfl⟩
theorem aHs (VV:VW Sta V NV mV)(hb:cI o=true)
  (h:wpAny (model prog w) A (eval o env) (fun ov s'1=>ov= .ref m/\Sta s'1.heap/\Fm V C s'1.heap m dm L c dc wd sp lines ps/\∀t,Q (.int wd t) {s'1 with toks:=s'1.toks+1}) E s):
  wpAny (model prog w) A (eval (.Attribute o "_maxlen" p) env) Q E s:=
 aEd VV (by simp [dQ]) hb (wpAny_mono h (fun ov s'1 h'1=>⟨h'1.1,h'1.2.1,h'1.2.2.1,fun mA v hA hv _=>by obtain ⟨t,e⟩:=hA.mx;rw [e] at hv;(replace hv:=Option.some.inj hv;subst hv); exact h'1.2.2.2 t⟩) fun _ _ e=>e) fun mA hA=>by obtain ⟨t,e⟩:=hA.mx;exact ⟨_,e,rfl⟩
theorem sR (VV:VW Sta V NV mV)(hb:cI o=true)
  (h:wpAny (model prog w) A (eval o env) (fun ov s'1=>ov= .ref m/\Sta s'1.heap/\Fm V C s'1.heap m dm L c dc wd sp lines ps/\∀t,Q (.str sp t) {s'1 with toks:=s'1.toks+1}) E s):
  wpAny (model prog w) A (eval (.Attribute o "_splitchars" p) env) Q E s:=
 aEd VV (by simp [dQ]) hb (wpAny_mono h (fun ov s'1 h'1=>⟨h'1.1,h'1.2.1,h'1.2.2.1,fun mA v hA hv _=>by obtain ⟨t,e⟩:=hA.sp;rw [e] at hv;(replace hv:=Option.some.inj hv;subst hv); exact h'1.2.2.2 t⟩) fun _ _ e=>e) fun mA hA=>by obtain ⟨t,e⟩:=hA.sp;exact ⟨_,e,rfl⟩
end
section
variable {m:Addr}
def aKl (prog:Program)(w:World)(Sta:Heap->Prop)(Z:List (Addr × Addr))(C f:Addr):Prop:=
 ∀(c dc:Addr)(A:Around)(E:Value->Shared->Prop)(s:Shared)(hb:Heap)(a b:Str)(ps:List (Str × Str)),A.depth<970->Bs Sta Z [c,dc] hb s.heap->Acc C s.heap c dc (ps++[(a,b)])->ps.length<=900->
  wpAny (model prog w) A (call (.ref f) [.ref c]) (fun v s'=>(∃ T t u,v= .ref T/\s'.heap.IsTuple T #[.str a t,.str b u])/\KW [c,dc] Z s s'/\Acc C s'.heap c dc ps) E s
def aFy (prog:Program)(w:World)(Sta:Heap->Prop)(Z:List (Addr × Addr))(C f:Addr):Prop:=
 ∀(c dc:Addr)(A:Around)(E:Value->Shared->Prop)(s:Shared)(hb:Heap)(ps:List (Str × Str)),bT A 28->Bs Sta Z [c,dc] hb s.heap->Acc C s.heap c dc ps->cN ps->eW ps≠0->Txt.isspace (bC ps)=false->
  wpAny (model prog w) A (call (.ref f) [.ref c]) (fun v s'=>v= .bool false/\KW [] Z s s'/\Acc C s'.heap c dc ps) E s
def aBb (prog:Program)(w:World)(Sta:Heap->Prop)(Z:List (Addr × Addr))(C f:Addr):Prop:=
 (∀ (c dc:Addr) (A:Around) (E:Value->Shared->Prop) (s:Shared) (hb:Heap) (ps:List (Str × Str)),A.depth<980->Bs Sta Z [c,dc] hb s.heap->Acc C s.heap c dc ps->ps.length<=900->
  wpAny (model prog w) A (call (.ref f) [.ref c]) (fun v s'=>v= .none/\KW [c,dc] Z s s'/\Acc C s'.heap c dc []) E s)/\
 ∀(c dc:Addr)(A:Around)(E:Value->Shared->Prop)(s:Shared)(hb:Heap)(R:Addr)(us:Array Value)(ps qs:List (Str × Str)),A.depth<980->Bs Sta Z [c,dc] hb s.heap->Acc C s.heap c dc ps->ps.length<=900->s.heap.PlainList R us->bB s.heap us.toList qs->qs.length<=900->R≠c->
  wpAny (model prog w) A (call (.ref f) [.ref c,.ref R]) (fun v s'=>v= .none/\KW [c,dc] Z s s'/\Acc C s'.heap c dc qs) E s
theorem aHt {T T2:Addr}{a b y:Str}{u t2 u2:Tok}(hA:A.units+64<cLine)(h1:s.heap.IsTuple T #[.str a t,.str b u])(h2:s.heap.IsTuple T2 #[.str x t2,.str y u2])(ha:PySem.PyData.strOk a=true)(hb:PySem.PyData.strOk b=true)(hx:PySem.PyData.strOk x=true)(hy:PySem.PyData.strOk y=true)(hne:b≠y)(h:Q (.bool true) s):
  wpAny (model prog w) A (compareOp .NotEq (.ref T) (.ref T2)) Q E s:=by
 have d1:Den s.heap (.ref T) (.tup [.str a,.str b]):= .mkTup h1 (.cons (.str _ _) (.cons (.str _ _) .nil));have d2:Den s.heap (.ref T2) (.tup [.str x,.str y]):= .mkTup h2 (.cons (.str _ _) (.cons (.str _ _) .nil));obtain ⟨as,ra⟩:=jM d1 (.tuple [.str a,.str b]) rfl;obtain ⟨bs,rb⟩:=jM d2 (.tuple [.str x,.str y]) rfl;refine ne_dataH ra rb (by simp [SeqAt.shaped,PyData.canLay0,PyData.canLayAll0,PyData.depth,PyData.depthAll,ha,hb]) (by simp [SeqAt.shaped,PyData.canLay0,PyData.canLayAll0,PyData.depth,PyData.depthAll,hx,hy]) hA ?_;have:PyData.eqv (.tuple [.str a,.str b]) (.tuple [.str x,.str y])=false:=by
  simp [PyData.eqv,PyData.eqvAll,hne]
 rw [this];exact h
set_option genInjectivity false in
structure FA where
 push:Addr
 pop:Addr
 len:Addr
 str:Addr
 only:Addr
 reset:Addr
 count:Addr
 pf:Addr
def qT (prog:Program)(w:World)(Sta:Heap->Prop)(Z:List (Addr × Addr))(C f:Addr):Prop:=
 ∀(c dc:Addr)(A:Around)(E:Value->Shared->Prop)(s:Shared)(hb:Heap)(ps:List (Str × Str))(j:Nat)(t:Tok),j<=ps.length->A.depth<980->Bs Sta Z [c,dc] hb s.heap->Acc C s.heap c dc ps->ps.length<=900->
  wpAny (model prog w) A (call (.ref f) [.ref c,.int j t]) (fun v s'=>(∃ R us,v= .ref R/\s'.heap.PlainList R us/\bB s'.heap us.toList (ps.drop j)/\s.heap.get? R=none)/\KW [c,dc] Z s s'/\Acc C s'.heap c dc (ps.take j)) E s
structure nE (prog:Program)(w:World)(Sta:Heap->Prop)(Z:List (Addr × Addr))(C:Addr)(mN:Str->Option Value)(f:FA):Prop where
 mpush:Mth Sta mN "push" f.push
 mpop:Mth Sta mN "pop" f.pop
 mlen:Mth Sta mN "__len__" f.len
 mstr:Mth Sta mN "__str__" f.str
 monly:Mth Sta mN "is_onlyws" f.only
 mreset:Mth Sta mN "reset" f.reset
 mcount:Mth Sta mN "part_count" f.count
 mpf:Mth Sta mN "pop_from" f.pf
 push:qL prog w Sta Z C f.push
 pop:aKl prog w Sta Z C f.pop
 len:xE prog w Sta Z C f.len
 str:aA3 prog w Sta Z C f.str
 only:aFy prog w Sta Z C f.only
 reset:aBb prog w Sta Z C f.reset
 count:oN prog w Sta Z C f.count
 pf:qT prog w Sta Z C f.pf
theorem xK {T:Addr}{vals:Array Value}{Q:List Value->Shared->Prop}(h:s.heap.IsTuple T vals)(hsz:vals.size<=1000)(hQ:∀h',(∀ b o,s.heap.get? b=some o->h'.get? b=some o)->Q vals.toList {s with heap:=h'}):
  StarOf (model prog w) A E (.ref T) Q s:=by
 obtain ⟨o,ho,hc,n,hd⟩:=h;unfold StarOf notIterableAtAll;refine wpAny_bind (wpAny_specialOf (T:="tuple") ⟨o,ho,hc⟩ PySem.F.slot_tuple_iter.lookup (wpAny_pure ⟨rfl,?_⟩));exact wpAny_collect_seq T (.inr rfl) ho hc hd hQ (by rw [sizeLine_eq]; exact lit hsz rfl)
def gZ (prog:Program)(w:World)(Sta:Heap->Prop)(Z:List (Addr × Addr))(V C f:Addr):Prop:=
 ∀(m dm L c dc:Addr)(wd:Int)(sp:Str)(lines:List Str)(A:Around)(E:Value->Shared->Prop)(s:Shared)(hb:Heap)(a b:Str)(ps:List (Str × Str)),bT A 35->Bs Sta Z [m,dm,L,c,dc] hb s.heap->Fm V C s.heap m dm L c dc wd sp lines (ps++[(a,b)])->
  cN (ps++[(a,b)])->lines.length<=900->PyData.strOk a=true->PyData.strOk b=true->b≠""->eW (ps++[(a,b)])>0->Txt.isspace (bC (ps++[(a,b)]))=false->
  wpAny (model prog w) A (call (.ref f) [.ref m]) (fun v s'=>v= .none/\KW [L,c,dc] Z s s'/\Fm V C s'.heap m dm L c dc wd sp (lines++[bC (ps++[(a,b)])]) []) E s
theorem Fm.loc {l:Addr}(F:Fm V C h m dm L c dc wd sp lines ps)(hn:h.Ns l mm)(hs:Heap.SameBut l h h')(hl:l∉[m,dm,L,c,dc]):Fm V C h' m dm L c dc wd sp lines ps:=by
 obtain ⟨o,h1,h2,h3,h4,h5⟩:=F.obj;obtain ⟨mA,h6,h7⟩:=F.att;obtain ⟨us,h8,h9⟩:=F.lines;have ne:∀y∈[m,dm,L,c,dc],y≠l:=fun y hy q=>hl (q▸hy)
 exact ⟨⟨o,hs.extBut _ _ (ne m (by simp)) h1,h2,h3,h4,h5⟩,⟨mA,h6.at fun o e=>hs.extBut _ _ (ne dm (by simp)) e,h7⟩,⟨us,h8.at fun o e=>hs.extBut _ _ (ne L (by simp)) e,h9⟩,F.acc.loc hn hs (fun q=>hl (by simp only [List.mem_cons,List.not_mem_nil,or_false] at q ⊢; rcases q with q | q <;> simp [q])),F.ap⟩
theorem Fm.append {us:Array Value}(F:Fm V C h m dm L c dc wd sp lines ps)(hL:h.PlainList L us)(hu:StrsAre us.toList lines)(hL':h'.PlainList L (us.push (.str x t)))(hs:Heap.SameBut L h h'):Fm V C h' m dm L c dc wd sp (lines++[x]) ps:=by
 obtain ⟨o,h1,h2,h3,h4,h5⟩:=F.obj;obtain ⟨mA,h6,h7⟩:=F.att;have ap:=F.ap;refine ⟨⟨o,hs.extBut _ _ (fun q=>ap.1 (by simp [q])) h1,h2,h3,h4,h5⟩,⟨mA,h6.at fun o e=>hs.extBut _ _ (fun q=>ap.2.1 (by simp [q])) e,h7⟩,⟨_,hL',?_⟩,?_,F.ap⟩
 ·exact strsAre_push hu
 ·obtain ⟨vs,x1,x2⟩:=F.acc.seq;obtain ⟨t',x3⟩:=F.acc.dict;obtain ⟨n,hl⟩:=hL;exact ⟨⟨vs,x1.at fun o e=>hs.extBut _ _ (fun q=>ap.2.2 (by simp [q])) e,x2.keeps fun T vals zz=>by obtain ⟨o,e,hc,r⟩:=zz;exact ⟨o,hs.extBut T o (fun q=>by rw [q,hl] at e;(replace e:=Option.some.inj e;subst e); exact absurd (show Value.type "list"=Value.type "tuple" from hc) (by decide)) e,hc,r⟩⟩,⟨t',x3.at fun o e=>hs.extBut _ _ (fun q=>ap.2.2 (by simp [q])) e⟩,F.acc.ne⟩
end
section
variable {orelse:List Stmt}{M:List Addr}{xv:AV}{m:Str->Option Value}{Q:Flow->Shared->Prop}{QE:Value->Shared->Prop}
theorem aEe (hh:A.handled=none)(hi:aV xv=some [])(hd:Den (hide s'1.heap M) y xv)
  (h:∀(s'2:Shared)(E':Value->Shared->Prop),dB s'1 s'2->wpAny (model prog w) A (execs orelse env) Q E' s'2):
  wpAny (model prog w) A (pyIter y) (fun itv s'2=>codeAny (model prog w) A (.forLoop (.Name x px) itv body orelse env) (fun r s'=>match r with
   | .ok fl=>Q fl s'
   | .error e=>QE e s') s'2) E s'1:=by
 refine bG hh hi hd fun I fp wr P St0 s'2 src=> ?_
 obtain ⟨W,hst,hfp,hwr,k12,hP,hex,hvis⟩:=src;refine codeAny_forLoop_any (fun k s'=>k=0/\s'=s'2) ?_ 0 ⟨rfl,rfl⟩
 rintro k s' ⟨rfl,rfl⟩
 refine W.done _ _ _ hst fun h'3 tk3 hk3=> ?_
 obtain ⟨h'2,tk'2,rfl,k⟩:=id k12;exact h _ _ ⟨h'3,tk3,rfl,fun b o e=>hk3 b o (fun q=>by rw [hwr b q] at e;exact no1 e) (k b o e)⟩
theorem aBc (hh:A.handled=none){a:AV}{l:List AV}(hi:aV xv=some (a::l))(hd:Den (hide s'1.heap M) y xv)(hx:env.kindOf x=some .local)(hp:(env.scope.kind== .class||(env.scope.kind== .module&&env.locals !=env.globals))=false)(hns:s'1.heap.Ns env.locals m)
  (h:∀(v:Value)(h'2 h'3:Heap)(tk:Tok)(E':Value->Shared->Prop),Den (hide s'1.heap M) v a->(∀ b o,s'1.heap.get? b=some o->h'2.get? b=some o)->Heap.SameBut env.locals h'2 h'3->h'3.Ns env.locals (fun z=>if z=x then some v else m z)->
   wpAny (model prog w) A (execs body env) (fun f s'=>f= .brk/\Q .next s') E' {s'1 with heap:=h'3,toks:=tk}):
  wpAny (model prog w) A (pyIter y) (fun itv s'2=>codeAny (model prog w) A (.forLoop (.Name x px) itv body orelse env) (fun r s'=>match r with
   | .ok fl=>Q fl s'
   | .error e=>QE e s') s'2) E s'1:=by
 refine bG hh hi hd fun I fp wr P St0 s'2 src=> ?_
 obtain ⟨W,hst,hfp,hwr,k12,hP,hex,hvis⟩:=src;obtain ⟨h'2,tk'2,rfl,kg⟩:=k12;refine codeAny_forLoop_any (fun k s'=>k=0/\s'=_) ?_ 0 ⟨rfl,rfl⟩
 rintro k s' ⟨rfl,rfl⟩
 refine W.item 0 _ _ _ (by simp) hst fun v h'3 tk3 hPv hst3 hk3=> ?_
 refine wpAny_pure ?_;have k13:∀b o,s'1.heap.get? b=some o->h'3.get? b=some o:=fun b o e=>hk3 b o (fun q=>by rw [hwr b q] at e;exact no1 e) (kg b o e)
 refine wpAny_assign_Name (wpAny_storeName_local hx (hns.keeps k13) (fun h'4 hns'4 hs4=> ?_) hp);refine wpAny_mono (h v h'3 h'4 _ _ (hP 0 v a hPv rfl) k13 hs4 hns'4) (fun f s5 h'5=> ?_) fun _ _ q=>q
 obtain ⟨rfl,h'5⟩:=h'5;exact h'5
theorem aHu (hh:A.handled=none){a:AV}(hi:aV xv=some [a])(hd:Den (hide s'1.heap M) y xv)(hx:env.kindOf x=some .local)(hp:(env.scope.kind== .class||(env.scope.kind== .module&&env.locals !=env.globals))=false)(hns:s'1.heap.Ns env.locals m)
  (hM:∀b∈M,∃o,s'1.heap.get? b=some o) (hL:env.locals∈M)
  (h:∀(v:Value)(h'2 h'3:Heap)(tk:Tok)(E':Value->Shared->Prop),Den (hide s'1.heap M) v a->(∀ b o,s'1.heap.get? b=some o->h'2.get? b=some o)->Heap.SameBut env.locals h'2 h'3->h'3.Ns env.locals (fun z=>if z=x then some v else m z)->
   wpAny (model prog w) A (execs body env) (fun f s'=>(f= .next\/f= .cont)/\(∀ b o,b∉M->h'3.get? b=some o->s'.heap.get? b=some o)/\
    ∀(h'4:Heap)(tk4:Tok)(E'':Value->Shared->Prop),(∀ b o,(∃ o',s'1.heap.get? b=some o')->s'.heap.get? b=some o->h'4.get? b=some o)->wpAny (model prog w) A (execs orelse env) Q E'' {s' with heap:=h'4,toks:=tk4}) E' {s'1 with heap:=h'3,toks:=tk}):
  wpAny (model prog w) A (pyIter y) (fun itv s'2=>codeAny (model prog w) A (.forLoop (.Name x px) itv body orelse env) (fun r s'=>match r with
   | .ok fl=>Q fl s'
   | .error e=>QE e s') s'2) E s'1:=by
 refine bG hh hi hd fun I fp wr P St0 s'2 src=> ?_
 obtain ⟨W,hst,hfp,hwr,k12,hP,hex,hvis⟩:=src;obtain ⟨h'2,tk'2,rfl,kg⟩:=k12;have hfM:∀b∈fp,b∉M:=fun b q r=>by
  by_cases hb:b∈wr
  ·obtain ⟨o,e⟩:=hM b r;rw [hwr b hb] at e;exact no1 e
  ·obtain ⟨o,e⟩:=hvis b q hb;exact (aA.mp e).1 r
 refine codeAny_forLoop_any (fun k s'=>(k=1/\s'={s'1 with heap:=h'2,toks:=tk'2})\/(k=0/\St0 1 s'.heap/\∀(h'4:Heap)(tk4:Tok)(E'':Value->Shared->Prop),(∀ b o,(∃ o',s'1.heap.get? b=some o')->s'.heap.get? b=some o->h'4.get? b=some o)->wpAny (model prog w) A (execs orelse env) Q E'' {s' with heap:=h'4,toks:=tk4})) ?_ 1 (.inl ⟨rfl,rfl⟩)
 rintro k s' (⟨rfl,rfl⟩ | ⟨rfl,hst',hq⟩)
 ·refine W.item 0 _ _ _ (by simp) hst fun v h'3 tk3 hPv hst3 hk3=> ?_
  refine wpAny_pure ?_;have k13:∀b o,s'1.heap.get? b=some o->h'3.get? b=some o:=fun b o e=>hk3 b o (fun q=>by rw [hwr b q] at e;exact no1 e) (kg b o e)
  refine wpAny_assign_Name (wpAny_storeName_local hx (hns.keeps k13) (fun h'4 hns'4 hs4=> ?_) hp);refine wpAny_mono (h v h'3 h'4 _ _ (hP 0 v a hPv rfl) k13 hs4 hns'4) (fun f s5 h'5=> ?_) fun _ _ q=>q
  obtain ⟨hf,hk5,h'5⟩:=h'5;have hst5:St0 1 s5.heap:=W.frame _ _ _ hst3 fun b hb o e=>hk5 b o (hfM b hb) (hs4.extBut b o (fun q=>hfM b hb (q▸hL)) e)
  rcases hf with rfl | rfl
  ·exact ⟨0,by exact Nat.le_refl _,.inr ⟨rfl,hst5,h'5⟩⟩
  ·exact ⟨0,by exact Nat.le_refl _,.inr ⟨rfl,hst5,h'5⟩⟩
 ·refine W.done _ _ _ hst' fun h'3 tk3 hk3=> ?_
  exact hq h'3 tk3 _ fun b o ⟨o',e'⟩ e=>hk3 b o (fun q=>by rw [hwr b q] at e';exact no1 e') e
end
section
theorem up5 {m:Addr}:∀y,y∈[c,dc]->y∈[m,dm,L,c,dc]:=fun _ h=> .tail _ (.tail _ (.tail _ h))
theorem aEf {m:Addr}:∀y,y∈[L,c,dc]->y∈[m,dm,L,c,dc]:=fun _ h=> .tail _ (.tail _ h)
theorem up3:∀y,y∈[c,dc]->y∈[L,c,dc]:=fun _ h=> .tail _ h
set_option genInjectivity false in
structure FX where
 prog:Program
 w:World
 Sta:Heap->Prop
 Z:List (Addr × Addr)
 V:Addr
 NV:Addr
 C:Addr
 N:Addr
 m:Addr
 dm:Addr
 L:Addr
 c:Addr
 dc:Addr
 mV:Str->Option Value
 mN:Str->Option Value
 mg:Str->Option Value
 mb:Str->Option Value
 wd:Int
 sp:Str
 hb:Heap
 f:FA
 A:Around
 env:Env
 fd:FuncData
 s0:Shared
namespace FX
noncomputable abbrev all (X:FX):List Addr:=[X.m,X.dm,X.L,X.c,X.dc]
structure Ok (X:FX):Prop where
 W:FW X.prog X.w X.Sta X.Z X.mg X.mb
 K:AW X.prog X.w X.Sta X.C X.N X.mN
 VV:VW X.Sta X.V X.NV X.mV
 LK:nE X.prog X.w X.Sta X.Z X.C X.mN X.f
 kf:X.env.scope.kind= .function
 ko:∀x,X.env.kindOf x=knd X.fd x
 ge:X.env.globals=mainGlobals
 be:X.env.builtins=builtinsNs
 LF:X.env.locals∉X.all
 LZ:X.env.locals∉X.Z.map (·.2)
 self:knd X.fd "self"=some .local
 B:Bs X.Sta X.Z X.all X.hb X.s0.heap
 new:X.s0.heap.get? X.env.locals=none
 R:bT X.A 34
structure At (X:FX)(s:Shared)(mm:Str->Option Value)(ln:List Str)(ps:List (Str × Str)):Prop where
 ns:s.heap.Ns X.env.locals mm
 F:Fm X.V X.C s.heap X.m X.dm X.L X.c X.dc X.wd X.sp ln ps
 w:KW [X.L,X.c,X.dc] X.Z X.s0 s
 me:mm "self"=some (.ref X.m)
variable {X:FX}{mm':Str->Option Value}{ln:List Str}
theorem At.B (J:At X s mm ln ps)(O:Ok X):Bs X.Sta X.Z X.all X.hb s.heap:=O.B.of (J.w.weaken aEf)
theorem At.st (J:At X s mm ln ps)(O:Ok X):X.Sta s.heap:=(J.B O).st O.W.sz
theorem At.keep (J:At X s mm ln ps)(k:∀b o,s.heap.get? b=some o->h'.get? b=some o):At X {s with heap:=h',toks:=t} mm ln ps:=⟨J.ns.keeps k,J.F.keeps k,J.w.trans (KW.of_keep k),J.me⟩
theorem At.tok (J:At X s mm ln ps):At X {s with toks:=t} mm ln ps:=J.keep fun _ _ e=>e
theorem At.call (J:At X s mm ln ps)(O:Ok X)(k:KW [X.c,X.dc] X.Z s s')(x:Acc X.C s'.heap X.c X.dc qs):At X s' mm ln qs:=⟨Ns.kw J.ns k (fun q=>O.LF (up5 _ q)) O.LZ,J.F.step (J.B O) k x,J.w.trans (k.weaken up3),J.me⟩
theorem At.set (J:At X s mm ln ps)(O:Ok X)(hn:h'.Ns X.env.locals mm')(hs:Heap.SameBut X.env.locals s.heap h')(e:mm' "self"=some (.ref X.m)):At X {s with heap:=h',toks:=t} mm' ln ps:=⟨hn,J.F.loc J.ns hs O.LF,KW.fresh J.w O.new hs,e⟩
theorem Ok.sub (O:Ok X)(J:At X s mm ln ps):Bs X.Sta X.Z [X.c,X.dc] X.hb s.heap:=(J.B O).sub up5
theorem me (O:Ok X)(J:At X s mm ln ps)(h:Q (.ref X.m) s):wpAny (model X.prog X.w) X.A (eval (.Name "self" p) X.env) Q E s:=nm O.kf ((O.ko _).trans O.self) J.ns J.me rfl h
theorem name (O:Ok X)(J:At X s mm ln ps){v:Value}(k:knd X.fd x=some .local)(e:mm x=some v)(d:(x==("__debug__":Str))=false)(h:Q v s):wpAny (model X.prog X.w) X.A (eval (.Name x p) X.env) Q E s:=nm O.kf ((O.ko _).trans k) J.ns e d h
theorem line (O:Ok X)(J:At X s mm ln ps)(h:∀s',s'.heap=s.heap->At X s' mm ln ps->Q (.ref X.c) s'):wpAny (model X.prog X.w) X.A (eval (.Attribute (.Name "self" p) "_current_line" q) X.env) Q E s:=
 oQ O.VV rfl (me O J ⟨rfl,J.st O,J.F,h _ rfl J.tok⟩)
theorem store (O:Ok X)(J:At X s mm ln ps){v:Value}{Q:Unit->Shared->Prop}(k:knd X.fd x=some .local)(d:ofString "self"≠x)(h:∀s',Heap.SameBut X.env.locals s.heap s'.heap->At X s' (fun z=>if z=x then some v else mm z) ln ps->Q () s'):wpAny (model X.prog X.w) X.A (storeName X.env x v) Q E s:=
 wpAny_storeName_local ((O.ko _).trans k) J.ns (fun _ hn hs=>h _ hs (J.set O hn hs ((if_neg d).trans J.me))) (by rw [O.kf]; rfl)
theorem meth (O:Ok X)(J:At X s mm ln ps){n:Str}{f:Addr}(M:Mth X.Sta X.mN n f)(hl:(p2.endLine==p3.line)=true)(hs:(backTo p3 (starEach args X.env)).any (·.1)=false)(hn:args.length<30)
  (h:∀s',s'.heap=s.heap->At X s' mm ln ps->wpAny (model X.prog X.w) X.A (spliced (backTo p3 (starEach args X.env))) (fun vs s'2=>X.Sta s'2.heap/\wpAny (model X.prog X.w) X.A (call (.ref f) (.ref X.c::vs)) Q E s'2) E s'):
  wpAny (model X.prog X.w) X.A (eval (.Call (.Attribute (.Attribute (.Name "self" p0) "_current_line" p1) n p2) args [] p3) X.env) Q E s:=
 aHl (c:=X.c) O.K M rfl hl hs hn (line O J fun s' e J'=>⟨rfl,J'.st O,J'.F.acc.inst,h s' e J'⟩)
theorem meth0 (O:Ok X)(J:At X s mm ln ps){n:Str}{f:Addr}(M:Mth X.Sta X.mN n f)(hl:(p2.endLine==p3.line)=true)
  (h:∀s',s'.heap=s.heap->At X s' mm ln ps->wpAny (model X.prog X.w) X.A (call (.ref f) [.ref X.c]) Q E s'):
  wpAny (model X.prog X.w) X.A (eval (.Call (.Attribute (.Attribute (.Name "self" p0) "_current_line" p1) n p2) [] [] p3) X.env) Q E s:=
 meth O J M hl rfl (Nat.le_of_ble_eq_true rfl) fun s' e J'=>wpAny_items_nil ⟨J'.st O,h s' e J'⟩
theorem Ok.dp (O:Ok X)(h:956<=n):X.A.depth<n:=Nat.lt_of_lt_of_le (Nat.lt_of_add_lt_add_right (n:=34) O.R.depth) h
theorem pop (O:Ok X){a b:Str}(J:At X s mm ln (ps++[(a,b)]))(hn:ps.length<=900)(hl:(p2.endLine==p3.line)=true)(h:∀s' T t u,s'.heap.IsTuple T #[.str a t,.str b u]->At X s' mm ln ps->Q (.ref T) s'):
  wpAny (model X.prog X.w) X.A (eval (.Call (.Attribute (.Attribute (.Name "self" p0) "_current_line" p1) "pop" p2) [] [] p3) X.env) Q E s:=
 meth0 O J O.LK.mpop hl fun s'1 _ J=>wpAny_mono (O.LK.pop X.c X.dc _ _ _ X.hb a b ps (O.dp (Nat.le_of_ble_eq_true rfl)) (O.sub J) J.F.acc hn) (fun v s'2 h'2=>by
  obtain ⟨⟨T,t,u,e,hT⟩,k,x⟩:=h'2;exact e▸h s'2 T t u hT (J.call O k x)) fun _ _ e=>e
theorem only (O:Ok X)(J:At X s mm ln ps)(hs:cN ps)(hp:eW ps>0)(hw:Txt.isspace (bC ps)=false)(hl:(p2.endLine==p3.line)=true)(h:∀s',At X s' mm ln ps->Q (.bool false) s'):
  wpAny (model X.prog X.w) X.A (eval (.Call (.Attribute (.Attribute (.Name "self" p0) "_current_line" p1) "is_onlyws" p2) [] [] p3) X.env) Q E s:=
 meth0 O J O.LK.monly hl fun s'1 _ J=>wpAny_mono (O.LK.only X.c X.dc _ _ _ X.hb ps (O.R.less (Nat.le_of_ble_eq_true rfl)) (O.sub J) J.F.acc hs (Int.ne_of_gt hp) hw) (fun v s'2 h'2=>by
  obtain ⟨e,k,x⟩:=h'2;exact e▸h s'2 (J.call O k.wk x)) fun _ _ e=>e
theorem count (O:Ok X)(J:At X s mm ln ps)(hl:(p2.endLine==p3.line)=true)(h:∀s' t,KW [] X.Z s s'->At X s' mm ln ps->Q (.int ps.length t) s'):
  wpAny (model X.prog X.w) X.A (eval (.Call (.Attribute (.Attribute (.Name "self" p0) "_current_line" p1) "part_count" p2) [] [] p3) X.env) Q E s:=by
 refine aHl (c:=X.c) O.K O.LK.mcount rfl hl rfl (Nat.le_of_ble_eq_true rfl) (oQ O.VV rfl (me O J ⟨rfl,J.st O,J.F,rfl,J.st O,J.F.acc.inst,wpAny_items_nil ⟨J.st O,?_⟩⟩));have J':At X {s with toks:=s.toks+1} mm ln ps:=J.tok;refine wpAny_mono (O.LK.count X.c X.dc _ _ _ X.hb ps (O.dp (Nat.le_of_ble_eq_true rfl)) (O.sub J') J'.F.acc) (fun v s'2 h'2=> ?_) fun _ _ e=>e
 obtain ⟨⟨t,e⟩,k,x⟩:=h'2;exact e▸h s'2 t (KW.toks.trans k) (J'.call O k.wk x)
theorem aKm (O:Ok X)(J:At X s mm ln ps)(hn:ps.length<=900)(hl:(p2.endLine==p3.line)=true)(h:∀s',At X s' mm ln []->Q .none s'):
  wpAny (model X.prog X.w) X.A (eval (.Call (.Attribute (.Attribute (.Name "self" p0) "_current_line" p1) "reset" p2) [] [] p3) X.env) Q E s:=
 meth0 O J O.LK.mreset hl fun s'1 _ J=>wpAny_mono (O.LK.reset.1 X.c X.dc _ _ _ X.hb ps (O.dp (Nat.le_of_ble_eq_true rfl)) (O.sub J) J.F.acc hn) (fun v s'2 h'2=>by
  obtain ⟨e,k,x⟩:=h'2;exact e▸h s'2 (J.call O k x)) fun _ _ e=>e
theorem len (O:Ok X)(J:At X s mm ln ps)(hs:cN ps)(kl:knd X.fd "len"=some .globalImplicit)(h:∀s' t,At X s' mm ln ps->Q (.int (eW ps) t) s'):
  wpAny (model X.prog X.w) X.A (eval (.Call (.Name "len" p0) [.Attribute (.Name "self" p1) "_current_line" p2] [] p3) X.env) Q E s:=by
 obtain ⟨hg,hb⟩:=O.W.ns _ (J.st O);refine cM O.kf ((O.ko _).trans kl) rfl (O.ge▸hg) (O.be▸hb) O.W.len.1 O.W.len.2 rfl (wpAny_items_cons (line O J fun s'1 _ J=>wpAny_items_nil (wpAny_mono (aMj (hb:=X.hb) O.W O.K O.LK.mlen O.LK.len (O.R.less (Nat.le_of_ble_eq_true rfl)) (O.sub J) J.F.acc hs) (fun v s'2 h'2=> ?_) fun _ _ e=>e)));obtain ⟨⟨t,e⟩,k,x⟩:=h'2;exact e▸h s'2 t (J.call O k.wk x)
theorem str (O:Ok X)(J:At X s mm ln ps)(hs:cN ps)(kl:knd X.fd "str"=some .globalImplicit)(h:∀s' t,KW [] X.Z s s'->At X s' mm ln ps->Q (.str (bC ps) t) s'):
  wpAny (model X.prog X.w) X.A (eval (.Call (.Name "str" p0) [.Attribute (.Name "self" p1) "_current_line" p2] [] p3) X.env) Q E s:=by
 obtain ⟨hg,hb⟩:=O.W.ns _ (J.st O);refine lD O.kf ((O.ko _).trans kl) rfl (O.ge▸hg) (O.be▸hb) O.W.str.1 O.W.str.2 rfl (wpAny_items_cons (oQ O.VV rfl (me O J ⟨rfl,J.st O,J.F,wpAny_items_nil ?_⟩)));have J':At X {s with toks:=s.toks+1} mm ln ps:=J.tok;refine wpAny_mono (aKi (hb:=X.hb) O.W O.K O.LK.mstr O.LK.str (O.R.less (Nat.le_of_ble_eq_true rfl)) (O.sub J') J'.F.acc hs) (fun v s'2 h'2=> ?_) fun _ _ e=>e
 obtain ⟨⟨t,e⟩,k,x⟩:=h'2;exact e▸h s'2 t (KW.toks.trans k) (J'.call O k.wk x)
end FX
end
section
namespace FX
variable {X:FX}{ln:List Str}{Q:Flow->Shared->Prop}
theorem append (O:Ok X)(J:At X s mm ln ps)(hs:cN ps)(hn:ln.length<=900)(kl:knd X.fd "str"=some .globalImplicit)(hl:(p44.endLine==p49.line)=true)
  (h:∀s',(∀ b o,b≠X.L->b∉X.Z.map (·.2)->s.heap.get? b=some o->s'.heap.get? b=some o)->At X s' mm (ln++[bC ps]) ps->Q .next s'):
  wpAny (model X.prog X.w) X.A (exec (.Expr ((((Name "self" p42).Attribute "_lines" p43).Attribute "append" p44).Call [(Name "str" p45).Call [(Name "self" p46).Attribute "_current_line" p47] [] p48] [] p49) p50) X.env) Q E s:=by
 obtain ⟨us,hL,hu⟩:=J.F.lines;obtain ⟨k,e⟩:=id hL;refine wpAny_Expr_any (wpAny_Call_append rfl rfl hl rfl (qS O.VV rfl (me O J ⟨rfl,J.st O,J.F,_,_,rfl,⟨_,k,e,rfl,rfl,rfl⟩,?_⟩))) (oM O.kf) rfl;have J1:At X {s with toks:=s.toks+1} mm ln ps:=J.tok;refine str O J1 hs kl fun s4 t kw J4=> ?_
 have nz:X.L∉X.Z.map (·.2):=fun q=>by obtain ⟨v,hv,e⟩:=List.mem_map.mp q;exact ((J.B O).z.apart v hv X.L (.tail _ (.tail _ (.head _)))).2 e.symm
 have hL4:s4.heap.PlainList X.L us:=hL.at fun o e=>kw.keep X.L o (fun h=>nomatch h) nz e
 have hus:=strsAre_size hu;refine wpAny_list_append_plain hL4 (fun h' hL5 hs5=> ?_) (by rw [sizeLine_eq]; exact lit (hus▸hn) rfl);have w5:KW [X.L,X.c,X.dc] X.Z X.s0 {s4 with heap:=h'}:=J4.w.trans (KW.change (tk:=s4.toks) (.head _) ((J4.B O).sub aEf).z hs5);exact h _ (fun b o h1 h2 e=>hs5.extBut b o h1 (kw.keep b o (fun h=>nomatch h) h2 e)) ⟨J4.ns.at' fun o e=>hs5.extBut _ o (fun q=>O.LF (q▸ .tail _ (.tail _ (.head _)))) e,J4.F.append hL4 hu hL5 hs5,w5,J4.me⟩
theorem newline_tail (O:Ok X)(J:At X s mm ln ps){aug l rest:List Stmt}
  (el:l=Stmt.If (((Name "len" p19).Call [(Name "self" p20).Attribute "_current_line" p21] [] p22).Compare [.Gt] [Constant (.int 0) 0 p23] p24) [Stmt.If (Expr.BoolOp .And [(((Name "self" p25).Attribute "_current_line" p26).Attribute "is_onlyws" p27).Call [] [] p28,(Name "self" p29).Attribute "_lines" p30] p31) aug
    [Stmt.Expr ((((Name "self" p42).Attribute "_lines" p43).Attribute "append" p44).Call [(Name "str" p45).Call [(Name "self" p46).Attribute "_current_line" p47] [] p48] [] p49) p50] p51] [] p52::rest)
  (hr:rest=[Stmt.Expr ((((Name "self" p53).Attribute "_current_line" p54).Attribute "reset" p55).Call [] [] p56) p57])
  (hl2:(p27.endLine==p28.line)=true) (hl3:(p44.endLine==p49.line)=true) (hl4:(p55.endLine==p56.line)=true) (hlen:knd X.fd "len"=some .globalImplicit) (hstr:knd X.fd "str"=some .globalImplicit)
  (hsm:cN ps) (hln:ln.length<=900) (hpl:eW ps>0) (hsp:Txt.isspace (bC ps)=false)
  (h:∀s',At X s' mm (ln++[bC ps]) []->Q .next s'):
  wpAny (model X.prog X.w) X.A (execs l X.env) Q E s:=
 eU el fun R n _=>wpAny_If (wpAny_isTrue_Compare1 (len O J hsm hlen fun s'1 t J=>wpAny_Constant_int (gt_int (by
  rw [decide_eq_true hpl];refine wpAny_truthy_bool (cK fun R1 n1 _=>wpAny_If (wpAny_isTrue_BoolOp (wpAny_allTrue_And_cons (isTrue_plain (only O J.tok hsm hpl hsp hl2 fun s'2 J=>wpAny_truthy_bool ?_) rfl))));refine cK fun R2 n2 _=>append O J hsm hln hstr hl3 fun s3 _ J=>n2 _ (wpAny_execs_nil (n1 _ (wpAny_execs_nil (n _ ?_))))
  exact eU hr fun R3 n3 _=>wpAny_Expr_any (aKm O J hsm.1 hl4 fun s4 J=>n3 _ (wpAny_execs_nil (h s4 J))) (oM O.kf) rfl))) (by rfl))
end FX
end
theorem oR (k:∀b o,h.get? b=some o->h'.get? b=some o){T:Addr}{vals:Array Value}(x:h.IsTuple T vals):h'.IsTuple T vals:=by
 obtain ⟨o,e,r⟩:=x;exact ⟨o,k _ _ e,r⟩
namespace FX
section
variable {X:FX}{ln:List Str}{Q:Flow->Shared->Prop}
theorem eol_test (O:Ok X)(J:At X s mm ln ps){T:Addr}{a b:Str}{u:Tok}{whole:Sem Value}{Q:Bool->Shared->Prop}(kx:knd X.fd "end_of_line"=some .local)(m1:mm "end_of_line"=some (.ref T))(hT:s.heap.IsTuple T #[.str a t,.str b u])(hoa:PyData.strOk a=true)(hob:PyData.strOk b=true)(hbe:b≠"")
  (h:∀s',s'.heap.IsTuple T #[.str a t,.str b u]->At X s' mm ln ps->Q true s'):
  wpAny (model X.prog X.w) X.A (isTrue ((Name "end_of_line" p6).Compare [.NotEq] [Expr.Tuple [Constant (.str " ") 0 p7,Constant (.str "") 0 p8] 0 p9] p10) X.env whole) Q E s:=by
 refine wpAny_isTrue_Compare1 (name O J kx m1 rfl (wpAny_Tuple (wpAny_items_cons (wpAny_Constant_str (wpAny_items_cons (wpAny_Constant_str (wpAny_items_nil ⟨by rw [sizeLine_eq]; show 2<=_;decide,?_⟩))))))) (by rfl);refine aHt (by have:=O.R.units;unfold cLine;lia) (oR (fun _ _ e=>Heap.get?_push_of_some _ e) hT) ⟨_,Heap.get?_push_size _ rfl,rfl,_,rfl⟩ hoa hob (by decide+kernel) (by decide+kernel) hbe (wpAny_truthy_bool (h _ ?_ ?_))
 ·exact oR (fun _ _ e=>Heap.get?_push_of_some _ e) hT
 ·exact (At.keep (t:=s.toks+1+1) J fun _ _ e=>Heap.get?_push_of_some _ e).tok
theorem push_star (O:Ok X)(J:At X s mm ln ps){T:Addr}{a b:Str}{u:Tok}{Q:Value->Shared->Prop}(kx:knd X.fd "end_of_line"=some .local)(m1:mm "end_of_line"=some (.ref T))(hT:s.heap.IsTuple T #[.str a t,.str b u])(hn:ps.length<=900)
  (h:∀s',At X s' mm ln (ps++[(a,b)])->Q .none s'):
  wpAny (model X.prog X.w) X.A (eval ((((Name "self" p11).Attribute "_current_line" p12).Attribute "push" p13).Call [(Name "end_of_line" p14).Starred p15] [] p16) X.env) Q E s:=by
 refine aBa (c:=X.c) (dc:=X.dc) (ps:=ps) O.K O.LK.mpush rfl rfl (line O J fun s'1 e J=>⟨rfl,J.st O,J.F.acc,fun q hq=> ?_⟩);have k:∀b o,s'1.heap.get? b=some o->(s'1.heap.push {cls:= .type "method",data:= .fields #[.ref X.f.push,.ref X.c]}).get? b=some o:=fun _ _ e=>Heap.get?_push_of_some _ e
 have hq1:(s'1.heap.push {cls:= .type "method",data:= .fields #[.ref X.f.push,.ref X.c]}).get? q=some {cls:= .type "method",data:= .fields #[.ref X.f.push,.ref X.c]}:=hq▸Heap.get?_push_size _ rfl;have J2:At X {s'1 with heap:=s'1.heap.push {cls:= .type "method",data:= .fields #[.ref X.f.push,.ref X.c]},toks:=s'1.toks+1} mm ln ps:=J.keep k;refine name O J2 kx m1 rfl (xK (oR k (e▸hT)) (by show 2<=1000;decide) fun h'6 k6=> ?_);have J3:At X {s'1 with heap:=h'6,toks:=s'1.toks+1} mm ln ps:=At.keep (s:={s'1 with heap:=s'1.heap.push _,toks:=s'1.toks+1}) J2 k6;exact ⟨⟨k6 _ _ hq1,J3.st O⟩,O.LK.push X.c X.dc _ _ X.hb a b t u ps (O.dp (Nat.le_of_ble_eq_true rfl)) (O.sub J3) J3.F.acc hn fun s' w x=>h s' (J3.call O w x)⟩
end
section
variable {f:Addr}{q:FA}
theorem enterF (W:FW prog w Sta Z mg mb)(K:AW prog w Sta C N mN)(VV:VW Sta V NV mV)(LK:nE prog w Sta Z C mN q)(D:Df Sta f fd)(ks:knd fd "self"=some .local)
  {m:Addr} {vs:List Value} {binds:List (Str × Value)} {Q:Value->Shared->Prop}
  (hbody:fd.body= .stmts body) (hbind:BindsTo s fd ⟨.ref m::vs,[]⟩ binds) (hloc:∀x∈binds,fd.scope.names.lookup x.1=some .local) (hme:binds.reverse.lookup (ofString "self")=some (.ref m)) (hA:bT A 35) (B:Bs Sta Z [m,dm,L,c,dc] hb s.heap) (F:Fm V C s.heap m dm L c dc wd sp lines ps)
  {T:FX->Prop} (hT:∀A' env,InF A A'->T ⟨prog,w,Sta,Z,V,NV,C,N,m,dm,L,c,dc,mV,mN,mg,mb,wd,sp,hb,q,A',env,fd,s⟩)
  (h:∀(X:FX)(s':Shared)(K':Flow->Shared->Prop)(E':Value->Shared->Prop),(∀ {x v},knd fd x=v->knd X.fd x=v)->X.wd=wd->X.sp=sp->T X->Ok X->At X s' (fun x=>binds.reverse.lookup x) lines ps->(∀ s'2 mm l' p' v,At X s'2 mm l' p'->(KW [L,c,dc] Z s s'2->Fm V C s'2.heap m dm L c dc wd sp l' p'->Q v s'2)->K' (.ret v) s'2/\(v= .none->K' .next s'2))->
   wpAny (model X.prog X.w) X.A (execs body X.env) K' E' s'):
  wpAny (model prog w) A (call (.ref f) (.ref m::vs)) Q E s:=by
 refine aAv D (B.st W.sz) (by have:=hA.depth;exact bsl this) hbody hbind hloc fun h'0 tk E' env bb A' R hA' henv hL hns hk hret hnext=>wpAt_of_wpAny ?_
 have O:Ok ⟨prog,w,Sta,Z,V,NV,C,N,m,dm,L,c,dc,mV,mN,mg,mb,wd,sp,hb,q,A',env,fd,s⟩:=
  ⟨W,K,VV,LK,by rw [henv]; exact D.kind,fun x=>by rw [henv]; rfl,by rw [henv]; exact D.globals,by rw [henv]; exact D.builtins,by rw [hL]; exact F.fresh,by rw [hL]; exact B.z.fresh,ks,B,by rw [hL]; exact aR _,hA'.room hA⟩
 exact h _ _ R _ id rfl rfl (hT _ _ hA') O ⟨hns,F.keeps hk,KW.of_keep hk,hme⟩ fun s'2 mm l' p' v J g=>⟨hret _ _ (g J.w J.F),fun e=>hnext _ (e▸g J.w J.F)⟩
end
end FX
theorem sS (W:FW prog w Sta Z mg mb)(K:AW prog w Sta C N mN)(VV:VW Sta V NV mV){q:FA}(LK:nE prog w Sta Z C mN q){f:Addr}(D:Df Sta f fd)
  {aug r1 r2 r3:List Stmt}
  (hbody:fd.body= .stmts (Stmt.Assign [Name "end_of_line" p0] ((((Name "self" p1).Attribute "_current_line" p2).Attribute "pop" p3).Call [] [] p4) p5::r1))
  (e1:r1=Stmt.If ((Name "end_of_line" p6).Compare [.NotEq] [Expr.Tuple [Constant (.str " ") 0 p7,Constant (.str "") 0 p8] 0 p9] p10) [Stmt.Expr ((((Name "self" p11).Attribute "_current_line" p12).Attribute "push" p13).Call [(Name "end_of_line" p14).Starred p15] [] p16) p17] [] p18::r2)
  (e2:r2=Stmt.If (((Name "len" p19).Call [(Name "self" p20).Attribute "_current_line" p21] [] p22).Compare [.Gt] [Constant (.int 0) 0 p23] p24) [Stmt.If (Expr.BoolOp .And [(((Name "self" p25).Attribute "_current_line" p26).Attribute "is_onlyws" p27).Call [] [] p28,(Name "self" p29).Attribute "_lines" p30] p31) aug
    [Stmt.Expr ((((Name "self" p42).Attribute "_lines" p43).Attribute "append" p44).Call [(Name "str" p45).Call [(Name "self" p46).Attribute "_current_line" p47] [] p48] [] p49) p50] p51] [] p52::r3)
  (e3:r3=[Stmt.Expr ((((Name "self" p53).Attribute "_current_line" p54).Attribute "reset" p55).Call [] [] p56) p57])
  (hl1:(p3.endLine==p4.line)=true) (hl2:(p27.endLine==p28.line)=true) (hl3:(p44.endLine==p49.line)=true) (hl4:(p55.endLine==p56.line)=true)
  (hself:knd fd "self"=some .local) (heol:knd fd "end_of_line"=some .local) (hlen:knd fd "len"=some .globalImplicit) (hstr:knd fd "str"=some .globalImplicit) (hbind:∀x:Value,bindArgs fd ⟨[x],[]⟩=pure [(ofString "self",x)]):gZ prog w Sta Z V C f:=by
 intro m dm L c dc wd sp lines A E s hb a b ps hA B F hsm hln hoa hob hbe hpl hsp;refine FX.enterF W K VV LK D hself hbody (.of_eq (hbind _)) (fun x hx=>List.mem_singleton.mp hx▸hself) rfl hA B F (T:=fun _=>True) (fun _ _ _=>trivial) fun X s'0 K' E' hk _ _ _ O J hq=> ?_
 have hn:ps.length<=900:=Nat.le_trans (by rw [List.length_append]; exact Nat.le_add_right _ _) hsm.1;refine cK fun R n _=>wpAny_Assign_Name (FX.pop O J hn hl1 fun s'1 T t u hT J1=>FX.store O J1 (hk heol) (by decide) fun s'2 hs J2=>n _ ?_)
 have hT2:=gY J1.ns hs hT;refine eU e1 fun R n _=>wpAny_If (FX.eol_test O J2 (hk heol) (if_pos rfl) hT2 hoa hob hbe fun s3 hT3 J3=>cK fun R1 n1 _=>wpAny_Expr_any (FX.push_star O J3 (hk heol) (if_pos rfl) hT3 hn fun s4 J4=>n1 _ (wpAny_execs_nil (n _ ?_))) (oM O.kf) rfl)
 exact FX.newline_tail O J4 e2 e3 hl2 hl3 hl4 (hk hlen) (hk hstr) hsm hln hpl hsp fun s5 J5=>(hq s5 _ _ _ _ J5 fun w F=>⟨rfl,w,F⟩).2 rfl
section
theorem cN.take (h:cN ps)(j:Nat):cN (ps.take j):=⟨by have:=h.1;rw [List.length_take]; lia,fun p hp=>h.2 p (List.mem_of_mem_take hp)⟩
theorem cN.drop (h:cN ps)(j:Nat):cN (ps.drop j):=⟨by have:=h.1;rw [List.length_drop]; exact Nat.le_trans (Nat.sub_le _ _) this,fun p hp=>h.2 p (List.mem_of_mem_drop hp)⟩
theorem bB.get {vs:List Value}(x:bB h vs ps){p:Str × Str}(hi:ps[i]? =some p):∃T t u,vs[i]? =some (.ref T)/\h.IsTuple T #[.str p.1 t,.str p.2 u]:=by
 have hlt:i<vs.length:=by rw [x.1]; exact (List.getElem?_eq_some_iff.mp hi).1
 obtain ⟨T,t,u,e,hT⟩:=x.2 i _ p (List.getElem?_eq_getElem hlt) hi;exact ⟨T,t,u,by rw [List.getElem?_eq_getElem hlt,e],hT⟩
namespace FX
variable {X:FX}{ln:List Str}{Q:Flow->Shared->Prop}
theorem push (O:Ok X)(J:At X s mm ln ps){x1 x2:Str}{a b:Str}{u:Tok}(hl:(p2.endLine==p5.line)=true)(h1:knd X.fd x1=some .local)(h2:knd X.fd x2=some .local)(hd1:(x1==("__debug__":Str))=false)(hd2:(x2==("__debug__":Str))=false)(m1:mm x1=some (.str a t))(m2:mm x2=some (.str b u))(hn:ps.length<=900)
  (h:∀s',At X s' mm ln (ps++[(a,b)])->Q .next s'):
  wpAny (model X.prog X.w) X.A (exec (.Expr (.Call (.Attribute (.Attribute (.Name "self" p0) "_current_line" p1) "push" p2) [.Name x1 p3,.Name x2 p4] [] p5) p6) X.env) Q E s:=
 wpAny_Expr_any (meth O J O.LK.mpush hl rfl (Nat.le_of_ble_eq_true rfl) fun s'1 _ J=>wpAny_items_cons (name O J h1 m1 hd1 (wpAny_items_cons (name O J h2 m2 hd2 (wpAny_items_nil ⟨J.st O,wpAny_mono (qL.run O.LK.push (O.dp (Nat.le_of_ble_eq_true rfl)) (O.sub J) J.F.acc hn) (fun v s'2 h'2=>by
  obtain ⟨e,k,x⟩:=h'2;exact h s'2 (J.call O k x)) fun _ _ e=>e⟩))))) (oM O.kf) rfl
theorem over (O:Ok X)(J:At X s mm ln ps){whole:Sem Value}{Q:Bool->Shared->Prop}(kl:knd X.fd "len"=some .globalImplicit)(hs:cN ps)(h:∀s',At X s' mm ln ps->Q (decide (eW ps>X.wd)) s'):
  wpAny (model X.prog X.w) X.A (isTrue (.Compare (.Call (.Name "len" p0) [.Attribute (.Name "self" p1) "_current_line" p2] [] p3) [.Gt] [.Attribute (.Name "self" p4) "_maxlen" p5] p6) X.env whole) Q E s:=
 wpAny_isTrue_Compare1 (len O J hs kl fun s'2 t J=>aHs O.VV rfl (me O J ⟨rfl,J.st O,J.F,fun t=>gt_int (wpAny_truthy_bool (h _ J.tok))⟩)) (by rfl)
theorem aN8 (O:Ok X){a b:Str}(J:At X s mm ln (ps++[(a,b)]))(hn:ps.length<=900){y:Str}(hl:(p78.endLine==p79.line)=true)(hx:knd X.fd x=some .local)(hy:knd X.fd y=some .local)(hxs:ofString "self"≠x)(hys:ofString "self"≠y)(hyx:x≠y)
  (h:∀s' t u,At X s' (fun z=>if z=y then some (.str b u) else if z=x then some (.str a t) else mm z) ln ps->Q .next s'):
  wpAny (model X.prog X.w) X.A (exec (Stmt.Assign [Expr.Tuple [Name x p73,Name y p74] 0 p75] ((((Name "self" p76).Attribute "_current_line" p77).Attribute "pop" p78).Call [] [] p79) p80) X.env) Q E s:=by
 refine Assign_Tuple (pop O J hn hl fun s'2 T t u hT J2=>wpAny_assign_Tuple O.R.handled hT rfl rfl fun h' he=> ?_) rfl rfl;have J3:At X {s'2 with heap:=h',toks:=s'2.toks} mm ln ps:=J2.keep fun b o e=>he b o (Nat.ne_of_lt (Heap.lt_size e)) e
 show wpAny _ X.A (do holding [Value.str b u] (assign (.Name x p73) X.env (.str a t)); assignInOrder [assign (.Name y p74) X.env] [Value.str b u]) _ _ _;refine wpAny_bind (wpAny_holding (wpAny_assign_Name (store O J3 hx hxs fun s4 _ J4=> ?_)));show wpAny _ X.A (do holding [] (assign (.Name y p74) X.env (.str b u)); assignInOrder [] []) _ _ _;exact wpAny_bind (wpAny_holding (wpAny_assign_Name (store O J4 hy hys fun s5 _ J5=>wpAny_pure (h _ t u J5))))
theorem back_tail (O:Ok X){a b:Str}(J:At X s mm ln (ps++[(a,b)]))(hn:ps.length<=900)
  {nl l:List Stmt}
  (hl:l=[Stmt.Assign [Expr.Tuple [Name "fws" p73,Name "part" p74] 0 p75] ((((Name "self" p76).Attribute "_current_line" p77).Attribute "pop" p78).Call [] [] p79) p80,
   Stmt.If ((((Name "self" p81).Attribute "_current_line" p82).Attribute "_initial_size" p83).Compare [.Gt] [Constant (.int 0) 0 p84] p85) nl [] p96,
   Stmt.Expr ((((Name "self" p97).Attribute "_current_line" p98).Attribute "push" p99).Call [Name "fws" p100,Name "part" p101] [] p102) p103,Stmt.Return none p104])
  (hl1:(p78.endLine==p79.line)=true) (hl2:(p99.endLine==p102.line)=true) (hx:knd X.fd "fws"=some .local) (hy:knd X.fd "part"=some .local)
  (h:∀s' mm',At X s' mm' ln (ps++[(a,b)])->Q (.ret .none) s'):wpAny (model X.prog X.w) X.A (execs l X.env) Q E s:=by
 refine eU hl fun R n r=>aN8 O J hn hl1 hx hy (by decide) (by decide) (by decide) fun s'1 t u J=>n _ (cK fun R1 n1 r1=>wpAny_If (wpAny_isTrue_Compare1 (oO (c:=X.c) (dc:=X.dc) (ps:=ps) O.K rfl (line O J fun s'2 _ J=>⟨rfl,J.st O,J.F.acc,fun t=>wpAny_Constant_int (gt_int (wpAny_truthy_bool (wpAny_execs_nil (n1 _ ?_))))⟩)) (by rfl)))
 exact cK fun R2 n2 r2=>push O (At.tok (t:=s'2.toks+1+1) J) hl2 hx hy rfl rfl ((if_neg (by decide)).trans (if_pos rfl)) (if_pos rfl) hn fun s3 J=>n2 _ (cK fun R3 n3 r3=>wpAny_Return_none (r3 _ _ (h _ _ J)))
theorem cut_tail (O:Ok X)(J:At X s mm ln qs){ti:Tok}{l:List Stmt}
  (e:l=[Stmt.Assign [Name "remainder" p106] ((((Name "self" p107).Attribute "_current_line" p108).Attribute "pop_from" p109).Call [Name "i" p110] [] p111) p112,
   Stmt.Expr ((((Name "self" p113).Attribute "_lines" p114).Attribute "append" p115).Call [(Name "str" p116).Call [(Name "self" p117).Attribute "_current_line" p118] [] p119] [] p120) p121,
   Stmt.Expr ((((Name "self" p122).Attribute "_current_line" p123).Attribute "reset" p124).Call [Name "remainder" p125] [] p126) p127])
  (hl1:(p109.endLine==p111.line)=true) (hl2:(p115.endLine==p120.line)=true) (hl3:(p124.endLine==p126.line)=true) (hi:knd X.fd "i"=some .local) (hr:knd X.fd "remainder"=some .local) (hstr:knd X.fd "str"=some .globalImplicit)
  (m2:mm "i"=some (.int j ti)) (hj:j<=qs.length) (hsm:cN qs) (hln:ln.length<=900)
  (h:∀s' mm',At X s' mm' (ln++[bC (qs.take j)]) (qs.drop j)->Q .next s'):wpAny (model X.prog X.w) X.A (execs l X.env) Q E s:=by
 refine eU e fun R n r=>wpAny_Assign_Name (meth O J O.LK.mpf hl1 rfl (Nat.le_of_ble_eq_true rfl) fun s'1 _ J=>wpAny_items_cons (name O J hi m2 rfl (wpAny_items_nil ⟨J.st O,wpAny_mono (O.LK.pf X.c X.dc _ _ _ X.hb qs j ti hj (O.dp (Nat.le_of_ble_eq_true rfl)) (O.sub J) J.F.acc hsm.1) (fun v s'2 h'2=> ?_) fun _ _ e=>e⟩)))
 obtain ⟨⟨P,us,ev,hP,hus,hP0⟩,k,x⟩:=h'2;rw [ev];have hPF:P∉X.all:=fun q=>by obtain ⟨o,e⟩:=J.F.exs P q;rw [hP0] at e;exact no1 e
 have hPl:P≠X.env.locals:=fun q=>by obtain ⟨o,es,ep,e,_⟩:=J.ns;rw [<- q,hP0] at e;exact no1 e
 have J2:=J.call O k x;refine store O J2 hr (by decide) fun s3 hs J3=>n _ ?_
 have hP3:s3.heap.PlainList P us:=hP.at fun o e=>hs.extBut P o hPl e
 have hus3:bB s3.heap us.toList (qs.drop j):=hus.keeps fun T vals hT=>gY J2.ns hs hT
 refine cK fun R1 n1 r1=>append O J3 (hsm.take j) hln hstr hl2 fun s4 kk J4=>n1 _ ?_
 have noZ:∀{b o},s3.heap.get? b=some o->(∃ items n,o.data= .seq items n)->b∉X.Z.map (·.2):=fun e ⟨items,n,hd⟩ q=>by
  obtain ⟨z,hz1,rfl⟩:=List.mem_map.mp q;obtain ⟨ps,_,_,ht⟩:=(J3.B O).z.at' z hz1;rw [e] at ht;(replace ht:=Option.some.inj ht;subst ht); exact nomatch hd
 have hP4:s4.heap.PlainList P us:=hP3.at fun o e=>kk P o (fun q=>hPF (q▸ .tail _ (.tail _ (.head _)))) (noZ e (by obtain ⟨n,e'⟩:=hP3;rw [e'] at e;(replace e:=Option.some.inj e;subst e); exact ⟨_,_,rfl⟩)) e
 have hus4:bB s4.heap us.toList (qs.drop j):=hus3.keeps fun T vals zz=>by
  obtain ⟨o,e,hc,n,hd⟩:=zz;refine ⟨o,kk T o (fun q=> ?_) (noZ e ⟨_,_,hd⟩) e,hc,n,hd⟩;obtain ⟨us',⟨n',e'⟩,_⟩:=J3.F.lines;rw [q,e'] at e;(replace e:=Option.some.inj e;subst e); exact absurd (show Value.type "list"=Value.type "tuple" from hc) (by decide)
 have hlt:(qs.take j).length<=900:=(hsm.take j).1;refine cK fun R2 n2 r2=>wpAny_Expr_any (meth O J4 O.LK.mreset hl3 rfl (Nat.le_of_ble_eq_true rfl) fun s5 e5 J5=>wpAny_items_cons (name O J5 hr (v:= .ref P) (if_pos rfl) rfl (wpAny_items_nil ⟨J5.st O,wpAny_mono (O.LK.reset.2 X.c X.dc _ _ _ X.hb P us (qs.take j) (qs.drop j) (O.dp (Nat.le_of_ble_eq_true rfl)) (O.sub J5) J5.F.acc hlt (e5▸hP4) (e5▸hus4) (hsm.drop j).1 (fun q=>hPF (q▸ .tail _ (.tail _ (.tail _ (.head _)))))) (fun v s6 h'6=> ?_) fun _ _ e=>e⟩))) (oM O.kf) rfl
 obtain ⟨_,k,x⟩:=h'6;exact n2 _ (wpAny_execs_nil (h _ _ (J5.call O k x)))
end FX
end
section
noncomputable def bV (wd:Int)(lines:List Str)(ps:List (Str × Str))(p:Str × Str):List Str × List (Str × Str):=
 if eW (ps++[p])>wd then (match ps with | []=>(lines,[p]) | _=>(lines++[bC ps],[p])) else (lines,ps++[p])
def lE (prog:Program)(w:World)(Sta:Heap->Prop)(Z:List (Addr × Addr))(V C f:Addr):Prop:=
 ∀(m dm L c dc:Addr)(wd:Int)(sp:Str)(cc:Nat)(lines:List Str)(A:Around)(E:Value->Shared->Prop)(s:Shared)(hb:Heap)(a b:Str)(t u:Tok)(ps:List (Str × Str)),bT A 35->Bs Sta Z [m,dm,L,c,dc] hb s.heap->Fm V C s.heap m dm L c dc wd sp lines ps->
  cN (ps++[(a,b)])->lines.length<=900->sp.cps= #[cc]->Txt.isspace sp=true->a.cps= #[cc]->
  wpAny (model prog w) A (call (.ref f) [.ref m,.str a t,.str b u]) (fun v s'=>v= .none/\KW [L,c,dc] Z s s'/\Fm V C s'.heap m dm L c dc wd sp (bV wd lines ps (a,b)).1 (bV wd lines ps (a,b)).2) E s
theorem oS {cc:Nat}(h:x.cps= #[cc]):x=⟨#[cc]⟩:=by cases x;cases h;rfl
namespace FX
variable {X:FX}{ln:List Str}{Q:Flow->Shared->Prop}
theorem rng (O:Ok X)(J:At X s mm ln qs){Q:Value->Shared->Prop}(hl1:(p21.endLine==p22.line)=true)(hr:knd X.fd "range"=some .globalImplicit)
  (h:∀s' r t u v,(∀ b o,b∉X.Z.map (·.2)->s.heap.get? b=some o->s'.heap.get? b=some o)->At X s' mm ln qs->IsRange s'.heap r ((qs.length:Int)- 1) 0 (-1) t u v->Q (.ref r) s'):
  wpAny (model X.prog X.w) X.A (eval ((Name "range" p18).Call [((((Name "self" p19).Attribute "_current_line" p20).Attribute "part_count" p21).Call [] [] p22).BinOp .Sub (Constant (.int 1) 0 p23) p24,Constant (.int 0) 0 p25,Expr.UnaryOp .USub (Constant (.int 1) 0 p26) p27] [] p28) X.env) Q E s:=by
 obtain ⟨hg,hb⟩:=O.W.ns _ (J.st O);refine lD O.kf ((O.ko _).trans hr) rfl (O.ge▸hg) (O.be▸hb) O.W.rng.1 O.W.rng.2 rfl (wpAny_items_cons (wpAny_BinOp (count O J hl1 fun s'2 t k J=>wpAny_Constant_int (sub_int (wpAny_items_cons (wpAny_Constant_int (wpAny_items_cons (wpAny_UnaryOp (wpAny_Constant_int (neg_int (wpAny_items_nil ?_)))))))))));refine call_range_3 (by decide) ?_ (.inl (PyProof.noPylong_small (by decide)));exact h _ _ _ _ _ (fun b o h2 e=>Heap.get?_push_of_some _ (k.keep b o (fun h=>nomatch h) h2 e)) (J.keep fun b o e=>Heap.get?_push_of_some _ e) (Heap.get?_push_size _ rfl)
theorem aN9 (O:Ok X)(J:At X s mm ln qs){Q:Value->Shared->Prop}{g y:Str}{ti:Tok}(hi:knd X.fd "i"=some .local)(m2:mm "i"=some (.int (j:Int) ti))(hq:qs[j]? =some (g,y))(hn:qs.length<=900)(h:∀s' u,At X s' mm ln qs->Q (.str g u) s'):
  wpAny (model X.prog X.w) X.A (eval ((((Name "self" p33).Attribute "_current_line" p34).Subscript (Name "i" p35) p36).Subscript (Constant (.int 0) 0 p37) p38) X.env) Q E s:=by
 obtain ⟨vs,hls,hps⟩:=id J.F.acc.seq;obtain ⟨T,t,u,hT,hTT⟩:=hps.get hq;rw [Array.getElem?_toList] at hT;have hj:j<qs.length:=(List.getElem?_eq_some_iff.mp hq).1;refine iJ (aKj (c:=X.c) (dc:=X.dc) (vs:=vs) O.K (line O J fun s'1 e J1=> ?_));have hls1:fO s'1.heap X.C X.c X.dc vs:=e▸hls;have hT1:s'1.heap.IsTuple T #[.str g t,.str y u]:=e▸hTT;refine name O J1 hi m2 rfl ⟨rfl,J1.st O,hls1,?_⟩;refine aAo (O.K.cls _ (J1.st O)) O.K.gi hls1 (by lia) (by lia) (x:= .ref T) (by rw [<- hT]; rfl) ?_;exact wpAny_Constant_int ⟨"tuple",_,Heap.IsTuple.typeIs hT1,slot_tuple_getitem.lookup,getItem_tuple hT1 (j:=0) (by decide) (by decide) (by rfl) (by rfl) (h _ t (At.tok (s:=s'1) J1))⟩
theorem xL (O:Ok X)(J:At X s mm ln qs){whole:Sem Value}{ch g:Str}{tc u:Tok}{cc:Nat}{Q:Bool->Shared->Prop}(hf:knd X.fd "fws"=some .local)(hch:knd X.fd "ch"=some .local)
  (m0:mm "fws"=some (.str g u)) (m1:mm "ch"=some (.str ch tc)) (hc1:ch.cps= #[cc]) (hg:g.cps= #[cc]) (h:∀s',At X s' mm ln qs->Q true s'):
  wpAny (model X.prog X.w) X.A (isTrue (Expr.BoolOp .And [Name "fws" p40,((Name "fws" p41).Subscript (Constant (.int 0) 0 p42) p43).Compare [.Eq] [Name "ch" p44] p45] p46) X.env whole) Q E s:=by
 obtain rfl:=oS hg;refine wpAny_isTrue_BoolOp (wpAny_allTrue_And_cons (isTrue_plain (name O J hf m0 rfl (P.truthy_str (by show ¬((1:Nat):Int)>=2^63;decide) ?_)) rfl));rw [show (((⟨#[cc]⟩:Str).length:Int) !=0)=true from rfl];refine wpAny_allTrue_And_cons (wpAny_isTrue_Compare1 (iJ (name O (At.tok (s:=s) J) hf m0 rfl (wpAny_Constant_int ⟨"str",_,typeIs_str _ _ _,slot_str_getitem.lookup,PyProof.Rows.getItem_str (c:=cc) (by decide) rfl ?_⟩))) (by rfl));refine name O (At.tok (s:=s) J) hch m1 rfl (eq_str ?_);rw [oS hc1,beq_self_eq_true];exact wpAny_truthy_bool (wpAny_allTrue_And_nil (h _ J.tok))
theorem sT (O:Ok X)(J:At X s mm ln qs){l tl:List Stmt}{ch g y:Str}{tc ti:Tok}{cc:Nat}
  (el:l=Stmt.If (((Name "ch" p29).Attribute "isspace" p30).Call [] [] p31) blank [] p49::tl) (eb:blank=[Stmt.Assign [Name "fws" p32] ((((Name "self" p33).Attribute "_current_line" p34).Subscript (Name "i" p35) p36).Subscript (Constant (.int 0) 0 p37) p38) p39,Stmt.If (Expr.BoolOp .And [Name "fws" p40,((Name "fws" p41).Subscript (Constant (.int 0) 0 p42) p43).Compare [.Eq] [Name "ch" p44] p45] p46) [Stmt.Break p47] [] p48])
  (hl:(p30.endLine==p31.line)=true) (hch:knd X.fd "ch"=some .local) (hi:knd X.fd "i"=some .local) (hf:knd X.fd "fws"=some .local)
  (m1:mm "ch"=some (.str ch tc)) (m2:mm "i"=some (.int (j:Int) ti)) (hchs:Txt.isspace ch=true) (hc1:ch.cps= #[cc]) (hq:qs[j]? =some (g,y)) (hg:g.cps= #[cc]) (hn:qs.length<=900)
  (h:∀s' mm',At X s' mm' ln qs->mm' "i"=some (.int (j:Int) ti)->Q .brk s'):wpAny (model X.prog X.w) X.A (execs l X.env) Q E s:=by
 refine eU el fun R n r=>wpAny_If (isTrue_plain (aT rfl hl rfl (Nat.le_of_ble_eq_true rfl) (name O J hch m1 rfl fun pl=>GM.isspace (callWith_builtin rfl (aF rfl (wpAny_items_nil (SC.isspace ?_)))))) rfl)
 rw [hchs];refine wpAny_truthy_bool (eU eb fun R1 n1 r1=>wpAny_Assign_Name (aN9 O (At.tok (s:=s) J) hi m2 hq hn fun s'1 u J1=>store O J1 hf (by decide) fun s'2 _ J2=>n1 _ ?_));exact eU rfl fun R2 n2 r2=>wpAny_If (xL O J2 hf hch (if_pos rfl) ((if_neg (by decide)).trans m1) hc1 hg fun s3 J3=>wpAny_execs_cons (wpAny_Break (r2 _ _ nofun (r _ _ nofun (h _ _ J3 ((if_neg (by decide)).trans m2))))))
section
variable {m0:Str->Option Value}
theorem aBd (O:Ok X)(J:At X s mm ln qs)
  {l els tl:List Stmt} {ch g y:Str} {tc:Tok} {cc:Nat}
  (el:l=Stmt.If (((Name "ch" p29).Attribute "isspace" p30).Call [] [] p31) blank [] p49::tl) (eb:blank=[Stmt.Assign [Name "fws" p32] ((((Name "self" p33).Attribute "_current_line" p34).Subscript (Name "i" p35) p36).Subscript (Constant (.int 0) 0 p37) p38) p39,Stmt.If (Expr.BoolOp .And [Name "fws" p40,((Name "fws" p41).Subscript (Constant (.int 0) 0 p42) p43).Compare [.Eq] [Name "ch" p44] p45] p46) [Stmt.Break p47] [] p48])
  (hl0':(p21.endLine==p22.line)=true) (hl:(p30.endLine==p31.line)=true) (hr:knd X.fd "range"=some .globalImplicit) (hch:knd X.fd "ch"=some .local) (hi:knd X.fd "i"=some .local) (hf:knd X.fd "fws"=some .local)
  (m1:mm "ch"=some (.str ch tc)) (hchs:Txt.isspace ch=true) (hc1:ch.cps= #[cc]) (hq:qs[j+1]? =some (g,y)) (hjl:qs.length=j+2) (hg:g.cps= #[cc]) (hn:qs.length<=900)
  (h:∀s' mm' ti,At X s' mm' ln qs->mm' "i"=some (.int ((j+1:Nat):Int) ti)->Q .next s'):
  wpAny (model X.prog X.w) X.A (exec (Stmt.For (Name "i" p17) ((Name "range" p18).Call [((((Name "self" p19).Attribute "_current_line" p20).Attribute "part_count" p21).Call [] [] p22).BinOp .Sub (Constant (.int 1) 0 p23) p24,Constant (.int 0) 0 p25,Expr.UnaryOp .USub (Constant (.int 1) 0 p26) p27] [] p28) l els p71) X.env) Q E s:=by
 refine wpAny_For (rng O J hl0' hr fun s'1 r t u v _ J1 hr1=> ?_) (fun _=>rfl);have e1:(((qs.length:Int)- 1- 0).toNat)=j+1:=by lia
 have hit:aV (.range ((qs.length:Int)- 1) 0 (-1))=some (.int ((qs.length:Int)- 1+((0:Nat):Int)*(-1))::((List.range j).map Nat.succ).map fun (i:Nat)=>AV.int ((qs.length:Int)- 1+(i:Int)*(-1))):=by
  show bD _ _ _=_;unfold bD bP;rw [if_pos ⟨decide_eq_true ⟨by lia,by lia⟩,by decide⟩,if_neg (by decide),if_pos rfl,e1,List.range_succ_eq_map,List.map_cons]
 refine aBc (M:=[]) O.R.handled hit (Den.range hr1) ((O.ko _).trans hi) (by rw [O.kf]; rfl) J1.ns fun v' h'2 h'3 tk E' hv k12 hs3 hns'3=> ?_
 obtain ⟨ti,ev⟩:=hv.int_inv;have J2:At X {s'1 with heap:=h'2,toks:=tk} mm ln qs:=J1.keep k12;have J3:=At.set (t:=tk) J2 O hns'3 hs3 ((if_neg (by decide)).trans J2.me);refine sT O J3 el eb hl hch hi hf ((if_neg (by decide)).trans m1) ((if_pos rfl).trans (congrArg some (ev.trans (congrArg (fun x=>Value.int x ti) (by lia))))) hchs hc1 hq hg hn fun s' mm' J' e=>⟨rfl,h s' mm' ti J' e⟩
end
end FX
end
section
theorem Fm.kz {m l:Addr}(F:Fm V C h m dm L c dc wd sp lines ps)(hz:Zok Z [m,dm,L,c,dc] h)(hns:h.Ns l mm)(hl:l∉[m,dm,L,c,dc])
  (k:∀b o,b≠l->b∉Z.map (·.2)->h.get? b=some o->h'.get? b=some o):Fm V C h' m dm L c dc wd sp lines ps:=by
 have kk:∀y∈[m,dm,L,c,dc], ∀o,h.get? y=some o->h'.get? y=some o:=fun y hy o e=>k y o (fun q=>hl (q▸hy)) (fun q=>by obtain ⟨z,hz1,e1⟩:=List.mem_map.mp q;exact (hz.apart z hz1 y hy).2 e1.symm) e
 have kt:∀T vals,h.IsTuple T vals->h'.IsTuple T vals:=fun T vals zz=>by obtain ⟨o,e,hc,n,hd⟩:=zz;exact ⟨o,k T o (fun q=>by
  obtain ⟨o',es,ep,e2,e3,_⟩:=hns;rw [q,e2] at e;(replace e:=(Option.some.inj e).symm;subst e); rw [e3] at hd;exact nomatch hd) (fun q=>by
  obtain ⟨z,hz1,rfl⟩:=List.mem_map.mp q;obtain ⟨ps,_,_,ht⟩:=hz.at' z hz1;rw [e] at ht;(replace ht:=Option.some.inj ht;subst ht); exact nomatch hc) e,hc,n,hd⟩
 obtain ⟨o,h1,h2,h3,h4,h5⟩:=F.obj;obtain ⟨mA,h6,h7⟩:=F.att;obtain ⟨us,h8,h9⟩:=F.lines;obtain ⟨vs,x1,x2⟩:=F.acc.seq;obtain ⟨t,x3⟩:=F.acc.dict;exact ⟨⟨o,kk m (by simp) _ h1,h2,h3,h4,h5⟩,⟨mA,h6.at fun o e=>kk dm (by simp) o e,h7⟩,⟨us,h8.at fun o e=>kk L (by simp) o e,h9⟩,⟨⟨vs,x1.at fun o e=>kk c (by simp) o e,x2.keeps kt⟩,⟨t,x3.at fun o e=>kk dc (by simp) o e⟩,F.acc.ne⟩,F.ap⟩
namespace FX
variable {X:FX}{ln:List Str}{Q:Flow->Shared->Prop}
theorem At.ex (J:At X s mm ln qs)(O:Ok X){b:Addr}(hb:b∈X.env.locals::([X.c,X.dc]++X.Z.map (·.2))):∃o,s.heap.get? b=some o:=by
 rcases List.mem_cons.mp hb with e | hb
 ·obtain ⟨o,es,ep,e',_⟩:=J.ns;exact ⟨o,e▸e'⟩
 ·rcases List.mem_append.mp hb with hb | hb
  ·exact J.F.exs b (up5 b hb)
  ·obtain ⟨z,hz,e⟩:=List.mem_map.mp hb;obtain ⟨ps,_,_,ht⟩:=(J.B O).z.at' z hz;exact ⟨_,e▸ht⟩
theorem At.skip (J:At X s mm ln qs)(O:Ok X){mm':Str->Option Value}{h'3 h'4:Heap}{tk:Tok}(kk:∀b o,b≠X.env.locals->s.heap.get? b=some o->h'3.get? b=some o)(hn:h'3.Ns X.env.locals mm')(hm:mm' "self"=some (.ref X.m))(w:KW [X.L,X.c,X.dc] X.Z X.s0 s'2)
  (k:∀b o,b∉X.Z.map (·.2)->h'3.get? b=some o->s'2.heap.get? b=some o) (k4:∀b o,(∃ o',s.heap.get? b=some o')->s'2.heap.get? b=some o->h'4.get? b=some o):At X {s'2 with heap:=h'4,toks:=tk} mm' ln qs:=by
 have hl:∃o,s.heap.get? X.env.locals=some o:=J.ex O (.head _);have hn4:h'4.Ns X.env.locals mm':=hn.at' fun o e=>k4 _ o hl (k _ o O.LZ e)
 refine ⟨hn4,J.F.kz (J.B O).z J.ns O.LF fun b o h1 h2 e=>k4 b o ⟨o,e⟩ (k b o h2 (kk b o h1 e)),w.skip (P:=fun b=>∃o',s.heap.get? b=some o') k4 fun b o e=> ?_,hm⟩
 by_cases h1:b∈X.all
 ·exact J.F.exs b h1
 by_cases h2:b∈X.Z.map (·.2)
 ·exact J.ex O (.tail _ (List.mem_append_right _ h2))
 ·exact ⟨o,J.w.keep b o (fun q=>h1 (aEf _ q)) h2 e⟩
theorem aKn (O:Ok X)(J:At X s mm ln qs){Q:Value->Shared->Prop}(h:∀t,Q (.str X.sp t) {s with toks:=s.toks+1}):wpAny (model X.prog X.w) X.A (eval ((Name "self" p).Attribute "_splitchars" q) X.env) Q E s:=
 sR O.VV rfl (me O J ⟨rfl,J.st O,J.F,h⟩)
theorem outer_cut (O:Ok X)(J:At X s mm ln qs)
  {l l2 els els2 tl:List Stmt} {g y:Str} {cc:Nat}
  (el:l=Stmt.If (((Name "ch" p29).Attribute "isspace" p30).Call [] [] p31) blank [] p49::tl) (eb:blank=[Stmt.Assign [Name "fws" p32] ((((Name "self" p33).Attribute "_current_line" p34).Subscript (Name "i" p35) p36).Subscript (Constant (.int 0) 0 p37) p38) p39,Stmt.If (Expr.BoolOp .And [Name "fws" p40,((Name "fws" p41).Subscript (Constant (.int 0) 0 p42) p43).Compare [.Eq] [Name "ch" p44] p45] p46) [Stmt.Break p47] [] p48])
  (el2:l2=[Stmt.For (Name "i" p17) ((Name "range" p18).Call [((((Name "self" p19).Attribute "_current_line" p20).Attribute "part_count" p21).Call [] [] p22).BinOp .Sub (Constant (.int 1) 0 p23) p24,Constant (.int 0) 0 p25,Expr.UnaryOp .USub (Constant (.int 1) 0 p26) p27] [] p28) l els p71,Stmt.Break p72])
  (hl0':(p21.endLine==p22.line)=true) (hl:(p30.endLine==p31.line)=true) (hr:knd X.fd "range"=some .globalImplicit) (hch:knd X.fd "ch"=some .local) (hi:knd X.fd "i"=some .local) (hf:knd X.fd "fws"=some .local)
  (hchs:Txt.isspace X.sp=true) (hc1:X.sp.cps= #[cc]) (hq:qs[j+1]? =some (g,y)) (hjl:qs.length=j+2) (hg:g.cps= #[cc]) (hn:qs.length<=900)
  (h:∀s' mm' ti,At X s' mm' ln qs->mm' "i"=some (.int ((j+1:Nat):Int) ti)->Q .next s'):
  wpAny (model X.prog X.w) X.A (exec (Stmt.For (Name "ch" p14) ((Name "self" p15).Attribute "_splitchars" p16) l2 els2 p105) X.env) Q E s:=by
 refine wpAny_For (aKn O J fun t=> ?_) (fun _=>rfl);have hit:aV (.str X.sp)=some (.str X.sp::[]):=by rw [oS hc1]; rfl
 refine aBc (M:=[]) O.R.handled hit (Den.str _ _) ((O.ko _).trans hch) (by rw [O.kf]; rfl) J.ns fun v' h'2 h'3 tk E' hv k12 hs3 hns'3=> ?_
 obtain ⟨tc,ev⟩:=hv.str_inv;have J2:At X {s with heap:=h'2,toks:=tk} mm ln qs:=J.keep k12;have J3:=At.set (t:=tk) J2 O hns'3 hs3 ((if_neg (by decide)).trans J2.me);exact eU el2 fun R n r=>aBd O J3 el eb hl0' hl hr hch hi hf ((if_pos rfl).trans (congrArg some ev)) hchs hc1 hq hjl hg hn fun s' mm' ti J' e=>n _ (wpAny_execs_cons (wpAny_Break ⟨rfl,h s' mm' ti J' e⟩))
theorem outer_back (O:Ok X){a b:Str}(J:At X s mm ln [(a,b)]){l l2 els2 r:List Stmt}
  (el2:l2=Stmt.For (Name "i" p17) ((Name "range" p18).Call [((((Name "self" p19).Attribute "_current_line" p20).Attribute "part_count" p21).Call [] [] p22).BinOp .Sub (Constant (.int 1) 0 p23) p24,Constant (.int 0) 0 p25,Expr.UnaryOp .USub (Constant (.int 1) 0 p26) p27] [] p28) l [Stmt.Continue p70] p71::r)
  (hl0':(p21.endLine==p22.line)=true) (hr:knd X.fd "range"=some .globalImplicit) (hch:knd X.fd "ch"=some .local) {cc:Nat} (hc1:X.sp.cps= #[cc])
  (h:∀s' mm' E',At X s' mm' ln [(a,b)]->wpAny (model X.prog X.w) X.A (execs els2 X.env) Q E' s'):
  wpAny (model X.prog X.w) X.A (exec (Stmt.For (Name "ch" p14) ((Name "self" p15).Attribute "_splitchars" p16) l2 els2 p105) X.env) Q E s:=by
 refine wpAny_For (aKn O J fun t=> ?_) (fun _=>rfl);have hit:aV (.str X.sp)=some [.str X.sp]:=by rw [oS hc1]; rfl
 have J0:At X {s with toks:=s.toks+1} mm ln [(a,b)]:=J.tok;refine aHu (M:=X.env.locals::([X.c,X.dc]++X.Z.map (·.2))) O.R.handled hit (Den.str _ _) ((O.ko _).trans hch) (by rw [O.kf]; rfl) J0.ns (fun b hb=>J0.ex O hb) (List.mem_cons_self ..) fun v' h'2 h'3 tk E' hv k12 hs3 hns'3=> ?_
 have J2:At X {s with heap:=h'2,toks:=tk} mm ln [(a,b)]:=J.keep k12;have hm:(fun z=>if z=ofString "ch" then some v' else mm z) (ofString "self")=some (.ref X.m):=(if_neg (by decide)).trans J2.me;have J3:=At.set (t:=tk) J2 O hns'3 hs3 hm;refine eU el2 fun R n r=>wpAny_For (rng O J3 hl0' hr fun s'1 _ t u v k3 J4 hr1=> ?_) (fun _=>rfl)
 refine aEe (M:=[]) O.R.handled (xv:= .range ((([(a,b)]:List (Str × Str)).length:Int)- 1) 0 (-1)) (by rfl) (Den.range hr1) fun s'2 E'' k2=> ?_
 have k5:∀b o,b∉X.Z.map (·.2)->h'3.get? b=some o->s'2.heap.get? b=some o:=fun b o hb e=>k2.get b o (k3 b o hb e)
 have J5:KW [X.L,X.c,X.dc] X.Z X.s0 s'2:=J4.w.trans (by obtain ⟨h'5,t5,rfl,k⟩:=k2;exact KW.of_keep k);exact wpAny_execs_cons (wpAny_Continue (r _ _ nofun ⟨.inr rfl,fun b o hb e=>k5 b o (fun q=>hb (.tail _ (List.mem_append_right _ q))) e,fun h'4 tk4 E3 k4=>h _ _ _ (J.skip O (fun b o h1 e=>hs3.extBut b o h1 (k12 b o e)) hns'3 hm J5 k5 k4)⟩))
end FX
end
theorem sU {p:Str × Str}(h:eW (ps++[p])>wd)(e:ps=[]):bV wd lines ps p=(lines,[p]):=by subst e;exact if_pos h
theorem sV {p:Str × Str}(h:eW (ps++[p])>wd)(e:ps≠[]):bV wd lines ps p=(lines++[bC ps],[p]):=by
 cases ps
 ·exact absurd rfl e
 ·exact if_pos h
theorem aBe (W:FW prog w Sta Z mg mb)(K:AW prog w Sta C N mN)(VV:VW Sta V NV mV){q:FA}(LK:nE prog w Sta Z C mN q)
  {f:Addr} (D:Df Sta f fd) {nl r1 th l2 els2 r4 l tl:List Stmt}
  (hbody:fd.body= .stmts (Stmt.Expr ((((Name "self" p0).Attribute "_current_line" p1).Attribute "push" p2).Call [Name "fws" p3,Name "string" p4] [] p5) p6::r1))
  (e1:r1=[Stmt.If (((Name "len" p7).Call [(Name "self" p8).Attribute "_current_line" p9] [] p10).Compare [.Gt] [(Name "self" p11).Attribute "_maxlen" p12] p13) th [] p128])
  (e2:th=Stmt.For (Name "ch" p14) ((Name "self" p15).Attribute "_splitchars" p16) l2 els2 p105::r4)
  (e3:l2=[Stmt.For (Name "i" p17) ((Name "range" p18).Call [((((Name "self" p19).Attribute "_current_line" p20).Attribute "part_count" p21).Call [] [] p22).BinOp .Sub (Constant (.int 1) 0 p23) p24,Constant (.int 0) 0 p25,Expr.UnaryOp .USub (Constant (.int 1) 0 p26) p27] [] p28) l [Stmt.Continue p70] p71,Stmt.Break p72])
  (e4:l=Stmt.If (((Name "ch" p29).Attribute "isspace" p30).Call [] [] p31) blank [] p49::tl) (e7:blank=[Stmt.Assign [Name "fws" p32] ((((Name "self" p33).Attribute "_current_line" p34).Subscript (Name "i" p35) p36).Subscript (Constant (.int 0) 0 p37) p38) p39,Stmt.If (Expr.BoolOp .And [Name "fws" p40,((Name "fws" p41).Subscript (Constant (.int 0) 0 p42) p43).Compare [.Eq] [Name "ch" p44] p45] p46) [Stmt.Break p47] [] p48])
  (e5:els2=[Stmt.Assign [Expr.Tuple [Name "fws" p73,Name "part" p74] 0 p75] ((((Name "self" p76).Attribute "_current_line" p77).Attribute "pop" p78).Call [] [] p79) p80,Stmt.If ((((Name "self" p81).Attribute "_current_line" p82).Attribute "_initial_size" p83).Compare [.Gt] [Constant (.int 0) 0 p84] p85) nl [] p96,Stmt.Expr ((((Name "self" p97).Attribute "_current_line" p98).Attribute "push" p99).Call [Name "fws" p100,Name "part" p101] [] p102) p103,Stmt.Return none p104])
  (e6:r4=[Stmt.Assign [Name "remainder" p106] ((((Name "self" p107).Attribute "_current_line" p108).Attribute "pop_from" p109).Call [Name "i" p110] [] p111) p112,Stmt.Expr ((((Name "self" p113).Attribute "_lines" p114).Attribute "append" p115).Call [(Name "str" p116).Call [(Name "self" p117).Attribute "_current_line" p118] [] p119] [] p120) p121,Stmt.Expr ((((Name "self" p122).Attribute "_current_line" p123).Attribute "reset" p124).Call [Name "remainder" p125] [] p126) p127])
  (hl1:(p2.endLine==p5.line)=true) (hl2:(p21.endLine==p22.line)=true) (hl3:(p30.endLine==p31.line)=true) (hl4:(p78.endLine==p79.line)=true) (hl5:(p99.endLine==p102.line)=true) (hl6:(p109.endLine==p111.line)=true) (hl7:(p115.endLine==p120.line)=true) (hl8:(p124.endLine==p126.line)=true)
  (kself:knd fd "self"=some .local) (kfws:knd fd "fws"=some .local) (kstring:knd fd "string"=some .local) (klen:knd fd "len"=some .globalImplicit) (kr:knd fd "range"=some .globalImplicit) (kstr:knd fd "str"=some .globalImplicit) (kch:knd fd "ch"=some .local) (ki:knd fd "i"=some .local) (kpart:knd fd "part"=some .local) (krem:knd fd "remainder"=some .local)
  (hbind:∀x y z:Value,bindArgs fd ⟨[x,y,z],[]⟩=pure [(ofString "self",x),(ofString "fws",y),(ofString "string",z)]):lE prog w Sta Z V C f:=by
 intro m dm L c dc wd sp cc lines A E s hb a b t u ps hA B F hsm hln hsp hsps ha;refine FX.enterF W K VV LK D kself hbody (.of_eq (hbind _ _ _)) (aM5 kself kfws kstring) rfl hA B F (T:=fun _=>True) (fun _ _ _=>trivial) fun X s'0 K' E' hk ew es _ O J hq=> ?_
 have hn:ps.length<=900:=Nat.le_trans (by rw [List.length_append]; exact Nat.le_add_right _ _) hsm.1;have fin:∀{l' p'},bV wd lines ps (a,b)=(l',p')->∀s'2 mm,FX.At X s'2 mm l' p'->K' (.ret .none) s'2/\(Value.none= .none->K' .next s'2):=fun e s'2 mm J=>hq s'2 mm _ _ _ J fun w F=>⟨rfl,w,by rw [e]; exact F⟩
 refine cK fun R n _=>FX.push O J hl1 (hk kfws) (hk kstring) rfl rfl rfl rfl hn fun s'1 J=>n _ ?_
 refine eU e1 fun R1 n1 r1=>wpAny_If (FX.over O J (hk klen) hsm fun s'2 J=> ?_)
 rw [ew]
 by_cases hov:eW (ps++[(a,b)])>wd
 ·rw [decide_eq_true hov]
  by_cases hne:ps=[]
  ·refine eU e2 fun R2 n2 r2=>FX.outer_back (a:=a) (b:=b) O (hne▸J) e3 hl2 (hk kr) (hk kch) (es▸hsp) fun s3 mm E' J=> ?_
   exact FX.back_tail (ps:=[]) O J (Nat.zero_le _) e5 hl4 hl5 (hk kfws) (hk kpart) fun s4 mm J=>r2 _ _ nofun (r1 _ _ nofun (fin (sU hov hne) s4 mm J).1)
  ·obtain ⟨k,hl'⟩:∃k,ps.length=k+1:=⟨ps.length- 1,(Nat.sub_add_cancel (List.length_pos_iff.mpr hne)).symm⟩;have hq:(ps++[(a,b)])[k+1]? =some (a,b):=by rw [<- hl',List.getElem?_append_right (Nat.le_refl _),Nat.sub_self]; rfl
   refine eU e2 fun R2 n2 r2=>FX.outer_cut O J e4 e7 e3 hl2 hl3 (hk kr) (hk kch) (hk ki) (hk kfws) (es▸hsps) (es▸hsp) hq (by rw [List.length_append,hl']; rfl) ha hsm.1 fun s3 mm3 ti J m2=>n2 _ ?_
   exact FX.cut_tail (j:=k+1) O J e6 hl6 hl7 hl8 (hk ki) (hk krem) (hk kstr) m2 (by rw [List.length_append,hl']; exact Nat.le_add_right _ _) hsm hln fun s4 mm4 J=>n1 _ (wpAny_execs_nil ((fin ((sV hov hne).trans (by rw [<- hl',List.take_left,List.drop_left])) s4 mm4 J).2 rfl))
 ·rw [decide_eq_false hov];exact wpAny_execs_nil (n1 _ (wpAny_execs_nil ((fin (if_neg hov) _ _ J).2 rfl)))
structure aCr (Sta:Heap->Prop)(mV:Str->Option Value)(name:Str)(f:Addr):Prop where
 at':mV name=some (.ref f)
 fn:∃o fd,o.cls= .type "function"/\o.data= .func fd/\∀h,Sta h->h.get? f=some o
 lk:∃y,typeLookup (.type "object") name=pure y
 ni:name∉dQ
section
variable {m:Addr}
variable {f:Addr}
theorem aHv (VV:VW Sta V NV mV){name:Str}(F:aCr Sta mV name f)(hb:cI o=true)(hline:(ap.endLine==pos.line)=true)(hstar:(backTo pos (starEach args env)).any (·.1)=false)(hlen:args.length<30)
  (h:wpAny (model prog w) A (eval o env) (fun ov s'1=>ov= .ref m/\Sta s'1.heap/\(∃ mA,s'1.heap.Inst m V mA/\Fat mA wd sp L c)/\
   wpAny (model prog w) A (spliced (backTo pos (starEach args env))) (fun vs s'2=>Sta s'2.heap/\wpAny (model prog w) A (call (.ref f) (.ref m::vs)) Q E s'2) E s'1) E s):
  wpAny (model prog w) A (eval (.Call (.Attribute o name ap) args [] pos) env) Q E s:=by
 refine aT hb hline hstar hlen (wpAny_mono h (fun ov s'1 h'1 pl=> ?_) fun _ _ e=>e);obtain ⟨rfl,hS,⟨mA,I,hA⟩,h'1⟩:=h'1;obtain ⟨of,fd,hfc,hfd,hfo⟩:=F.fn;obtain ⟨y,hy⟩:=F.lk;refine mL (VV.cls _ hS) VV.ga VV.gt F.at' (hfo _ hS) hfc hy I (hA.no _ F.ni) ?_;refine callWith_function (o:=of) (fd:=fd) (aF hstar (wpAny_mono h'1 (fun vs s'2 h'2=> ?_) fun _ _ e=>e));exact ⟨⟨hfo _ h'2.1,hfd⟩,h'2.2⟩
def qU (prog:Program)(w:World)(Sta:Heap->Prop)(Z:List (Addr × Addr))(V C f:Addr):Prop:=
 ∀(m dm L c dc:Addr)(wd:Int)(sp:Str)(lines:List Str)(A:Around)(E:Value->Shared->Prop)(s:Shared)(hb:Heap)(a b sep:Str)(t:Tok)(ps:List (Str × Str)),bT A 37->Bs Sta Z [m,dm,L,c,dc] hb s.heap->Fm V C s.heap m dm L c dc wd sp lines (ps++[(a,b)])->
  cN (ps++[(a,b)])->lines.length<=900->PyData.strOk a=true->PyData.strOk b=true->b≠""->eW (ps++[(a,b)])>0->Txt.isspace (bC (ps++[(a,b)]))=false->
  ((lines++[bC (ps++[(a,b)])]).map (·.length)).sum+(lines++[bC (ps++[(a,b)])]).length*sep.length<=16777216->
  wpAny (model prog w) A (call (.ref f) [.ref m,.str sep t]) (fun v s'=>(∃ t',v= .str (Txt.join sep (lines++[bC (ps++[(a,b)])])) t')/\KW [L,c,dc] Z s s') E s
theorem aEg (W:FW prog w Sta Z mg mb)(K:AW prog w Sta C N mN)(VV:VW Sta V NV mV){q:FA}(LK:nE prog w Sta Z C mN q){fnl:Addr}(hM:aCr Sta mV "newline" fnl)(hnl:gZ prog w Sta Z V C fnl)(D:Df Sta f fd)
  {r1:List Stmt} (hbody:fd.body= .stmts (Stmt.Expr (((Name "self" p0).Attribute "newline" p1).Call [] [] p2) p3::r1)) (e1:r1=[Stmt.Return (some (((Name "linesep" p4).Attribute "join" p5).Call [(Name "self" p6).Attribute "_lines" p7] [] p8)) p9])
  (hl1:(p1.endLine==p2.line)=true) (hl2:(p5.endLine==p8.line)=true) (kself:knd fd "self"=some .local) (ksep:knd fd "linesep"=some .local)
  (hbind:∀x y:Value,bindArgs fd ⟨[x,y],[]⟩=pure [(ofString "self",x),(ofString "linesep",y)]):qU prog w Sta Z V C f:=by
 intro m dm L c dc wd sp lines A E s hb a b sep t ps hA B F hsm hln hoa hob hbe hpl hsp hsum;refine FX.enterF W K VV LK D kself hbody (.of_eq (hbind _ _)) (aIx kself ksep) rfl (hA.less (Nat.le_of_ble_eq_true rfl)) B F (T:=fun X=>bT X.A 36/\gZ X.prog X.w X.Sta X.Z X.V X.C fnl/\aCr X.Sta X.mV "newline" fnl) (fun _ _ i=>⟨i.room hA,hnl,hM⟩) fun X s'0 K' E' hk ew es T O J hq=> ?_
 refine cK fun R n _=>wpAny_Expr_any (aHv O.VV T.2.2 rfl hl1 rfl (by simp) (FX.me O J ⟨rfl,J.st O,J.F.inst,wpAny_items_nil ⟨J.st O,wpAny_mono (T.2.1 _ _ _ _ _ _ _ _ _ _ _ X.hb a b ps (T.1.less (Nat.le_of_ble_eq_true rfl)) (J.B O) J.F hsm hln hoa hob hbe hpl hsp) (fun v s'2 h'2=> ?_) fun _ _ e=>e⟩⟩)) (oM O.kf) rfl
 obtain ⟨_,k2,F2⟩:=h'2;have J2:FX.At X s'2 _ (lines++[bC (ps++[(a,b)])]) []:=⟨Ns.kw J.ns k2 (fun q=>O.LF (aEf _ q)) O.LZ,F2,J.w.trans k2,J.me⟩;refine n _ (eU e1 fun R1 n1 r1=>wpAny_Return_some (aT rfl hl2 rfl (by simp) (FX.name O J2 (hk ksep) rfl rfl fun pl=>GM.join (callWith_builtin rfl (aF rfl (wpAny_items_cons (qS O.VV rfl (FX.me O J2 ⟨rfl,J2.st O,J2.F,wpAny_items_nil ?_⟩))))))));obtain ⟨us,hLL,hus⟩:=J2.F.lines;exact PyProof.Rows.join_list hLL.isList hus hsum fun t' k=>r1 _ _ nofun (hq _ _ _ _ _ (J2.tok (t:=k)) fun w F=>⟨⟨t',rfl⟩,w⟩).1
end
section
variable {m:Addr}
variable {f:Addr}
theorem hH {rest:List Expr}
  (h:wpAny (model prog w) A (spliced (backTo pos (starEach (e::rest) env))) (fun vs s'1=>(∃ cr N bm ab ni,s'1.heap.get? C=some (aCt cr C N bm ab ni))/\wpAny (model prog w) A (call (.ref C) vs) Q E s'1) E s)
  (he:starEach (e::rest) env=(false,eval e env)::starEach rest env:=by rfl)
  (hplain:(backTo pos (starEach rest env)).any (·.1)=false:=by rfl):
  wpAny (model prog w) A (callWith pos (.ref C) [] (backTo pos (starEach (e::rest) env)) []) Q E s:=by
 rw [he] at h ⊢;have hst:((backTo pos ((false,eval e env)::starEach rest env)).any (fun x=>x.fst)||([]:List (Option Str × Sem Value)).any fun x=>x.fst.isNone)=false:=by
  show ((false||(backTo pos (starEach rest env)).any (·.1))||false)=false;rw [hplain]; rfl
 unfold callWith;refine wpAny_bind (wpAny_holding (Calls.evalArgs_plain (wpAny_mono h (fun vs s'1 h'1=> ?_) fun _ _ x=>x)));obtain ⟨hh,g,d,t,os⟩:=s'1;obtain ⟨⟨cr,N,bm,ab,ni,hC⟩,h'1⟩:=h'1;have f1:=tc_lookup;have hT:(⟨hh,g,d,t,os⟩:Shared).TypeIs (.ref C) "type":=⟨_,hC,rfl⟩;refine wpAny_bind (wpAny_standAt ?_);show wpAny _ _ (keeperOf (.ref C) >>= _) _ _ _;unfold keeperOf specialOf
 repeat (any_goals (first | assumption | with_reducible refine wpAny_loadPart_at hC ?_ | with_reducible refine wpAny_load' hC ?_ | wp_step))
 rw [if_pos (by rfl),hst];show wpAny _ _ (call (.ref C) vs [] >>= fun r=>do holding [r] point;pure r) _ _ _;exact wpAny_bind (wpAny_mono h'1 (fun r s' hr=>wpAny_bind (wpAny_holding (wpAny_point (wpAny_pure hr)))) fun _ _ x=>x)
theorem Bs.none (B:Bs Sta Z W hb h){b:Addr}(e:h.get? b=Option.none):hb.get? b=Option.none:=by
 cases e':hb.get? b with
 | none=>rfl
 | some o=>
  by_cases hz:b∈Z.map (·.2)
  ·obtain ⟨z,hz1,rfl⟩:=List.mem_map.mp hz;obtain ⟨ps,_,_,ht⟩:=B.z.at' z hz1;rw [e] at ht;exact no1 ht
  ·rw [B.keep b o hz e'] at e;exact no2 e
structure Fo (V:Addr)(h:Heap)(x dx:Addr)(mA:Str->Option Value):Prop where
 obj:∃o,h.get? x=some o/\o.cls= .ref V/\(∀ c,o.data≠ .cls c)/\o.dict=some dx/\dx≠x
 att:h.Ns1 dx mA
 no:∀n,n∉dQ->mA n=none
theorem Fo.inst {x:Addr}(X:Fo V h x dx mA):h.Inst x V mA:=by
 obtain ⟨o,h1,h2,h3,h4,h5⟩:=X.obj;exact ⟨o,h1,h2,h3,.inr ⟨dx,h4,h5,X.att⟩⟩
theorem Fo.at' {x:Addr}(X:Fo V h x dx mA)(k:∀b o,b=x\/b=dx->h.get? b=some o->h'.get? b=some o):Fo V h' x dx mA:=by
 obtain ⟨o,h1,h2⟩:=X.obj;exact ⟨⟨o,k _ _ (.inl rfl) h1,h2⟩,X.att.at fun o e=>k _ o (.inr rfl) e,X.no⟩
noncomputable def upd (mA:Str->Option Value)(n:Str)(v:Value):Str->Option Value:=fun y=>if y=n then some v else mA y
theorem aMl (VV:VW Sta V NV mV){name:Str}(hn:name∈dQ){x:Addr}{v:Value}{Q:Unit->Shared->Prop}(hS:Sta s.heap)(hz:Zok Z [x,dx] s.heap)(X:Fo V s.heap x dx mA)
  (h:∀s',KW [x,dx] Z s s'->(∀ b o,b≠x->b≠dx->s.heap.get? b=some o->s'.heap.get? b=some o)->Fo V s'.heap x dx (upd mA name v)->Q () s'):wpAny (model prog w) A (setAttr (.ref x) name v) Q E s:=by
 obtain ⟨cr,hC⟩:=kE (VV.cls _ hS);have hns:=(VV.cls _ hS).ns;obtain ⟨o,ho,hoc,hod,hdi,hne⟩:=X.obj;have hxV:x≠V:=fun e=>by rw [e,hC] at ho;(replace ho:=Option.some.inj ho;subst ho); exact nomatch hoc
 obtain ⟨hp,g,d,tk,os⟩:=s;refine store_attr PySem.F.store_object hC hns VV.sa (VV.att _ hn).1 (VV.att _ hn).2 hxV X.inst (fun h' tk' hI' hk ho'=> ?_) (ns:=dQ) (fun y hy=> ?_) (by rw [sizeLine_eq]; decide)
 ·obtain ⟨o'1,ho1,hc'1,hd'1,hsl1,hdi1⟩:=ho' _ ho;have hkk:∀b o,b≠x->b≠dx->hp.get? b=some o->h'.get? b=some o:=fun b o h1 h2 e=>hk b o h1 (fun o'0 d2 e1 e2=>by
   have e1:hp.get? x=some o'0:=e1;have ho:hp.get? x=_:=ho;rw [ho] at e1;(replace e1:=Option.some.inj e1;subst e1); rw [hdi] at e2;(replace e2:=Option.some.inj e2;subst e2); exact h2) e
  have w1:KW [x,dx] Z ⟨hp,g,d,tk,os⟩ ⟨h',g,d,tk',os⟩:=KW.out (s:=⟨hp,g,d,tk,os⟩) hz.out fun b o hb' e=>hkk b o (fun q=>hb' (by simp [q])) (fun q=>hb' (by simp [q])) e
  refine h _ w1 hkk ⟨⟨o'1,ho1,hc'1.trans hoc,fun c=>by rw [hd'1]; exact hod c,hdi1 dx hdi,hne⟩,?_,fun n hn'=> ?_⟩
  ·obtain ⟨o2,ho2,_,_,hd2⟩:=hI';rw [ho1] at ho2;(replace ho2:=Option.some.inj ho2;subst ho2)
   rcases hd2 with ⟨hn,_⟩ | ⟨d2,hd2,_,hns2⟩
   ·rw [hdi1 dx hdi] at hn;exact no2 hn
   ·rw [hdi1 dx hdi] at hd2;(replace hd2:=Option.some.inj hd2;subst hd2); exact hns2
  ·show (if n=name then _ else mA n)=none;rw [if_neg (show ¬n=name from fun q=>hn' (by rw [q]; exact hn)),X.no n hn']
 ·refine Decidable.byContradiction fun q=>hy (X.no y q)
end
def lF (prog:Program)(w:World)(Sta:Heap->Prop)(Z:List (Addr × Addr))(C:Addr):Prop:=
 ∀(A:Around)(E:Value->Shared->Prop)(s:Shared)(hb:Heap)(t:Tok),bT A 10->Bs Sta Z [] hb s.heap->
  wpAny (model prog w) A (call (.ref C) [.int 0 t]) (fun v s'=>∃x dx,v= .ref x/\KW [] Z s s'/\Acc C s'.heap x dx []/\s.heap.get? x=none/\s.heap.get? dx=none) E s
structure I0 (Sta:Heap->Prop)(Z:List (Addr × Addr))(fd:FuncData)(env:Env)(x dx:Addr)(s:Shared)(hb:Heap)(mm:Str->Option Value):Prop where
 kf:env.scope.kind= .function
 ko:∀x,env.kindOf x=knd fd x
 ge:env.globals=mainGlobals
 be:env.builtins=builtinsNs
 LW:env.locals∉[x,dx]
 LZ:env.locals∉Z.map (·.2)
 B:Bs Sta Z [x,dx] hb s.heap
 ks:knd fd "self"=some .local
 self:mm "self"=some (.ref x)
structure I1 (Z:List (Addr × Addr))(V:Addr)(env:Env)(x dx:Addr)(s:Shared)(mm mA:Str->Option Value)(s':Shared):Prop where
 kw:KW [x,dx] Z s s'
 X:Fo V s'.heap x dx mA
 ns:s'.heap.Ns env.locals mm
section
variable {x:Addr}{at':Str}{u:Value}{K:Flow->Shared->Prop}
theorem I1.keeps (I:I1 Z V env x dx s mm mA s'){tk:Nat}(k:∀b o,s'.heap.get? b=some o->h'.get? b=some o):I1 Z V env x dx s mm mA {s' with heap:=h',toks:=tk}:=⟨I.kw.trans (KW.of_keep k),I.X.at' fun b o _ e=>k b o e,I.ns.keeps k⟩
theorem I1.kw0 (H:I0 Sta Z fd env x dx s hb mm)(I:I1 Z V env x dx s mm mA s')(k:KW [] Z s' s'2):I1 Z V env x dx s mm mA s'2:=
 ⟨I.kw.trans k.wk,I.X.at' fun b o hb' e=>k.keep b o (nomatch ·) (fun q=>by
  obtain ⟨z,hz,e⟩:=List.mem_map.mp q;exact (H.B.z.apart z hz b (List.mem_cons.mpr (hb'.imp id List.mem_singleton.mpr))).2 e.symm) e,Ns.kw I.ns k (nomatch ·) H.LZ⟩
theorem I1.nil (H:I0 Sta Z fd env x dx s hb mm)(I:I1 Z V env x dx s mm mA s'){y:Addr}(e:s'.heap.get? y=none):s.heap.get? y=none:=by
 rcases h:s.heap.get? y with _ | o
 ·rfl
 by_cases h3:y∈Z.map (·.2)
 ·obtain ⟨z,hz,rfl⟩:=List.mem_map.mp h3;obtain ⟨ps,_,_,ht⟩:=(H.B.of I.kw).z.at' z hz;exact no1 (e.symm.trans ht)
 ·refine no1 (e.symm.trans (I.kw.keep y o (fun q=> ?_) h3 h))
  rcases List.mem_cons.mp q with q | q
  ·obtain ⟨o',e',_⟩:=I.X.obj;exact no1 (e.symm.trans (q▸e'))
  ·obtain ⟨o',_,_,e',_⟩:=I.X.att;exact no1 (e.symm.trans (List.mem_singleton.mp q▸e'))
theorem I1.old (I:I1 Z V env x dx s mm mA s'){y:Addr}(e:s'.heap.get? y=none):y≠x/\y≠dx:=by
 obtain ⟨o,e1,_⟩:=I.X.obj;obtain ⟨o',_,_,e2,_⟩:=I.X.att;exact ⟨fun q=>no1 (e.symm.trans (q▸e1)),fun q=>no1 (e.symm.trans (q▸e2))⟩
theorem I1.put (S:SZ Sta Z)(VV:VW Sta V NV mV)(H:I0 Sta Z fd env x dx s hb mm)(I:I1 Z V env x dx s mm mA s')(hn:at'∈dQ){Q:Unit->Shared->Prop}
  (h:∀s'2,I1 Z V env x dx s mm (upd mA at' u) s'2->(∀ b o,b≠x->b≠dx->s'.heap.get? b=some o->s'2.heap.get? b=some o)->Q () s'2):wpAny (model prog w) A (eval (.Name "self" p) env) (fun o s''=>wpAny (model prog w) A (setAttr o at' u) Q E s'') E s':=
 nm H.kf ((H.ko _).trans H.ks) I.ns H.self rfl (aMl VV hn ((H.B.of I.kw).st S) (H.B.of I.kw).z I.X fun s'2 k kk X=>h s'2 ⟨I.kw.trans k,X,Ns.kw I.ns k H.LW H.LZ⟩ kk)
theorem I1.setn (S:SZ Sta Z)(VV:VW Sta V NV mV)(H:I0 Sta Z fd env x dx s hb mm)(I:I1 Z V env x dx s mm mA s'){n:Str}(hn:at'∈dQ)(kn:knd fd n=some .local)(hm:mm n=some u)(hd:(n==("__debug__":Str))=false)
  (h:∀s'2,I1 Z V env x dx s mm (upd mA at' u) s'2->K .next s'2):wpAny (model prog w) A (exec (Stmt.Assign [(Name "self" p0).Attribute at' p1] (Name n p2) p3) env) K E s':=
 plainObj_wpAny_Assign_Attribute (nm H.kf ((H.ko _).trans kn) I.ns hm hd (I.put S VV H hn fun s'2 J _=>h s'2 J))
theorem I1.setlen (W:FW prog w Sta Z mg mb)(VV:VW Sta V NV mV)(H:I0 Sta Z fd env x dx s hb mm)(I:I1 Z V env x dx s mm mA s'){n cw:Str}(hn:at'∈dQ)(kn:knd fd n=some .local)(kl:knd fd "len"=some .globalImplicit)(hm:mm n=some (.str cw t))(hd:(n==("__debug__":Str))=false)(hcw:¬(cw.length:Int)>=2^63)
  (h:∀s'2 u,I1 Z V env x dx s mm (upd mA at' u) s'2->K .next s'2):wpAny (model prog w) A (exec (Stmt.Assign [(Name "self" p0).Attribute at' p1] ((Name "len" p2).Call [Name n p3] [] p4) p5) env) K E s':=by
 obtain ⟨hg,hbb⟩:=W.ns _ ((H.B.of I.kw).st W.sz);exact plainObj_wpAny_Assign_Attribute (cM H.kf ((H.ko _).trans kl) rfl (H.ge▸hg) (H.be▸hbb) W.len.1 W.len.2 rfl (wpAny_items_cons (nm H.kf ((H.ko _).trans kn) I.ns hm hd (wpAny_items_nil (PyProof.Rows.len_str hcw ((I.keeps fun _ _ e=>e).put W.sz VV H hn fun s'2 J _=>h s'2 _ J))))))
theorem I1.setlist (S:SZ Sta Z)(VV:VW Sta V NV mV)(H:I0 Sta Z fd env x dx s hb mm)(I:I1 Z V env x dx s mm mA s')(hn:at'∈dQ)
  (h:∀s'2 L,I1 Z V env x dx s mm (upd mA at' (.ref L)) s'2->s'2.heap.PlainList L #[]->s.heap.get? L=none->L≠x->L≠dx->K .next s'2):wpAny (model prog w) A (exec (Stmt.Assign [(Name "self" p0).Attribute at' p1] (Expr.List [] p2) p3) env) K E s':=by
 have hL:s'.heap.get? s'.heap.objs.size=none:=aR _;obtain ⟨h1,h2⟩:=I.old hL;exact plainObj_wpAny_Assign_Attribute (wpAny_List (wpAny_items_nil ⟨Nat.le_of_ble_eq_true rfl,(I.keeps (tk:=s'.toks) fun _ _ e=>Heap.get?_push_of_some _ e).put S VV H hn fun s'2 J kk=>h s'2 _ J ⟨0,kk _ _ h1 h2 (Heap.get?_push_size _ rfl)⟩ (I.nil H hL) h1 h2⟩))
theorem Fm.made {x:Addr}(X:Fo V h x dx mA)(ft:Fat mA wd sp L c)(hL:h.PlainList L #[])(ac:Acc C h c dc [])(e1:L≠x)(e2:L≠dx)(e3:c≠x)(e4:c≠dx)(e5:dc≠x)(e6:dc≠dx)(e7:L≠c)(e8:L≠dc):Fm V C h x dx L c dc wd sp [] []:=
 ⟨X.obj,⟨mA,X.att,ft⟩,⟨#[],hL,.nil⟩,ac,by simp [e1.symm,e3.symm,e5.symm],by simp [e2.symm,e4.symm,e6.symm],by simp [e7,e8]⟩
theorem Acc.empty (X:Acc C h c dc [])(k:∀b o,b=c\/b=dc->h.get? b=some o->h'.get? b=some o):Acc C h' c dc []:=by
 obtain ⟨vs,x1,x2⟩:=X.seq;have hvs:vs.toList=[]:=List.eq_nil_of_length_eq_zero x2.1;exact ⟨⟨vs,x1.at fun o e=>k _ o (.inl rfl) e,hvs▸⟨rfl,fun i v p h=>nomatch h⟩⟩,X.dict.imp fun _ d=>d.at fun o e=>k _ o (.inr rfl) e,X.ne⟩
theorem I1.setacc (W:FW prog w Sta Z mg mb)(K':AW prog w Sta C N mN)(VV:VW Sta V NV mV)(hmk:lF prog w Sta Z C)(hgA:mg "_Accumulator"=some (.ref C))(H:I0 Sta Z fd env x dx s hb mm)(I:I1 Z V env x dx s mm mA s'){n:Str}(hn:at'∈dQ)(kn:knd fd n=some .local)(ka:knd fd "_Accumulator"=some .globalImplicit)
  (hm:mm n=some (.int 0 t)) (hd:(n==("__debug__":Str))=false) (hA:bT A 10) (hL:s'.heap.PlainList L #[]) (hLs:s.heap.get? L=none) (e1:L≠x) (e2:L≠dx) (ft:∀c,Fat (upd mA at' (.ref c)) wd sp L c)
  (h:∀s'2 c dc,KW [x,dx] Z s s'2->Fm V C s'2.heap x dx L c dc wd sp [] []->s.heap.get? c=none->s.heap.get? dc=none->K .next s'2):wpAny (model prog w) A (exec (Stmt.Assign [(Name "self" p0).Attribute at' p1] ((Name "_Accumulator" p2).Call [Name n p3] [] p4) p5) env) K E s':=by
 have B:=H.B.of I.kw;have hS:=B.st W.sz;refine plainObj_wpAny_Assign_Attribute ?_;show wpAny _ _ (eval (.Name "_Accumulator" p2) env >>= fun g=>callWith p4 g [] (backTo p4 (starEach [Name n p3] env)) []) _ _ _;refine wpAny_bind (Name_function_global H.kf ((H.ko _).trans ka) (loadGlobal_global (env:=env) (H.ge▸(W.ns _ hS).1) hgA ?_) (by decide+kernel));refine hH (wpAny_items_cons (nm H.kf ((H.ko _).trans kn) I.ns hm hd (wpAny_items_nil ⟨?_,?_⟩))) rfl rfl
 ·obtain ⟨cr,hC⟩:=(K'.cls _ hS).obj;exact ⟨_,_,_,_,_,hC⟩
 refine wpAny_mono (hmk _ _ _ hb t hA (B.sub fun _ h=>nomatch h)) (fun v s'1 h'1=> ?_) fun _ _ e=>e
 obtain ⟨c,dc,e,k7,X7,hc,hdc⟩:=h'1;subst e;obtain ⟨nl,el⟩:=hL;have ne:∀b o,s'.heap.get? b=some o->b≠c/\b≠dc:=fun b o e=>⟨fun q=>no1 (hc.symm.trans (q▸e)),fun q=>no1 (hdc.symm.trans (q▸e))⟩
 obtain ⟨c1,c2⟩:=I.old hc;obtain ⟨d1,d2⟩:=I.old hdc;refine (I.kw0 H k7).put W.sz VV H hn fun s'2 J kk=>h s'2 c dc J.kw (Fm.made J.X (ft c) ⟨nl,kk _ _ e1 e2 (k7.keep L _ (fun h=>nomatch h) (B.z.not el fun vs q=>nomatch q) el)⟩ (X7.empty fun b o q e=>kk b o (q.elim (fun q=>q▸c1) fun q=>q▸d1) (q.elim (fun q=>q▸c2) fun q=>q▸d2) e) e1 e2 c1 c2 d1 d2 (ne L _ el).1 (ne L _ el).2) (I.nil H hc) (I.nil H hdc)
end
theorem aHw (W:FW prog w Sta Z mg mb)(K:AW prog w Sta C N mN)(VV:VW Sta V NV mV)(hmk:lF prog w Sta Z C)(hgA:mg "_Accumulator"=some (.ref C)){f:Addr}(D:Df Sta f fd)
  (hbody:fd.body= .stmts [Stmt.Assign [(Name "self" p0).Attribute "_maxlen" p1] (Name "maxlen" p2) p3,Stmt.Assign [(Name "self" p4).Attribute "_continuation_ws" p5] (Name "continuation_ws" p6) p7,Stmt.Assign [(Name "self" p8).Attribute "_continuation_ws_len" p9] ((Name "len" p10).Call [Name "continuation_ws" p11] [] p12) p13,Stmt.Assign [(Name "self" p14).Attribute "_splitchars" p15] (Name "splitchars" p16) p17,Stmt.Assign [(Name "self" p18).Attribute "_lines" p19] (Expr.List [] p20) p21,Stmt.Assign [(Name "self" p22).Attribute "_current_line" p23] ((Name "_Accumulator" p24).Call [Name "headerlen" p25] [] p26) p27])
  (ks:knd fd "self"=some .local) (kh:knd fd "headerlen"=some .local) (km:knd fd "maxlen"=some .local) (kc:knd fd "continuation_ws"=some .local) (kp:knd fd "splitchars"=some .local) (kl:knd fd "len"=some .globalImplicit) (ka:knd fd "_Accumulator"=some .globalImplicit)
  (hbind:∀x y z u v:Value,bindArgs fd ⟨[x,y,z,u,v],[]⟩=pure [(ofString "self",x),(ofString "headerlen",y),(ofString "maxlen",z),(ofString "continuation_ws",u),(ofString "splitchars",v)])
  (A:Around) (E:Value->Shared->Prop) (s:Shared) (hb:Heap) (x dx:Addr) (wd:Int) (cw sp:Str) (t0 t1 t2 t3:Tok) (hA:bT A 15) (B:Bs Sta Z [x,dx] hb s.heap) (X:Fo V s.heap x dx fun _=>none) (hcw:cw.length<=1000):
  wpAny (model prog w) A (call (.ref f) [.ref x,.int 0 t0,.int wd t1,.str cw t2,.str sp t3]) (fun v s'=>v= .none/\∃L c dc,KW [x,dx] Z s s'/\Fm V C s'.heap x dx L c dc wd sp [] []/\s.heap.get? L=none/\s.heap.get? c=none/\s.heap.get? dc=none) E s:=by
 refine aAv D (B.st W.sz) (by have:=hA.depth;exact bsl this) hbody (.of_eq (hbind _ _ _ _ _)) (fun y hy=> ?_) fun h'0 tk E' env bb A' R hA' henv hL hns hk hret hnext=> ?_
 ·simp only [List.mem_cons,List.not_mem_nil,or_false] at hy
  rcases hy with rfl | rfl | rfl | rfl | rfl <;> assumption
 have hLs:s.heap.get? env.locals=none:=hL▸aR _;have hLW:env.locals∉[x,dx]:=fun q=>by
  rcases List.mem_cons.mp q with q | q
  ·obtain ⟨o,e,_⟩:=X.obj;exact no1 (hLs.symm.trans (q▸e))
  ·obtain ⟨o,es,ep,e,_⟩:=X.att;exact no1 (hLs.symm.trans (List.mem_singleton.mp q▸e))
 have H:∀mm,mm "self"=some (.ref x)->I0 Sta Z fd env x dx s hb mm:=fun mm hs=>⟨by rw [henv]; exact D.kind,fun x=>by rw [henv]; rfl,by rw [henv]; exact D.globals,by rw [henv]; exact D.builtins,hLW,hL▸B.z.fresh,B,ks,hs⟩
 have J:I1 Z V env x dx s _ (fun _=>none) {s with heap:=h'0,toks:=tk}:=⟨KW.of_keep hk,X.at' fun b o _ e=>hk b o e,hns⟩;refine wpAt_of_wpAny (cK fun _ n1 _=>J.setn W.sz VV (H _ rfl) (.head _) km rfl rfl fun _ J=>n1 _ (cK fun _ n2 _=>J.setn W.sz VV (H _ rfl) (.tail _ (.head _)) kc rfl rfl fun _ J=>n2 _ (cK fun _ n3 _=>J.setlen W VV (H _ rfl) (.tail _ (.tail _ (.head _))) kc kl rfl rfl (by lia) fun _ u J=>n3 _
  (cK fun _ n4 _=>J.setn W.sz VV (H _ rfl) (.tail _ (.tail _ (.tail _ (.head _)))) kp rfl rfl fun _ J=>n4 _ (cK fun _ n5 _=>J.setlist W.sz VV (H _ rfl) (.tail _ (.tail _ (.tail _ (.tail _ (.head _))))) fun _ L J hL hLs e1 e2=>n5 _
  (cK fun _ n6 _=>J.setacc W K VV hmk hgA (H _ rfl) (.tail _ (.tail _ (.tail _ (.tail _ (.tail _ (.head _)))))) kh ka rfl rfl ((hA'.room hA).less (Nat.le_of_ble_eq_true rfl)) hL hLs e1 e2 (wd:=wd) (sp:=sp) (fun c=>⟨⟨t1,rfl⟩,⟨t3,rfl⟩,rfl,rfl,fun n hn=> ?_⟩) fun s'2 c dc k F h1 h2=>n6 _ (wpAny_execs_nil (hnext _ ⟨rfl,L,c,dc,k,F,hLs,h1,h2⟩))))))))
 have hn':∀y∈dQ,n≠y:=fun y hy q=>hn (q▸hy)
 simp only [upd]
 repeat rw [if_neg (hn' _ (by simp [dQ]))]
end Mine
section
open Builtin Builtin.Str
namespace Mine
theorem qV {α:Type}{c:α}:∀{x y a b:List α},c∉x->c∉y->x++c::a=y++c::b->x=y/\a=b
 | [],[],_,_,_,_,h=>by simpa using h
 | [],y::ys,_,_,_,h2,h=>by
  have h:=(List.cons.inj (show c::_=y::(ys++c::_) from h)).1;exact absurd (by rw [h]; exact List.mem_cons_self ..) h2
 | x::xs,[],_,_,h1,_,h=>by
  have h:=(List.cons.inj (show x::(xs++c::_)=c::_ from h)).1;exact absurd (by rw [<- h]; exact List.mem_cons_self ..) h1
 | x::xs,y::ys,a,b,h1,h2,h=>by
  have h:=List.cons.inj (show x::(xs++c::a)=y::(ys++c::b) from h);obtain ⟨e,e'⟩:=qV (fun q=>h1 (List.mem_cons_of_mem _ q)) (fun q=>h2 (List.mem_cons_of_mem _ q)) h.2;exact ⟨by rw [h.1,e],e'⟩
theorem lG {y:Str}(h:x.cps.toList=y.cps.toList):x=y:=by
 cases x;cases y
 congr 1
 exact Array.toList_inj.mp h
theorem cG (c:Nat)(x y:Str)(r:List Str):(Str.join ⟨#[c]⟩ (x::y::r)).cps.toList=x.cps.toList++c::(Str.join ⟨#[c]⟩ (y::r)).cps.toList:=by
 show ((x++(⟨#[c]⟩:Str)++Str.join ⟨#[c]⟩ (y::r)):Str).cps.toList=_;show ((x.cps++ #[c])++(Str.join ⟨#[c]⟩ (y::r)).cps).toList=_;simp
theorem lH (c:Nat):∀{xs ys:List Str},xs≠[]->ys≠[]->(∀ p∈xs,c∉p.cps.toList)->(∀ p∈ys,c∉p.cps.toList)->Str.join ⟨#[c]⟩ xs=Str.join ⟨#[c]⟩ ys->xs=ys
 | [],_,h,_,_,_,_=>absurd rfl h
 | _,[],_,h,_,_,_=>absurd rfl h
 | [x],[y],_,_,_,_,h=>by rw [show x=y from h]
 | [x],y::z::r,_,_,h1,_,h=>by
  have:=congrArg (fun s:Str=>s.cps.toList) h;rw [cG] at this;exact absurd (by show c∈(Str.join ⟨#[c]⟩ [x]).cps.toList;rw [this]; simp) (h1 x (by simp))
 | x::z::r,[y],_,_,_,h2,h=>by
  have:=congrArg (fun s:Str=>s.cps.toList) h;rw [cG] at this;exact absurd (by show c∈(Str.join ⟨#[c]⟩ [y]).cps.toList;rw [<- this]; simp) (h2 y (by simp))
 | x::z::r,y::u::q,_,_,h1,h2,h=>by
  have:=congrArg (fun s:Str=>s.cps.toList) h;rw [cG,cG] at this;obtain ⟨e,e'⟩:=qV (h1 x (by simp)) (h2 y (by simp)) this;rw [lG e,lH c (xs:=z::r) (ys:=u::q) (by simp) (by simp) (fun p hp=>h1 p (List.mem_cons_of_mem _ hp)) (fun p hp=>h2 p (List.mem_cons_of_mem _ hp)) (lG e')]
theorem nG (c:Nat){xs:List Str}(h0:xs≠[])(h:∀p∈xs,c∉p.cps.toList):Txt.split (Txt.join ⟨#[c]⟩ xs) ⟨#[c]⟩=xs:=by
 have e:Txt.join ⟨#[c]⟩ xs=Str.join ⟨#[c]⟩ xs:=StrLaws.glued_eq_join _ _;refine lH c (fun q=> ?_) h0 (StrLaws.split_free _ c) h ?_
 ·have:=split_pos (Txt.join ⟨#[c]⟩ xs) ⟨#[c]⟩;rw [q] at this;simp at this
 ·rw [StrLaws.join_split,e]
section
variable {y:Str}{u:Tok}
theorem qW (hy:(y.length==0)=false)
  (h:∀l k,l.map (·.1)=Txt.split x y->Q (.ref s.heap.objs.size) {s with heap:=s.heap.push {cls:= .type "list",data:= .seq (strValues l).toArray},toks:=k})
  (hsz:x.length+2<=sizeLine):
  wpAny (model prog w) A (call (.builtin "str.split") [.str x t,.str y u]) Q E s:=by
 have hn:(partsBetween x (occurrences x y 0 x.length (x.length+1)) y.length).length<=sizeLine:=by
  have e1:=StrLaws.occ_length_le x y 0 x.length (x.length+1);rw [length_partsBetween]; exact Nat.lt_of_le_of_lt e1 hsz
 rcases h1:(decide (x.length<y.length)||decide (strKind x<strKind y)) with _ | _
 ·rcases hf:(occurrences x y 0 x.length (x.length+1)).isEmpty with _ | _
  ·refine call_meets PySem.F.slot_str_split (typeIs_str _ _ _) PySem.F.entry_str_split (PySem.F.args_str_split_2 _ _) (meets_str_split_sep x y t u h1 hy hf (by exact aL1 hsz) hn) ?_;show wants Q E _ {s with toks:=_,heap:=s.heap.push {cls:= .type "list",data:= .seq (strsFrom s.toks (partsBetween x (occurrences x y 0 x.length (x.length+1)) y.length)).toArray}};rw [strsFrom_eq];exact h (numbered s.toks _) _ ((numbered_texts _ _).trans ((if_neg (ne_true_of_eq_false h1)).trans (if_neg (ne_true_of_eq_false hf))).symm)
  ·exact call_meets PySem.F.slot_str_split (typeIs_str _ _ _) PySem.F.entry_str_split (PySem.F.args_str_split_2 _ _) (meets_str_split_not_found x y t u h1 hy hf)
    (h [(x,t)] s.toks ((if_neg (ne_true_of_eq_false h1)).trans (if_pos hf)).symm)
 ·exact call_meets PySem.F.slot_str_split (typeIs_str _ _ _) PySem.F.entry_str_split (PySem.F.args_str_split_2 _ _) (meets_str_split_cannot_occur x y t u h1)
   (h [(x,t)] s.toks (if_pos h1).symm)
end
end Mine
end
namespace Mine
theorem sX (C:Addr)(vals:List Value):(Code.builtin "type.__call__" ⟨.ref C::vals,[]⟩).cUnits<=8:=by
 have h:(Code.builtin "type.__call__" ⟨.ref C::vals,[]⟩).frames=0:=rfl;simp [Code.cUnits,h]
theorem bT.underF {d:Nat}(r:bT A (d+1)):bT (A.under (.builtin "type.__call__" ⟨.ref C::vals,[]⟩)) d:=by
 refine ⟨r.handled,?_,?_⟩
 ·have:=r.depth;show A.depth+1+d<990;exact sal this
 ·have h1:=r.units;have h2:=sX C vals;show A.units+(Code.builtin "type.__call__" ⟨.ref C::vals,[]⟩).cUnits+8*d+400<9900
  lia
def aFz (prog:Program)(w:World)(Sta:Heap->Prop)(Z:List (Addr × Addr))(V C f:Addr):Prop:=
 ∀(A:Around)(E:Value->Shared->Prop)(s:Shared)(hb:Heap)(x dx:Addr)(wd:Int)(cw sp:Str)(t0 t1 t2 t3:Tok),bT A 15->Bs Sta Z [x,dx] hb s.heap->Fo V s.heap x dx (fun _=>none)->cw.length<=1000->
  wpAny (model prog w) A (call (.ref f) [.ref x,.int 0 t0,.int wd t1,.str cw t2,.str sp t3]) (fun v s'=>v= .none/\∃L c dc,KW [x,dx] Z s s'/\Fm V C s'.heap x dx L c dc wd sp [] []/\s.heap.get? L=none/\s.heap.get? c=none/\s.heap.get? dc=none) E s
theorem aHx (W:FW prog w Sta Z mg mb)(VV:VW Sta V NV mV){fi:Addr}(hi:mV "__init__"=some (.ref fi))(hf:∀h,Sta h->∃o,h.get? fi=some o/\o.cls= .type "function")(hin:aFz prog w Sta Z V C fi)
  (A:Around) (E:Value->Shared->Prop) (s:Shared) (hb:Heap) (wd:Int) (cw sp:Str) (t0 t1 t2 t3:Tok) (hA:bT A 17) (B:Bs Sta Z [] hb s.heap) (hcw:cw.length<=1000):
  wpAny (model prog w) A (call (.ref V) [.int 0 t0,.int wd t1,.str cw t2,.str sp t3]) (fun v s'=>∃x dx L c dc,v= .ref x/\KW [] Z s s'/\Fm V C s'.heap x dx L c dc wd sp [] []/\∀y∈[x,dx,L,c,dc],s.heap.get? y=none) E s:=by
 obtain ⟨cr,hC⟩:=kE (VV.cls _ (B.st W.sz));have hns:=(VV.cls _ (B.st W.sz)).ns;obtain ⟨oI,hoI,hcI⟩:=hf _ (B.st W.sz);obtain ⟨hp,g,d,tk,os⟩:=s;refine wpAny_call_obj_init PySem.F.objNew hC hns hi hoI hcI fun h' x dx made=> ?_
 have hW:∀y∈[x,dx],hp.get? y=none:=fun y hy=>by
  rcases List.mem_cons.mp hy with rfl | hy
  ·exact made.newX
  ·rw [List.mem_singleton.mp hy]; exact made.newD
 have w1:KW [] Z ⟨hp,g,d,tk,os⟩ ⟨h',g,d,tk,os⟩:=KW.of_keep (s:=⟨hp,g,d,tk,os⟩) made.keeps;have B1:Bs Sta Z [x,dx] hb h':=⟨B.sta,fun b o hz e=>made.keeps b o (B.keep b o hz e),fun y hy=>B.none (hW y hy),B.z.add made.keeps hW⟩;have X1:Fo V h' x dx (fun _=>none):=by
  obtain ⟨o,h1,h2,h3,h4⟩:=made.inst;have hd:=made.dict o h1
  rcases h4 with ⟨hn,_⟩ | ⟨d2,hd2,hne,hn1⟩
  ·rw [hd] at hn;exact no2 hn
  ·rw [hd] at hd2;(replace hd2:=Option.some.inj hd2;subst hd2);exact ⟨⟨o,h1,h2,h3,hd,hne⟩,hn1,fun _ _=>rfl⟩
 have hA':bT (A.under (.builtin "type.__call__" ⟨.ref V::[.int 0 t0,.int wd t1,.str cw t2,.str sp t3],[]⟩)) 16:=bT.underF hA;refine wpAny_mono (hin _ _ ⟨h',g,d,tk,os⟩ hb x dx wd cw sp t0 t1 t2 t3 (hA'.less (by exact Nat.le_add_left _ _)) B1 X1 hcw) (fun v s'2 h'2=> ?_) fun _ _ e=>e
 obtain ⟨rfl,L,c,dc,k2,F2,n1,n2,n3⟩:=h'2;have nn:∀y,h'.get? y=none->hp.get? y=none:=fun y e=>by
  cases e':hp.get? y with
  | none=>rfl
  | some o=>rw [made.keeps y o e'] at e;exact no2 e
 refine ⟨rfl,x,dx,L,c,dc,rfl,?_,F2,fun y hy=> ?_⟩
 ·exact KW.after (c:=⟨h',g,d,tk,os⟩) (fun b o e=>⟨fun q=>no1 ((hW b q).symm.trans e),made.keeps b o e⟩) rfl rfl rfl k2
 ·simp only [List.mem_cons,List.not_mem_nil,or_false] at hy
  rcases hy with rfl | rfl | rfl | rfl | rfl
  ·exact made.newX
  ·exact made.newD
  ·exact nn _ n1
  ·exact nn _ n2
  ·exact nn _ n3
theorem nH:∀xs:List Str,(Txt.join "" xs).cps.toList=xs.flatMap (·.cps.toList):=by
 intro xs;have e:Txt.join "" xs=Str.join "" xs:=StrLaws.glued_eq_join _ _;rw [e]
 induction xs with
 | nil=>rfl
 | cons x r ih=>
  rcases r with _ | ⟨y,r⟩
  ·show x.cps.toList=_;simp
  ·show ((x++("":Str)++Str.join "" (y::r)):Str).cps.toList=_;have e2:((x++("":Str)++Str.join "" (y::r)):Str).cps.toList=x.cps.toList++(Str.join "" (y::r)).cps.toList:=by
    show ((x.cps++ #[])++(Str.join "" (y::r)).cps).toList=_;simp
   rw [e2,ih (StrLaws.glued_eq_join _ _)];simp
theorem xM (p:Str × Str):(pjoin p).cps.toList=p.1.cps.toList++p.2.cps.toList:=by
 unfold pjoin;rw [nH]; simp
theorem cW (ps:List (Str × Str)):(bC ps).cps.toList=ps.flatMap fun p=>p.1.cps.toList++p.2.cps.toList:=by
 unfold bC;rw [nH,List.flatMap_map]
 congr 1
 funext p
 exact xM p
def lI (p:Str):Prop:=p.length<=100/\PyData.strOk p=true/\(∃ c∈p.cps.toList,c∈[65,66,67,68,69])/\10∉p.cps.toList/\32∉p.cps.toList
def lJ (ps:List (Str × Str)):Prop:=∀q∈ps,q.1=ofString " "/\lI q.2
noncomputable def sY (wd:Int)(pieces:List Str):List Str × List (Str × Str):=pieces.foldl (fun st p=>bV wd st.1 st.2 (ofString " ",p)) ([],[])
theorem qX (wd:Int)(a:List Str)(p:Str):sY wd (a++[p])=bV wd (sY wd a).1 (sY wd a).2 (ofString " ",p):=by
 unfold sY;rw [List.foldl_append]; rfl
structure hJ (k:Nat)(st:List Str × List (Str × Str)):Prop where
 nice:lJ st.2
 len:st.2.length<=k
 lines:st.1.length<=k
 each:∀l∈st.1,∃ps,l=bC ps/\lJ ps/\ps.length<=k
theorem hJ.step {st:List Str × List (Str × Str)}{p:Str}(G:hJ k st)(hp:lI p):hJ (k+1) (bV wd st.1 st.2 (ofString " ",p))/\∃ps,(bV wd st.1 st.2 (ofString " ",p)).2=ps++[(ofString " ",p)]:=by
 have up:∀l∈st.1,∃ps,l=bC ps/\lJ ps/\ps.length<=k+1:=fun l hl=>by obtain ⟨ps,h1,h2,h3⟩:=G.each l hl;exact ⟨ps,h1,h2,by exact Nat.le_succ_of_le h3⟩
 have n1:lJ [(ofString " ",p)]:=fun q hq=>by rw [List.mem_singleton.mp hq]; exact ⟨rfl,hp⟩
 have hl:=G.len;have hl':=G.lines;unfold bV
 split
 ·split
  ·exact ⟨⟨n1,by simp,by show st.1.length<=_;exact Nat.le_succ_of_le hl',up⟩,[],rfl⟩
  ·refine ⟨⟨n1,by simp,by simp;exact hl',fun l hl=> ?_⟩,[],rfl⟩
   rcases List.mem_append.mp hl with hl | hl
   ·exact up l hl
   ·exact ⟨st.2,List.mem_singleton.mp hl,G.nice,by lia⟩
 ·refine ⟨⟨fun q hq=> ?_,by simp;exact hl,by show st.1.length<=_;exact Nat.le_succ_of_le hl',up⟩,st.2,rfl⟩
  rcases List.mem_append.mp hq with hq | hq
  ·exact G.nice q hq
  ·exact n1 q hq
theorem lJ.text_len (h:lJ ps):(bC ps).length<=101*ps.length:=by
 show (bC ps).cps.size<=_;rw [<- Array.length_toList,cW]
 induction ps with
 | nil=>simp
 | cons q r ih=>
  obtain ⟨h1,h2⟩:=h q (List.mem_cons_self ..);have ih:=ih fun q hq=>h q (List.mem_cons_of_mem _ hq)
  have h2:q.2.cps.size<=100:=h2.1;simp only [List.flatMap_cons,List.length_append,List.length_cons,Array.length_toList,h1];have:(ofString " ").cps.size=1:=rfl
  lia
theorem lJ.no10 (h:lJ ps):10∉(bC ps).cps.toList:=by
 rw [cW];intro q;obtain ⟨p,hp,hq⟩:=List.mem_flatMap.mp q;obtain ⟨h1,h2⟩:=h p hp
 rcases List.mem_append.mp hq with hq | hq
 ·rw [h1] at hq;exact absurd hq (by decide)
 ·exact h2.2.2.2.1 hq
theorem aBf {p:Str}(h:lI p):Txt.isspace (bC (ps++[(ofString " ",p)]))=false:=by
 obtain ⟨c,hc,hm⟩:=h.2.2.1;have hx:c∈(bC (ps++[(ofString " ",p)])).cps.toList:=by
  rw [cW];exact List.mem_flatMap.mpr ⟨(ofString " ",p),by simp,List.mem_append_right _ hc⟩
 unfold Txt.isspace;rw [Bool.and_eq_false_iff]
 right
 rw [Array.all_eq_false];obtain ⟨i,hi,e⟩:=List.getElem_of_mem hx;refine ⟨i,by simpa using hi,?_⟩;rw [Array.getElem_toList] at e;rw [e];simp only [List.mem_cons,List.not_mem_nil,or_false] at hm
 rcases hm with rfl | rfl | rfl | rfl | rfl <;> decide+kernel
theorem lI.ne {p:Str}(h:lI p):p≠"":=fun q=>by
 obtain ⟨c,hc,_⟩:=h.2.2.1;rw [q] at hc;exact nomatch (show c∈([]:List Nat) from hc)
theorem lJ.small (h:lJ ps)(hn:ps.length<=900):cN ps:=⟨hn,fun p hp=>by
 obtain ⟨h1,h2⟩:=h p hp;rw [h1];have:=h2.1;have:(ofString " ").length=1:=rfl
 lia⟩
theorem aEh {p:Str}:eW (ps++[(ofString " ",p)])>0:=by
 have h0:∀l:List (Str × Str),0<=eW l:=fun l=>by
  unfold eW
  induction l with
  | nil=>simp
  | cons q r ih=>simp only [List.map_cons,List.sum_cons]; lia
 have h1:eW (ps++[(ofString " ",p)])=eW ps+(1+p.length):=by
  unfold eW;rw [List.map_append,List.sum_append];have:(ofString " ").length=1:=rfl;simp [this]
 have:=h0 ps
 lia
theorem dE {V:Heap}:∀{vs:List Value}{xs:List Str},StrsAre vs xs->aO V vs (xs.map .str)
 | _,_,.nil=> .nil
 | _,_,.cons y t r=> .cons (.str _ _) (dE r)
def aBg (prog:Program)(w:World)(Sta:Heap->Prop)(Z:List (Addr × Addr))(V C:Addr):Prop:=
 ∀(A:Around)(E:Value->Shared->Prop)(s:Shared)(hb:Heap)(wd:Int)(cw sp:Str)(t0 t1 t2 t3:Tok),bT A 17->Bs Sta Z [] hb s.heap->cw.length<=1000->
  wpAny (model prog w) A (call (.ref V) [.int 0 t0,.int wd t1,.str cw t2,.str sp t3]) (fun v s'=>∃x dx L c dc,v= .ref x/\KW [] Z s s'/\Fm V C s'.heap x dx L c dc wd sp [] []/\∀y∈[x,dx,L,c,dc],s.heap.get? y=none) E s
noncomputable def bX (wd:Int)(pieces:List Str):List Str:=(sY wd pieces).1++[bC (sY wd pieces).2]
theorem hJ.fold {wd:Int}:∀(l:List Str){k:Nat}{st:List Str × List (Str × Str)},hJ k st->(∀ p∈l,lI p)->hJ (k+l.length) (l.foldl (fun st p=>bV wd st.1 st.2 (ofString " ",p)) st)
 | [],_,_,G,_=>G
 | p::l,k,st,G,h=>by
  have:=hJ.fold (wd:=wd) l ((G.step (wd:=wd) (h p (List.mem_cons_self ..))).1) fun q hq=>h q (List.mem_cons_of_mem _ hq)
  rw [List.length_cons,show k+(l.length+1)=k+1+l.length from by exact (Nat.succ_add _ _).symm];exact this
theorem hU (wd:Int)(pieces:List Str)(h:∀p∈pieces,lI p):hJ pieces.length (sY wd pieces):=by
 have:=hJ.fold (wd:=wd) pieces (k:=0) (st:=([],[])) ⟨fun q hq=>(by exact nomatch hq),Nat.le_refl _,Nat.le_refl _,fun l hl=>(by exact nomatch hl)⟩ h;rw [Nat.zero_add] at this;exact this
theorem aBh (wd:Int){a:List Str}{p:Str}(h:∀q∈a++[p],lI q):∃ps,(sY wd (a++[p])).2=ps++[(ofString " ",p)]:=by
 rw [qX];exact ((hU wd a fun q hq=>h q (List.mem_append_left _ hq)).step (h p (by simp))).2
theorem iQ:∀l:List (Str × Tok),StrsAre (strValues l) (l.map (·.1))
 | []=> .nil
 | p::l=> .cons p.1 p.2 (iQ l)
theorem eZ (h:∀p∈pieces,lI p)(hn:pieces.length<=100):(bX wd pieces).length<=101/\(∀ l∈bX wd pieces,l.length<=11000/\10∉l.cps.toList):=by
 have G:=hU wd pieces h;refine ⟨by unfold bX;have:=G.lines;simp;exact Nat.le_trans this hn,fun l hl=> ?_⟩;unfold bX at hl
 rcases List.mem_append.mp hl with hl | hl
 ·obtain ⟨ps,rfl,h1,h2⟩:=G.each l hl;exact ⟨Nat.le_trans h1.text_len (by lia),h1.no10⟩
 ·rw [List.mem_singleton.mp hl];exact ⟨Nat.le_trans G.nice.text_len (by have:=G.len;lia),G.nice.no10⟩
theorem Fm.but {m I:Addr}(F:Fm V C h m dm L c dc wd sp lines ps)(hI:I∉[m,dm,L,c,dc])(hnt:∀items,¬h.IsTuple I items)
  (k:∀b o,b≠I->h.get? b=some o->h'.get? b=some o):Fm V C h' m dm L c dc wd sp lines ps:=by
 have kk:∀y∈[m,dm,L,c,dc], ∀o,h.get? y=some o->h'.get? y=some o:=fun y hy o e=>k y o (fun q=>hI (q▸hy)) e
 obtain ⟨o,h1,h2,h3,h4,h5⟩:=F.obj;obtain ⟨mA,h6,h7⟩:=F.att;obtain ⟨us,h8,h9⟩:=F.lines;obtain ⟨vs,x1,x2⟩:=F.acc.seq;obtain ⟨t,x3⟩:=F.acc.dict;exact ⟨⟨o,kk m (by simp) _ h1,h2,h3,h4,h5⟩,⟨mA,h6.at fun o e=>kk dm (by simp) o e,h7⟩,⟨us,h8.at fun o e=>kk L (by simp) o e,h9⟩,⟨⟨vs,x1.at fun o e=>kk c (by simp) o e,x2.keeps fun T vals hT=>let ⟨o,e,r⟩:=hT;⟨o,k T o (fun q=>hnt vals (q▸hT)) e,r⟩⟩,⟨t,x3.at fun o e=>kk dc (by simp) o e⟩,F.acc.ne⟩,F.ap⟩
structure FQ where
 V:Addr
 C:Addr
 x:Addr
 dx:Addr
 L:Addr
 c:Addr
 dc:Addr
 wd:Int
noncomputable abbrev FQ.all (q:FQ):List Addr:=[q.x,q.dx,q.L,q.c,q.dc]
abbrev FQ.At (q:FQ)(h:Heap)(st:List Str × List (Str × Str)):Prop:=Fm q.V q.C h q.x q.dx q.L q.c q.dc q.wd (ofString " ") st.1 st.2
structure FF (Sta:Heap->Prop)(Z:List (Addr × Addr))(fd:FuncData)(env:Env)(q:FQ)(s:Shared)(hb:Heap):Prop where
 kf:env.scope.kind= .function
 ko:∀x,env.kindOf x=knd fd x
 LF:env.locals∉q.all
 LZ:env.locals∉Z.map (·.2)
 Ls:s.heap.get? env.locals=none
 new:∀y∈q.all,s.heap.get? y=none
 B:Bs Sta Z [] hb s.heap
structure FI (Z:List (Addr × Addr))(env:Env)(q:FQ)(s:Shared)(done:List Str)(s':Shared):Prop where
 kw:KW [] Z s s'
 fm:q.At s'.heap (sY q.wd done)
 ns:∃mm,s'.heap.Ns env.locals mm/\mm "maker"=some (.ref q.x)
section
variable {q:FQ}{K:Flow->Shared->Prop}{f:Addr}
theorem FF.bs (H:FF Sta Z fd env q s hb)(k:KW [] Z s s'):Bs Sta Z q.all hb s'.heap:=⟨H.B.sta,(H.B.of k).keep,fun y hy=>H.B.none (H.new y hy),(H.B.of k).z.at',((⟨H.B.z.at',fun _ _ _ h=>nomatch h⟩:Zok Z [] s.heap).add (fun _ _ e=>e) H.new).apart⟩
theorem FF.none (H:FF Sta Z fd env q s hb)(k:KW [] Z s s'){y:Addr}(e:s'.heap.get? y=none):s.heap.get? y=none:=by
 rcases h:s.heap.get? y with _ | o
 ·rfl
 ·by_cases hz:y∈Z.map (·.2)
  ·obtain ⟨z,hz1,rfl⟩:=List.mem_map.mp hz;obtain ⟨ps,_,_,ht⟩:=(H.bs k).z.at' z hz1;exact no1 (e.symm.trans ht)
  ·exact no1 (e.symm.trans (k.keep y o (nomatch ·) hz h))
theorem uX (hn:∀p∈pieces,lI p)(hpl:pieces.length<=100):((bX wd pieces).map (·.length)).sum<=101*11000/\(bX wd pieces).length<=101:=by
 obtain ⟨hr1,hr2⟩:=eZ (wd:=wd) hn hpl;refine ⟨Nat.le_trans (aA2 _ 11000 fun x hx=> ?_) (by rw [List.length_map]; exact Nat.mul_le_mul_right _ hr1),hr1⟩;obtain ⟨l,hl,rfl⟩:=List.mem_map.mp hx;exact (hr2 l hl).1
theorem xN (hn:∀p∈pieces,lI p)(hpl:pieces.length<=100):Txt.split (Txt.join (ofString "\n") (bX wd pieces)) (ofString "\n")=bX wd pieces:=
 nG 10 (fun q=>List.append_ne_nil_of_right_ne_nil _ (List.cons_ne_nil _ _) q) fun q hq=>((eZ (wd:=wd) hn hpl).2 q hq).2
theorem aBi (hn:∀p∈pieces,lI p)(hpl:pieces.length<=100):(Txt.join (ofString "\n") (bX wd pieces)).length+2<=sizeLine:=by
 obtain ⟨h1,h2⟩:=uX (wd:=wd) hn hpl;have h3:=StrLaws.join_length_le (ofString "\n") (bX wd pieces);rw [<- StrLaws.glued_eq_join,show (ofString "\n").length=1 from rfl] at h3;rw [sizeLine_eq];have h4:(Txt.join (ofString "\n") (bX wd pieces)).length<=_:=h3
 lia
theorem aBj (hne:pieces≠[])(hn:∀p∈pieces,lI p):∃ps p,lI p/\(sY wd pieces).2=ps++[(ofString " ",p)]/\bX wd pieces=(sY wd pieces).1++[bC (ps++[(ofString " ",p)])]:=by
 rcases List.eq_nil_or_concat pieces with h | ⟨a,p,h⟩
 ·exact absurd h hne
 ·rw [List.concat_eq_append] at h;obtain ⟨ps,hps⟩:=aBh wd (a:=a) (p:=p) (h▸hn);rw [<- h] at hps;exact ⟨ps,p,hn p (h▸List.mem_append_right _ (List.mem_singleton.mpr rfl)),hps,by rw [<- hps]; rfl⟩
theorem oT (W:FW prog w Sta Z mg mb){ftx:Addr}(VV:VW Sta q.V NV mV)(htx:aCr Sta mV "_str" ftx)(htxo:qU prog w Sta Z q.V q.C ftx)(H:FF Sta Z fd env q s hb)(I:FI Z env q s pieces s')(hne:pieces≠[])(hpl:pieces.length<=100)(hn:∀p∈pieces,lI p)(hA:bT A 37)
  (km:knd fd "maker"=some .local) (hl2:(p18.endLine==p20.line)=true) (hl3:(p21.endLine==p23.line)=true)
  (hK:∀R vs s'2,s'2.heap.PlainList R vs->StrsAre vs.toList (bX q.wd pieces)->s.heap.get? R=none->KW [] Z s s'2->0<s'2.toks->Q (.ref R) s'2):
  wpAny (model prog w) A (eval (((((Name "maker" p17).Attribute "_str" p18).Call [Constant (.str "\n") 0 p19] [] p20).Attribute "split" p21).Call [Constant (.str "\n") 0 p22] [] p23) env) Q E s':=by
 obtain ⟨mm,hns,hm⟩:=I.ns;obtain ⟨ps,p,hp,hps,hrows⟩:=aBj (wd:=q.wd) hne hn;have B:=H.bs I.kw;have G:=hU q.wd pieces hn;have F:Fm q.V q.C s'.heap q.x q.dx q.L q.c q.dc q.wd (ofString " ") (sY q.wd pieces).1 (ps++[(ofString " ",p)]):=hps▸I.fm;refine aT rfl hl3 rfl (Nat.le_of_ble_eq_true rfl) (aHv VV htx rfl hl2 rfl (Nat.le_of_ble_eq_true rfl) (nm H.kf ((H.ko _).trans km) hns hm rfl ⟨rfl,B.st W.sz,F.inst,wpAny_items_cons (wpAny_Constant_str (wpAny_items_nil ⟨B.st W.sz,?_⟩))⟩));refine wpAny_with_toks (n:=1) (Nat.succ_le_succ (Nat.zero_le _)) (wpAny_mono (htxo q.x q.dx q.L q.c q.dc q.wd _ _ _ _ {s' with toks:=s'.toks+1} hb _ _ _ _ ps hA B F ((hps▸G.nice).small (hps▸by have:=G.len;exact lit (Nat.le_trans this hpl) rfl)) (by have:=G.lines;exact lit (Nat.le_trans this hpl) rfl) (by decide+kernel) hp.2.1 hp.ne aEh (aBf hp) (hrows▸ ?_)) (fun v s'2 h'2 ht2=> ?_) fun _ _ e _=>e)
 ·obtain ⟨h1,h2⟩:=uX (wd:=q.wd) hn hpl;rw [show (ofString "\n").length=1 from rfl]
  lia
 rw [<- hrows] at h'2;obtain ⟨⟨t',e⟩,k2⟩:=h'2;subst e;have w2:KW [] Z s s'2:=(I.kw.trans (KW.toks (n:=s'.toks+1))).into k2 fun y hy=>H.new y (aEf y hy)
 intro pl;refine GM.split (callWith_builtin rfl (aF rfl (wpAny_items_cons (wpAny_Constant_str (wpAny_items_nil ?_)))));refine wpAny_with_toks (n:=1) (Nat.le_trans ht2 (Nat.le_succ _)) (qW (by rfl) (fun l k hl tk=> ?_) (aBi hn hpl));exact hK _ _ _ ⟨0,Heap.get?_push_size _ rfl⟩ ((hl.trans (xN hn hpl))▸iQ l) (H.none w2 (aR _)) (w2.trans (KW.of_keep fun b o e=>Heap.get?_push_of_some _ e)) tk
theorem xO (W:FW prog w Sta Z mg mb){fch:Addr}(VV:VW Sta q.V NV mV)(hch:aCr Sta mV "_append_chunk" fch)(hcho:lE prog w Sta Z q.V q.C fch)(H:FF Sta Z fd env q s hb){done:List Str}{p:Str}{tp:Tok}(kw:KW [] Z s s')(fm:q.At s'.heap (sY q.wd done))
  (hns:s'.heap.Ns env.locals mm) (hm:mm "maker"=some (.ref q.x)) (hm':mm "word"=some (.str p tp)) (hdl:done.length<100) (hn:∀q∈done,lI q) (hp:lI p) (hA:bT A 35) (hl1:(p11.endLine==p14.line)=true) (km:knd fd "maker"=some .local) (kpc:knd fd "word"=some .local)
  (hK:∀s'2,FI Z env q s (done++[p]) s'2->KW [q.L,q.c,q.dc] Z s' s'2->K .next s'2):
  wpAny (model prog w) A (exec (Stmt.Expr (((Name "maker" p10).Attribute "_append_chunk" p11).Call [Constant (.str " ") 0 p12,Name "word" p13] [] p14) p15) env) K E s':=by
 have B:=H.bs kw;have hG:=hU q.wd done hn;refine wpAny_Expr_any ?_ (oM H.kf) rfl;refine aHv VV hch rfl hl1 rfl (Nat.le_of_ble_eq_true rfl) (nm H.kf ((H.ko _).trans km) hns hm rfl ⟨rfl,B.st W.sz,fm.inst,wpAny_items_cons (wpAny_Constant_str (wpAny_items_cons (nm H.kf ((H.ko _).trans kpc) hns hm' rfl (wpAny_items_nil ⟨B.st W.sz,?_⟩))))⟩);have hnp:lJ ((sY q.wd done).2++[(ofString " ",p)]):=fun y hy=>(List.mem_append.mp hy).elim (hG.nice y) fun hy=>(List.mem_singleton.mp hy)▸⟨rfl,hp⟩
 refine wpAny_mono (hcho q.x q.dx q.L q.c q.dc q.wd _ 32 _ _ _ {s' with toks:=s'.toks+1} hb _ _ _ _ _ hA B fm (hnp.small (by have:=hG.len;rw [List.length_append]; show _+1<=_;lia)) (by have:=hG.lines;lia) (by rfl) (by decide+kernel) (by rfl)) (fun v s'2 h'2=> ?_) fun _ _ e=>e
 exact hK s'2 ⟨(kw.trans (KW.toks (n:=s'.toks+1))).into h'2.2.1 fun y hy=>H.new y (aEf y hy),qX q.wd done p▸h'2.2.2,_,Ns.kw (s:={s' with toks:=s'.toks+1}) hns h'2.2.1 (fun y=>H.LF (aEf _ y)) H.LZ,hm⟩ (KW.toks.trans h'2.2.1)
end
theorem aNm {b:Addr}{o:Obj}(hz:Zok Z [] h)(e:h.get? b=some o)(hc:o.cls≠ .none):b∉Z.map (·.2):=fun q=>by
 obtain ⟨z,hz1,rfl⟩:=List.mem_map.mp q;obtain ⟨ps,_,_,ht⟩:=hz.at' z hz1;exact hc (Option.some.inj (ht.symm.trans e)▸rfl)
structure FL0 (env:Env)(q:FQ)(s:Shared)(us:Array Value)(P I:Addr):Prop where
 PI:P≠I
 I5:I∉q.all
 IL:I≠env.locals
 P5:P∉q.all
 PL:P≠env.locals
 Is:s.heap.get? I=none
theorem Fm.iter {m I:Addr}(F:Fm V C h m dm L c dc wd sp lines ps)(hI:I∉[m,dm,L,c,dc])(hit:h.IsListIter I P i)(k:∀b o,b∉[I]->h.get? b=some o->h'.get? b=some o):Fm V C h' m dm L c dc wd sp lines ps:=
 F.but hI (fun items x=>by
  obtain ⟨o,e,_,n,hd⟩:=x;obtain ⟨o',e',_,hd'⟩:=hit;obtain rfl:=Option.some.inj (e.symm.trans e');exact nomatch hd.symm.trans hd') fun b o hb e=>k b o (fun q=>hb (List.mem_singleton.mp q)) e
theorem aHy {I:Addr}{us:Array Value}(x:h.IsListIter I P i/\h.IsList P us):∀b∈[I,P], ∃o,h.get? b=some o/\o.cls≠ .none:=fun b hb=>by
 obtain ⟨⟨o,e,hc,_⟩,⟨o',e',hc',_⟩⟩:=x
 rcases List.mem_cons.mp hb with q | hb
 ·exact q▸⟨o,e,fun q=>nomatch hc.symm.trans q⟩
 ·exact (List.mem_singleton.mp hb)▸⟨o',e',fun q=>nomatch hc'.symm.trans q⟩
section
variable {q:FQ}{K:Flow->Shared->Prop}{f:Addr}{us:Array Value}{I:Addr}
structure FJ (Z:List (Addr × Addr))(env:Env)(q:FQ)(s:Shared)(us:Array Value)(P I:Addr)(pieces:List Str)(k:Nat)(s':Shared)(done rest:List Str):Prop where
 e:pieces=done++rest
 k:k=rest.length+1
 it:s'.heap.IsListIter I P done.length/\s'.heap.IsList P us
 J:FI Z env q s done s'
theorem aBk (W:FW prog w Sta Z mg mb){fch:Addr}(VV:VW Sta q.V NV mV)(hch:aCr Sta mV "_append_chunk" fch)(hcho:lE prog w Sta Z q.V q.C fch)(H:FF Sta Z fd env q s hb)(hus:StrsAre us.toList pieces)(L0:FL0 env q s us P I)(hpl:pieces.length<=100)(hn:∀p∈pieces,lI p)(hA:bT A 35)
  (hl1:(p11.endLine==p14.line)=true) (km:knd fd "maker"=some .local) (kpc:knd fd "word"=some .local) (it:s'.heap.IsListIter I P 0/\s'.heap.IsList P us) (J:FI Z env q s [] s')
   (hR:∀s'2,FI Z env q s pieces s'2->R (.ok .next) s'2):
  codeAny (model prog w) A (.forLoop (.Name "word" p8) (.ref I) [Stmt.Expr (((Name "maker" p10).Attribute "_append_chunk" p11).Call [Constant (.str " ") 0 p12,Name "word" p13] [] p14) p15] [] env) R s':=by
 have Wk:=Walks.list (prog:=prog) (w:=w) (A:=A) hA.handled I P L0.PI us;have hsz:=strsAre_size hus;have stepJ:∀{h':Heap}{s':Shared}{tk':Nat}{done:List Str},s'.heap.IsListIter I P done.length->FI Z env q s done s'->(∀ b o,b∉[I]->s'.heap.get? b=some o->h'.get? b=some o)->FI Z env q s done {s' with heap:=h',toks:=tk'}:=fun it J hk'=>
  ⟨J.kw.skip (P:=fun b=>b≠I) (fun b o hb e=>hk' b o (fun q=>hb (List.mem_singleton.mp q)) e) (fun b o e q=>no1 (L0.Is.symm.trans (q▸e))),J.fm.iter L0.I5 it hk',J.ns.imp fun _ y=>⟨y.1.at' fun o e=>hk' _ o (fun q=>L0.IL (List.mem_singleton.mp q).symm) e,y.2⟩⟩
 refine codeAny_forLoop_any (fun k s'=>∃done rest,FJ Z env q s us P I pieces k s' done rest) (fun k s' j=> ?_) (pieces.length+1) ⟨[],pieces,rfl,rfl,it,J⟩;obtain ⟨done,rest,j⟩:=j
 rcases rest with _ | ⟨p,rest⟩
 ·have e:done=pieces:=by rw [j.e,List.append_nil]
  refine Wk.done _ _ _ (show _/\_ from (show done.length=us.size from e▸hsz.symm)▸j.it) fun h'4 tk4 hk4=>wpAny_execs_nil ?_
  exact hR _ (e▸stepJ j.it.1 j.J hk4)
 ·have hlt:done.length<us.size:=by rw [hsz,j.e,List.length_append]; exact Nat.lt_add_of_pos_right (Nat.succ_pos _)
  refine Wk.item done.length _ _ _ hlt j.it fun v h'4 tk4 hv hst4 hk4=> ?_
  have hpi:(pieces.map AV.str)[done.length]? =some (.str p):=by rw [j.e]; simp
  obtain ⟨tp,e⟩:=((dE (V:=h'4) hus).2 done.length v (.str p) (by rw [Array.getElem?_toList]; exact hv) hpi).str_inv;subst e;have J4:=stepJ (tk':=tk4) j.it.1 j.J hk4;obtain ⟨mm,hns4,hm⟩:=J4.ns;have hin:∀y∈pieces,y∈done++p::rest:=fun y hy=>j.e▸hy
  have hp:p∈pieces:=j.e▸List.mem_append_right _ (List.mem_cons_self ..);have hlen:done.length+(rest.length+1)<=100:=by rw [j.e,List.length_append] at hpl;exact hpl
  refine wpAny_pure (wpAny_assign_Name (wpAny_storeName_local ((H.ko _).trans kpc) hns4 (fun h'5 hns'5 hs'5=> ?_) (by rw [H.kf]; rfl)));refine wpAny_execs_cons (xO (s':={s' with heap:=h'5,toks:=tk4+1}) W VV hch hcho H (done:=done) (KW.fresh (s':={s' with heap:=h'4,toks:=tk4}) J4.kw H.Ls hs'5) (J4.fm.loc hns4 hs'5 H.LF) hns'5 ((if_neg (by decide)).trans hm) (if_pos rfl) (by exact bsl hlen) (fun y hy=>hn y (j.e▸List.mem_append_left _ hy)) (hn p hp) hA hl1 km kpc fun s'2 J'2 k'2=>wpAny_execs_nil ?_);refine ⟨rest.length+1,j.k▸Nat.lt_succ_self _,done++[p],rest,by rw [j.e,List.append_assoc]; rfl,rfl,?_,J'2⟩;rw [List.length_append];have st5:=Wk.frame (done.length+1) h'4 h'5 hst4 fun b hb o e=>hs'5.extBut b o ((List.mem_cons.mp hb).elim (fun q=>q▸L0.IL) fun hb=>(List.mem_singleton.mp hb)▸L0.PL) e
  have B5:=H.bs (KW.fresh (tk:=0) (s':={s' with heap:=h'4,toks:=tk4}) J4.kw H.Ls hs'5);exact Wk.frame (done.length+1) h'5 s'2.heap st5 fun b hb o e=>k'2.keep b o (fun q=>(List.mem_cons.mp hb).elim (fun y=>L0.I5 (y▸aEf _ q)) fun hb=>L0.P5 ((List.mem_singleton.mp hb)▸aEf _ q)) (aNm (h:=h'5) ⟨B5.z.at',fun _ _ _ h=>nomatch h⟩ e (by obtain ⟨o',e',hc⟩:=aHy st5 b hb;exact Option.some.inj (e'.symm.trans e)▸hc)) e
theorem aBl (W:FW prog w Sta Z mg mb)(VV:VW Sta V NV mV)(hmk:aBg prog w Sta Z V C)(hgV:mg "_ValueFormatter"=some (.ref V))(kf:env.scope.kind= .function)(ko:∀x,env.kindOf x=knd fd x)(hge:env.globals=mainGlobals)(hL:env.locals=s.heap.objs.size)(B:Bs Sta Z [] hb s.heap)
  (k0:KW [] Z s s') (hns:s'.heap.Ns env.locals mm) (hm:mm "width"=some (.int wd t)) (hA:bT A 17) (kw:knd fd "width"=some .local) (km:knd fd "maker"=some .local) (kv:knd fd "_ValueFormatter"=some .globalImplicit)
  (hK:∀(q:FQ)(s'2:Shared),q.V=V->q.C=C->q.wd=wd->FF Sta Z fd env q s hb->FI Z env q s [] s'2->s'2.heap.Ns env.locals (fun z=>if z=ofString "maker" then some (.ref q.x) else mm z)->K .next s'2):
  wpAny (model prog w) A (exec (Stmt.Assign [Name "maker" p0] ((Name "_ValueFormatter" p1).Call [Constant (.int 0) 0 p2,Name "width" p3,Constant (.str " ") 0 p4,Constant (.str " ") 0 p5] [] p6) p7) env) K E s':=by
 have B0:=B.of k0;have hLs:s.heap.get? env.locals=none:=hL▸aR _;have hLZ:env.locals∉Z.map (·.2):=hL▸B.z.fresh;refine wpAny_Assign_Name ?_;show wpAny _ _ (eval (.Name "_ValueFormatter" p1) env >>= fun g=>callWith p6 g [] (backTo p6 (starEach [Constant (.int 0) 0 p2,Name "width" p3,Constant (.str " ") 0 p4,Constant (.str " ") 0 p5] env)) []) _ _ _;refine wpAny_bind (Name_function_global kf ((ko _).trans kv) (loadGlobal_global (env:=env) (hge▸(W.ns _ (B0.st W.sz)).1) hgV ?_) (by decide+kernel));refine hH (wpAny_items_cons (wpAny_Constant_int (wpAny_items_cons (nm kf ((ko _).trans kw) hns hm rfl (wpAny_items_cons (wpAny_Constant_str (wpAny_items_cons (wpAny_Constant_str (wpAny_items_nil ⟨?_,?_⟩))))))))) rfl rfl
 ·obtain ⟨cr,hC⟩:=kE (VV.cls _ (B0.st W.sz));exact ⟨_,_,_,_,_,hC⟩
 refine wpAny_mono (hmk _ _ {s' with toks:=s'.toks+1+1+1} hb wd _ _ _ _ _ _ hA B0 (Nat.le_of_ble_eq_true rfl)) (fun v s'1 h'1=> ?_) fun _ _ e=>e
 obtain ⟨x,dx,L,c,dc,e,k1,F1,hn1⟩:=h'1;subst e;have w1:KW [] Z s s'1:=k0.trans (KW.toks.trans k1);have hns1:s'1.heap.Ns env.locals mm:=Ns.kw (s:={s' with toks:=s'.toks+1+1+1}) hns k1 (fun h=>nomatch h) hLZ;have new:∀y∈[x,dx,L,c,dc],s.heap.get? y=none:=fun y hy=>by
  rcases e:s.heap.get? y with _ | o
  ·rfl
  ·by_cases hz:y∈Z.map (·.2)
   ·obtain ⟨z,hz1,rfl⟩:=List.mem_map.mp hz;obtain ⟨ps,_,_,ht⟩:=B0.z.at' z hz1;exact no1 ((hn1 _ hy).symm.trans ht)
   ·exact no1 ((hn1 _ hy).symm.trans (k0.keep y o (nomatch ·) hz e))
 have hLF:env.locals∉[x,dx,L,c,dc]:=fun q=>by
  obtain ⟨o,es,ep,e,_⟩:=hns;exact no1 ((hn1 _ q).symm.trans e)
 refine wpAny_storeName_local ((ko _).trans km) hns1 (fun h'2 hns'2 hs'2=> ?_) (by rw [kf]; rfl);exact hK ⟨V,C,x,dx,L,c,dc,wd⟩ _ rfl rfl rfl ⟨kf,ko,hLF,hLZ,hLs,new,B⟩ ⟨KW.fresh w1 hLs hs'2,F1.loc hns1 hs'2 hLF,_,hns'2,if_pos rfl⟩ hns'2
end
def xP (vs:List AV)(q:List Str × Int):Prop:=vs=[.list (q.1.map .str),.int q.2]/\q.1≠[]/\q.1.length<=100/\∀p∈q.1,lI p
noncomputable def nI (l:Str):AV:= .list ((Txt.split (Txt.slice l (some 1) none) (ofString " ")).map .str)
noncomputable def lK (wd:Int)(pieces:List Str):AV:= .list ((bX wd pieces).map nI)
open Classical in
noncomputable def sZ (vs:List AV):Option AV:=if h:∃q,xP vs q then some (lK h.choose.2 h.choose.1) else none
theorem uY:∀{a b:List Str},a.map AV.str=b.map AV.str->a=b
 | [],[],_=>rfl
 | [],_::_,h=>nomatch h
 | _::_,[],h=>nomatch h
 | _::_,_::_,h=>by
  have h:=List.cons.inj h;rw [AV.str.inj h.1,uY h.2]
theorem aBm {q q':List Str × Int}(h:xP vs q)(h':xP vs q'):q=q':=by
 have e:=List.cons.inj (h.1.symm.trans h'.1);exact Prod.ext (uY (AV.list.inj e.1)) (AV.int.inj (List.cons.inj e.2).1)
theorem uZ {q:List Str × Int}(h:xP vs q):sZ vs=some (lK q.2 q.1):=by
 have hx:∃q,xP vs q:=⟨q,h⟩;rw [sZ,dif_pos hx,aBm hx.choose_spec h]
theorem vA {V:Heap}:∀{xs:List Str}{vs:List Value},aO V vs (xs.map .str)->StrsAre vs xs
 | [],_,h=>h.nil_inv▸ .nil
 | _::_,_,h=>h.consE fun y ys e d r=>d.strE fun t e'=>e▸e'▸ .cons _ _ (vA r)
theorem Ev.row {g:Eg}{f:Fr}(hl:(p21.endLine==p23.line)=true)(hx:f.ρ "row"=some (.str x))(hn:x.length<=12000):
  Ev g f (((((Name "row" p17).Subscript (Expr.Slice (some (Constant (.int 1) 0 p18)) none none p19) p20).Attribute "split" p21).Call [Constant (.str " ") 0 p22] [] p23)) (nI x):=fun s E Q o q=>by
 refine wpAny_with_toks (n:=1) o.ht (aT rfl hl rfl (Nat.le_of_ble_eq_true rfl) (iJ (Ev.name (g:=g) (by decide) hx s _ _ o fun y s'1 o'1 d'1 k'1=>d'1.strE fun t e=> ?_)));subst e;refine wpAny_Slice ?_;rw [evalPart_none,evalPart_some];refine wpAny_Constant_int (wpAny_pure (wpAny_pure ?_));refine ⟨"str",_,typeIs_str _ _ _,PySem.F.slot_str_getitem.lookup,wpAny_getItem_str_slice (l:=some (1,_)) (u:=none) (st:=none) ⟨_,Heap.get?_push_size _ rfl,rfl,rfl⟩ rfl (post_val_or_str ⟨Nat.le_trans (Txt.slice_le x (some 1) none) (by rw [sizeLine_eq]; exact lit hn rfl),fun t' k pl=> ?_⟩)⟩;refine GM.split (callWith_builtin rfl (aF rfl (wpAny_items_cons (wpAny_Constant_str (wpAny_items_nil ?_)))));refine qW (x:=Txt.slice x (some 1) none) (by rfl) (fun l k' hl' ht'=> ?_) (by have:=Txt.slice_le x (some 1) none;rw [sizeLine_eq]; lia);have p:=dN (M:=f.M) (s:={s'1 with heap:=s'1.heap.push {cls:= .type "slice",data:= .fields #[.int 1 s'1.toks,.none,.none]},toks:=k'}) (vs:=(strValues l).toArray) (l:=(Txt.split (Txt.slice x (some 1) none) (ofString " ")).map .str)
  (fun a ha=>(o'1.cx.lt a ha).imp fun _ e=>Heap.get?_push_of_some _ e) (by rw [<- hl']; exact dE (iQ l)) 0
 have kk:Kp s'1 {s'1 with heap:=s'1.heap.push {cls:= .type "slice",data:= .fields #[.int 1 s'1.toks,.none,.none]},toks:=k'}:=KW.of_keep fun _ _ e=>Heap.get?_push_of_some _ e
 have k2:=kk.trans p.2.kp;exact q _ _ (o'1.kept k2 ht') p.1 (k'1.trans k2)
noncomputable def aMm:AV->Option (Option AV)
 | .str x=>if x.length<=12000 then some (some (nI x)) else none
 | _=>none
theorem aBn {l:List Str}(h:∀x∈l,x.length<=12000):gE aMm (l.map .str)=some (l.map nI):=qC fun x hx=>if_pos (h x hx)
section
variable {g:Eg}{q:FQ}{M:List Addr}
theorem aEi (W:FW g.prog g.w Sta Zs mg mb){ftx:Addr}(VV:VW Sta q.V NV mV)(htx:aCr Sta mV "_str" ftx)(htxo:qU g.prog g.w Sta Zs q.V q.C ftx)(H:FF Sta Zs fd env q s hb)(I:FI Zs env q s pieces s')(hne:pieces≠[])(hpl:pieces.length<=100)(hn:∀p∈pieces,lI p)(hA:bT A 41)(hgd:g.d<=41)
  (hS:g.Sta s.heap) (hM:∀a∈M,∃o,s.heap.get? a=some o) (hZ:∀y∈Zt,y∈M) (hG:env.globals=mainGlobals) (hB:env.builtins=builtinsNs) (nc:∀y∈fd.scope.names,y.2≠ .free)
  (km:knd fd "maker"=some .local) (hl1:(p21.endLine==p23.line)=true) (hl2:(p26.endLine==p28.line)=true) (hl3:(p29.endLine==p31.line)=true) (hcsc:csc={kind:= .function,names:=[(ofString ".0",NameKind.local),(ofString "row",NameKind.local)],isGenerator:=false,isCoroutine:=false})
  (hQ:∀y s'2,Den (hide s'2.heap M) y (lK q.wd pieces)->KW [] Zs s s'2->Q y s'2):
  wpAny (model g.prog g.w) A (eval ((((((Name "row" p17).Subscript (Expr.Slice (some (Constant (.int 1) 0 p18)) none none p19) p20).Attribute "split" p21).Call [Constant (.str " ") 0 p22] [] p23).ListComp [⟨Name "row" p24,((((Name "maker" p25).Attribute "_str" p26).Call [Constant (.str "\n") 0 p27] [] p28).Attribute "split" p29).Call [Constant (.str "\n") 0 p30] [] p31,[],0⟩] csc p32)) env) Q E s':=by
 subst hcsc;rw [eval_ListComp];have zok:=g.S.zok _ hS;obtain ⟨cl,hcl1,hcl2⟩:=iH (csc:={kind:= .function,names:=[(ofString ".0",NameKind.local),(ofString "row",NameKind.local)],isGenerator:=false,isCoroutine:=false}) (env:=env) fun y hy hk=>by
  simp only [List.mem_cons,List.not_mem_nil,or_false] at hy
  rcases hy with rfl | rfl <;> exact nomatch hk
 refine wpAny_comprehension_free (use:=none) rfl (fun x=>eK rfl x) hcl1 rfl (fun y hy _=>by
  simp only [List.mem_cons,List.not_mem_nil,or_false] at hy
  rcases hy with rfl | rfl <;> rfl) ?_
 refine oT W VV htx htxo H I hne hpl hn (hA.less (by decide)) km hl2 hl3 fun R vs s'1 hR hvs hfr kw ht1=> ?_
 have o'1:Ok g ⟨fd.scope,env,fun _=>none,A,M⟩ s'1:=⟨⟨fun x h=>(H.ko x).trans h,fun x h=>(H.ko x).trans h,fun x h=>(H.ko x).trans h,fun x h=>absurd rfl (nc _ (mem_of_lookup h))⟩,hA.less hgd,⟨g.S.keeps _ _ kw hS,H.kf,hG,hB,fun _ _ h=>no1 h,fun a ha=>Kp.ex kw zok (hM a ha),hZ⟩,ht1⟩;have d'1:Den (hide s'1.heap M) (.ref R) (.list ((bX q.wd pieces).map .str)):= .mkList (hR.at fun o e=>aA.mpr ⟨fun z=>(hM R z).elim fun o e'=>no1 (hfr.symm.trans e'),e⟩) (dE hvs);have hs:=eZ (wd:=q.wd) hn hpl;refine wpAny_with_toks (n:=1) ht1 (bG o'1.room.handled (rfl:aV (.list ((bX q.wd pieces).map .str))=_) d'1 fun I2 fp wr P St s'2 src t'2=> ?_);refine pV (RR:=fun acc C=>compPost (model g.prog g.w) A _ none _ acc C) o'1 (by decide+kernel) hcl2 (by rfl) src t'2 (bJ (lit hs.1 rfl)) (aBn fun x hx=>lit (hs.2 x hx).1 rfl) (fun cenv M' d r hr=> ?_) fun D C X s3 fr hD hC hDC c=>c.ns.elim fun m hm=>⟨m,hm,fun h' hsb=> ?_⟩
 ·rcases d with _ | _ | _ | x | _ | _ | _ | _ | _ | _ <;> first | exact no1 hr | skip
  refine bK hr fun hx hr=> ?_
  obtain rfl:=Option.some.inj hr;exact ⟨fun s E Q o q=>wpAny_pure (q _ _ o rfl (Kp.refl s)),fun v e=>Option.some.inj e▸ .row hl1 (by dsimp only [aZ]; exact if_pos rfl) hx⟩
 ·exact hQ _ _ (c.den fr o'1.cx.lt hD hC hDC hsb) (kw.trans (c.code (g.S.zok _ o'1.cx.sta) fr hC hsb))
theorem oU (h'0:∀h,g.Sta h->Sta h)(hgd:g.d<=41)(W:FW g.prog g.w Sta Zs mg mb)(VV:VW Sta V NV mV)(hmk:aBg g.prog g.w Sta Zs V C)(hgV:mg "_ValueFormatter"=some (.ref V)){fch ftx:Addr}(hch:aCr Sta mV "_append_chunk" fch)(hcho:lE g.prog g.w Sta Zs V C fch)(htx:aCr Sta mV "_str" ftx)(htxo:qU g.prog g.w Sta Zs V C ftx)
  {f:Addr} (D:Df Sta f fd) (nc:∀y∈fd.scope.names,y.2≠ .free)
  (hbody:fd.body= .stmts [Stmt.Assign [Name "maker" p0] ((Name "_ValueFormatter" p1).Call [Constant (.int 0) 0 p2,Name "width" p3,Constant (.str " ") 0 p4,Constant (.str " ") 0 p5] [] p6) p7,Stmt.For (Name "word" p8) (Name "words" p9) [Stmt.Expr (((Name "maker" p10).Attribute "_append_chunk" p11).Call [Constant (.str " ") 0 p12,Name "word" p13] [] p14) p15] [] p16,
   Stmt.Return (some (((((Name "row" p17).Subscript (Expr.Slice (some (Constant (.int 1) 0 p18)) none none p19) p20).Attribute "split" p21).Call [Constant (.str " ") 0 p22] [] p23).ListComp [⟨Name "row" p24,((((Name "maker" p25).Attribute "_str" p26).Call [Constant (.str "\n") 0 p27] [] p28).Attribute "split" p29).Call [Constant (.str "\n") 0 p30] [] p31,[],0⟩] csc p32)) p33])
  (hcsc:csc={kind:= .function,names:=[(ofString ".0",NameKind.local),(ofString "row",NameKind.local)],isGenerator:=false,isCoroutine:=false})
  (hl0:(p11.endLine==p14.line)=true) (hl1:(p21.endLine==p23.line)=true) (hl2:(p26.endLine==p28.line)=true) (hl3:(p29.endLine==p31.line)=true)
  (kp:knd fd "words"=some .local) (kw:knd fd "width"=some .local) (km:knd fd "maker"=some .local) (kpc:knd fd "word"=some .local) (kv:knd fd "_ValueFormatter"=some .globalImplicit)
  (hbind:∀x y:Value,bindArgs fd ⟨[x,y],[]⟩=pure [(ofString "words",x),(ofString "width",y)]) (hv:sZ vs=some v):aL g.prog g.w g.Sta 42 f vs v:=by
 intro A E s M ys hA hS hZ hM ht hd;have hx:∃q,xP vs q:=Classical.byContradiction fun q=>no1 ((dif_neg q).symm.trans hv)
 obtain ⟨⟨pieces,wd⟩,F⟩:=hx
 replace hv:=Option.some.inj ((uZ F).symm.trans hv)
 subst hv;obtain ⟨e,hne,hpl,hn⟩:=F;subst e;refine hd.consE fun y ys e d r=>d.listE fun P us e1 hp dl=>r.int1 fun t e2=> ?_
 subst e e1 e2;have B:Bs Sta Zs [] s.heap s.heap:=⟨h'0 _ hS,fun _ _ _ e=>e,fun _ h=>(nomatch h),g.S.zok _ hS⟩;have hP:s.heap.PlainList P us:=hp.at fun o e=>(aA.mp e).2
 have hus:=vA dl;refine wpAny_with_toks (n:=1) ht (aAv D (B.st W.sz) (by have:=hA.depth;exact bsl this) hbody (.of_eq (hbind _ _)) (fun x hx=>(List.mem_cons.mp hx).elim (fun e=>e▸kp) fun hx=>List.mem_singleton.mp hx▸kw) fun h'1 tk E' env bb A' R hA' henv hL hns hk hret _=> ?_);have kf:env.scope.kind= .function:=by rw [henv]; exact D.kind
 have ko:∀x,env.kindOf x=knd fd x:=fun x=>by rw [henv]; rfl
 have hA1:bT A' 41:=hA'.room hA;refine wpAt_of_wpAny (cK fun R1 hn1 _=>aBl (s':={s with heap:=h'1,toks:=tk}) W VV hmk hgV kf ko (by rw [henv]; exact D.globals) hL B (KW.of_keep hk) hns rfl (hA1.less (by exact Nat.le_add_left _ _)) kw km kv fun q s'2 e1 e2 e3 H J hns'2=>hn1 _ ?_);subst e1 e2 e3;have hPn:∃n,s.heap.get? P=some {cls:= .type "list",data:= .seq us n}:=hP;obtain ⟨n,e⟩:=hPn;have hP2:s'2.heap.PlainList P us:=⟨n,J.kw.keep P _ (fun h=>nomatch h) (aNm B.z e fun q=>nomatch q) e⟩;refine cK fun R2 hn2 _=>wpAny_For (nm kf ((ko _).trans kp) hns'2 (u:= .ref P) ((if_neg (by decide)).trans rfl) rfl ?_) (fun _=>rfl)
 refine wpAny_pyIter_list (PySem.Heap.PlainList.isList hP2) ?_;have hI:s'2.heap.get? s'2.heap.objs.size=none:=aR _;refine aBk (I:=s'2.heap.objs.size) (P:=P) W VV hch hcho H hus ⟨fun q=>no1 (hI.symm.trans ((congrArg s'2.heap.get? q).symm.trans hP2.choose_spec)),fun q=> ?_,fun q=> ?_,fun q=>no1 ((H.new P q).symm.trans e),fun q=>no1 (H.Ls.symm.trans ((congrArg s.heap.get? q).symm.trans e)),H.none J.kw hI⟩ hpl hn (hA1.less (by exact Nat.le_add_left _ _)) hl0 km kpc
  ⟨⟨_,Heap.get?_push_size _ rfl,rfl,rfl⟩,(PySem.Heap.PlainList.isList hP2).at fun o e=>Heap.get?_push_of_some _ e⟩ ⟨J.kw.trans KW.push,J.fm.keeps fun _ _ e=>Heap.get?_push_of_some _ e,J.ns.imp fun _ y=>⟨y.1.keeps fun _ _ e=>Heap.get?_push_of_some _ e,y.2⟩⟩ fun s3 J3=>hn2 _ ?_
 ·obtain ⟨o,e⟩:=J.fm.exs _ q;exact no1 (hI.symm.trans e)
 ·obtain ⟨o,es,ep,e,_⟩:=hns'2;exact no1 (hI.symm.trans (q▸e))
 exact cK fun R3 _ hr=>wpAny_Return_some (aEi W VV htx htxo H J3 hne hpl hn hA1 hgd hS hM hZ (by rw [henv]; exact D.globals) (by rw [henv]; exact D.builtins) nc km hl1 hl2 hl3 hcsc fun y s4 hd k=>hr _ _ (hret _ _ fun _=>⟨hd,k⟩))
end
theorem aEj {n1 n2:Str}{k1 k2:Nat}{e1 e2:Expr}(hb:env.blockKind= .function)(h1:env.kindOf n1=some .local)(h2:env.kindOf n2=some .local)(hl:(q2.line==q1.line)=true)(hne:n1≠n2)
  (s1:(match e1 with | .Starred .. =>true | _=>false)=false) (s2:(match e2 with | .Starred .. =>true | _=>false)=false) (f:foldedForSure 8 e1=false) (c:constantsAlone 8 e1=false):
  swappedStores [.Tuple [.Name n1 q1,.Name n2 q2] k1 q3] (.Tuple [e1,e2] k2 q8) env=pure (some [n1,n2]):=by
 have hd:[n1,n2].eraseDups=[n1,n2]:=by
  rw [List.eraseDups_cons];have:(n2==n1)=false:=beq_eq_false_iff_ne.mpr fun q=>hne q.symm
  simp only [List.filter,this,Bool.not_false];rfl
 have hn:[Name n1 q1,Name n2 q2].filterMap (fun | .Name id pos=>if env.kindOf id==some .local&&pos.line==q1.line then some id else none | _=>none)=[n1,n2]:=by
  simp only [List.filterMap,h1,h2,hl,beq_self_eq_true,Bool.and_self,if_true]
 have hv:([e1,e2].any fun | .Starred .. =>true | _=>false)=false:=by rw [List.any_cons,List.any_cons,s1,s2]; rfl
 have hf:[e1,e2].all (foldedForSure 8)=false:=by rw [List.all_cons,f]; rfl
 have hc:[e1,e2].all (constantsAlone 8)=false:=by rw [List.all_cons,c]; rfl
 unfold swappedStores;refine (if_neg (Bool.eq_false_iff.mp ?_)).trans ((if_neg (Bool.eq_false_iff.mp hv)).trans ((if_neg (Bool.eq_false_iff.mp ((congrArg (fun l:List Str=>(l.length !=2||l.eraseDups.length !=l.length)) hn).trans ?_))).trans
  ((if_neg (Bool.eq_false_iff.mp hf)).trans ((if_neg (Bool.eq_false_iff.mp hc)).trans (congrArg (fun l=>pure (some l)) hn)))))
 ·rw [hb]; rfl
 ·show ([n1,n2].length !=2||[n1,n2].eraseDups.length !=2)=false;rw [hd]; rfl
theorem tA (g:Eg)(K:wJ g.Sta mN g.cf.c N){fI:Addr}{oI:Obj}(hi:mN "__init__"=some (.ref fI))(hcI:oI.cls= .type "function")(hoI:∀h,g.Sta h->h.get? fI=some oI)(hat:∀h,g.Sta h->aG8 sF h fI fd/\h.NoLimit)
  (nn:∀y∈[ofString "raw",ofString "n",ofString "nt",ofString "norm",ofString "is_simple"],uQ mN y) (hg:g.mg "Whitespace"=some (.ref g.cf.c)) {tS tT:Tok}
  (hc1:∀(A:Around)(E:Value->Shared->Prop)(s:Shared)(Q:Value->Shared->Prop),g.Sta s.heap->Q (.str " " tS) {s with toks:=s.toks+1}->wpAny (model g.prog g.w) A (getAttr (.ref g.cf.c) "S" true) Q E s)
  (hc2:∀(A:Around)(E:Value->Shared->Prop)(s:Shared)(Q:Value->Shared->Prop),g.Sta s.heap->Q (.str "\t" tT) {s with toks:=s.toks+1}->wpAny (model g.prog g.w) A (getAttr (.ref g.cf.c) "T" true) Q E s)
   (hr:∀c∈raw.cps.toList,c=32\/c=9) (hlen:raw.length<=900):
  aL g.prog g.w g.Sta (g.d+2) g.cf.c [.str raw] (.inst g.cf.c [("raw",.str raw),("n",.int (lS raw.cps.toList [] 0 0 0).2.2.1),("nt",.int (lS raw.cps.toList [] 0 0 0).2.2.2),("norm",.tup [.tup ((lS raw.cps.toList [] 0 0 0).1.map .int),.int (lS raw.cps.toList [] 0 0 0).2.1]),("is_simple",.bool (decide ((lS raw.cps.toList [] 0 0 0).1.length<=1)))]):=by
 refine wL K (fn:=sF) hi (by decide+kernel) hcI hoI hat rfl fun b E s S x dx Q hbe hsc hmu hxc m k=> ?_
 obtain ⟨sc,env,A,s'0,F,mu⟩:=b;obtain rfl:sc=sF.sc:=hsc;obtain rfl:mu=[ofString "count"]:=hmu;have hl0:0+(raw.cps.toList.length:Int)<=900:=by rw [Array.length_toList]; have:raw.cps.size<=900:=hlen;lia
 obtain ⟨⟨ρ5,hf,H5⟩,hw⟩:=aKc g.cf 0 x raw.cps.toList hr (rY (eE sF.ps [.addr x,.str raw])) [] 0 0 0 (aDw rfl) (Int.le_refl 0) hl0 (Nat.zero_le _);have e:=m.rel.ok.env;have hbk:env.blockKind= .function:=by unfold Env.blockKind;rw [m.rel.ok.kind]; rfl
 exact aDs (k:=30) m K hxc nn rfl rfl hg rfl aHh hc1 hc2 rfl (aEj hbk (e.loc _ rfl) (e.loc _ rfl) rfl (by decide) rfl rfl rfl rfl) hf H5.self ⟨H5.evN,rfl⟩ ⟨H5.evNt,rfl⟩ ⟨H5.evNorm hw aDu,aAl⟩ ⟨H5.evSimple hw aAj,rfl⟩
  (fun _ _=>rfl) (fun _ _=>rfl) (fun _ _=>rfl) (fun _ _=>rfl) fun s' O' m'=>k s' O' ρ5 m'
end Mine
section
open PySem PySem.Builtin PySem.Builtin.Re PyProof.Rows
namespace Mine
theorem qY:∀(ps:List Str)(acc:Array Nat),(ps.foldl (fun acc p=>acc++(#[]:Array Nat)++p.cps) acc).toList=acc.toList++(ps.map (·.cps.toList)).flatten
 | [],acc=>by simp
 | p::r,acc=>by rw [List.foldl_cons,qY r]; simp
theorem qZ (ps:List Str):(Txt.join ⟨#[]⟩ ps).cps.toList=(ps.map (·.cps.toList)).flatten:=by
 show ((ps.drop 1).foldl (fun acc p=>acc++(#[]:Array Nat)++p.cps) (ps.headD Str.empty).cps).toList=_;rw [qY]
 rcases ps with _ | ⟨p,r⟩
 ·rfl
 ·simp
noncomputable def cH (text:Array Nat)(r:Str)(F:Nat->Option Nat)(G:Nat->Nat)(p:Nat):List Nat:=((bA text r F G (text.size- p+1) p).map (·.cps.toList)).flatten
theorem dF {p s:Nat}(h:p<s)(hs:s<=text.size):(text.extract p s).toList=text.getD p 0::(text.extract (p+1) s).toList:=by
 have hp:p<text.size:=by exact Nat.le_trans h hs
 rw [Array.toList_extract,Array.toList_extract,List.extract_eq_take_drop,List.extract_eq_take_drop];have h1:text.toList.drop p=text.getD p 0::text.toList.drop (p+1):=by
  rw [List.drop_eq_getElem_cons (by simpa using hp)];simp [Array.getD,hp]
 rw [h1,show s- p=(s- (p+1))+1 from by lia,List.take_succ_cons]
section
variable {code:Array Nat}{r:Str}{F:Nat->Option Nat}{G:Nat->Nat}{hit:Nat->Bool}
theorem vB (hF:lU code text F G){p:Nat}(hp:text.size<=p)(hp':p<=text.size):cH text r F G p=[]:=by
 have e:p=text.size:=by exact Nat.le_antisymm hp' hp
 subst e;unfold cH
 rcases hf:F text.size with _ | s
 ·rw [bO hf,if_neg (Nat.lt_irrefl _)]; rfl
 ·obtain ⟨h1,h2,h3,_⟩:=hF.hit _ s (Nat.le_refl _) hf;lia
theorem vC (hF:lU code text F G){p:Nat}(hp:p<text.size)(h:F p=some p):cH text r F G p=r.cps.toList++cH text r F G (G p):=by
 obtain ⟨h1,h2,h3,_⟩:=hF.hit _ p (by exact Nat.le_of_lt hp) h;unfold cH;rw [bN h,if_neg (by exact Nat.lt_irrefl _),eH hF (text.size- p) (text.size- G p+1) (G p) h3 (by lia) (by exact Nat.le_refl _)];simp
theorem rA (hF:lU code text F G){p:Nat}(hp:p<text.size)(h:F p=F (p+1)):cH text r F G p=text.getD p 0::cH text r F G (p+1):=by
 unfold cH
 rcases hf:F p with _ | s
 ·rw [bO hf,bO (h▸hf),if_pos hp]
  by_cases hq:p+1<text.size
  ·rw [if_pos hq];simp only [List.map_cons,List.map_nil,List.flatten_cons,List.flatten_nil,List.append_nil];exact dF hp (Nat.le_refl _)
  ·rw [if_neg hq];have e:text.size=p+1:=by lia
   simp only [List.map_cons,List.map_nil,List.flatten_cons,List.flatten_nil,List.append_nil];rw [dF hp (Nat.le_refl _),e];simp
 ·have hf':=hf;rw [h] at hf;obtain ⟨h1,h2,h3,_⟩:=hF.hit _ s (by exact hp) hf;rw [bN hf',bN hf,if_pos (by exact h1),eH hF (text.size- p) (text.size- (p+1)) (G s) h3 (by lia) (by lia)]
  by_cases hq:p+1<s
  ·rw [if_pos hq];simp only [List.cons_append,List.nil_append,List.map_cons,List.flatten_cons];rw [dF (by exact Nat.le_of_lt hq) (by exact Nat.le_of_lt (Nat.lt_of_lt_of_le h2 h3))];simp
  ·rw [if_neg hq];have e:s=p+1:=by lia
   subst e;simp only [List.cons_append,List.nil_append,List.map_cons,List.flatten_cons];rw [dF (by exact Nat.le_refl _) (by exact Nat.le_of_lt (Nat.lt_of_lt_of_le h2 h3))];simp
end
theorem xQ {p:Nat}(hp:p<text.size)(h:jV (text.getD p 0)=false):gD text (text.size+1- p) p=gD text (text.size+1- (p+1)) (p+1):=by
 rw [show text.size+1- p=(text.size+1- (p+1))+1 from by lia];rw [jW,if_neg (by exact Nat.not_le_of_lt hp),h];simp
theorem aBo {p:Nat}(hp:p<text.size)(h:jV (text.getD p 0)=true):gD text (text.size+1- p) p=some p:=by
 rw [show text.size+1- p=(text.size- p)+1 from by lia];rw [jW,if_neg (by exact Nat.not_le_of_lt hp),h];simp
theorem xR {p:Nat}(hp:p<text.size)(h:fQ text p=false):dI text (text.size- p+1) p=dI text (text.size- (p+1)+1) (p+1):=by
 rw [eG,h,show text.size- p=text.size- (p+1)+1 from by lia];simp [hp]
theorem aBp {p:Nat}(h:fQ text p=true):dI text (text.size- p+1) p=some p:=by
 rw [eG,h]; simp
theorem cY {p:Nat}(hp:p<text.size):text.toList.drop p=text.getD p 0::text.toList.drop (p+1):=by
 rw [List.drop_eq_getElem_cons (by simpa using hp)];simp [Array.getD,hp]
theorem aBq {c:Nat}{r:List Nat}(h:jV c=false):dW (c::r)=c::dW r:=by
 unfold jV at h;rw [Bool.or_eq_false_iff,beq_eq_false_iff_ne,beq_eq_false_iff_ne] at h;exact aMc h.1 h.2
theorem aMn (text:Array Nat):∀(d p:Nat),text.size- p=d->p<=text.size->cH text ⟨#[13,10]⟩ (fun p=>gD text (text.size+1- p) p) (nT text) p=dW (text.toList.drop p):=by
 intro d
 induction d using Nat.strongRecOn with
 | ind d ih=>
  intro p hd hp
  by_cases hlt:p<text.size
  ·rcases he:jV (text.getD p 0) with _ | _
   ·rw [rA (tV text) hlt (xQ hlt he),cY hlt,aBq he,ih (text.size- (p+1)) (by lia) (p+1) rfl (by exact hlt)]
   ·rw [vC (tV text) hlt (aBo hlt he)];unfold jV at he;rw [Bool.or_eq_true,beq_iff_eq,beq_iff_eq] at he
    by_cases hc:text.getD p 0=13/\p+1<text.size/\text.getD (p+1) 0=10
    ·have e2:nT text p=p+2:=by unfold nT;rw [if_pos hc]
     rw [e2,ih (text.size- (p+2)) (by lia) (p+2) rfl (by exact hc.2.1),cY hlt,cY hc.2.1,hc.1,hc.2.2];rfl
    ·have e2:nT text p=p+1:=by unfold nT;rw [if_neg hc]
     rw [e2,ih (text.size- (p+1)) (by lia) (p+1) rfl (by lia),cY hlt]
     rcases he with he | he
     ·rw [he]; rfl
     ·rw [he]
      by_cases hq:p+1<text.size
      ·rw [cY hq];have hn:text.getD (p+1) 0≠10:=fun z=>hc ⟨he,hq,z⟩
       generalize text.getD (p+1) 0=c at hn;generalize text.toList.drop (p+1+1)=l;show 13::10::dW (c::l)=dW (13::c::l);show _=13::10::eN true (c::l);unfold dW;rw [aG9,aG9,if_neg hn,if_neg hn]
      ·have:text.toList.drop (p+1)=[]:=by simp;exact Nat.le_of_not_lt hq
       rw [this]; rfl
  ·rw [vB (tV text) (by exact Nat.le_of_not_lt hlt) hp];have:text.toList.drop p=[]:=by simp;exact Nat.le_of_not_lt hlt
   rw [this]; rfl
theorem aMo (text:Array Nat)(hx:text.size<=2^14):∀(d p:Nat),text.size- p=d->p<=text.size->cH text ⟨#[46,46]⟩ (fun p=>dI text (text.size- p+1) p) (fun s=>s+1) p=dX (bol text p) (text.toList.drop p):=by
 intro d
 induction d with
 | zero=>
  intro p hd hp;rw [vB (tZ text hx) (by omega) hp];have:text.toList.drop p=[]:=by simp;omega
  rw [this]; rfl
 | succ d ih=>
  intro p hd hp;have hlt:p<text.size:=by omega
  have hb:bol text (p+1)=(text.getD p 0==10):=by unfold bol;simp
  rcases he:fQ text p with _ | _
  ·rw [rA (tZ text hx) hlt (xR hlt he),cY hlt,ih (p+1) (by omega) (by exact hlt),hb];unfold fQ at he;rw [qB];rw [if_neg];intro q;rw [q.2,q.1] at he;simp [hlt] at he
  ·rw [vC (tZ text hx) hlt (aBp he),cY hlt,ih (p+1) (by omega) (by exact hlt),hb];unfold fQ at he;simp only [Bool.and_eq_true,decide_eq_true_eq,beq_iff_eq] at he;rw [he.2,he.1.1];rfl
end Mine
end
namespace Mine
theorem aBr (b:Bool):∀l:List Nat,(dX b l).length<=2*l.length
 | []=>Nat.le_refl _
 | c::r=>by
  rw [qB]
  split
  ·have:=aBr false r;simp;lia
  ·have:=aBr (c==10) r;simp;lia
theorem aHz (l:List Nat):(dW l).length<=2*l.length:=go false l
where go:∀(b:Bool)(l:List Nat),(eN b l).length<=2*l.length
 | _,[]=>Nat.le_refl _
 | b,c::r=>by
  have h1:=go false r;have h2:=go true r;have e:(c::r).length=r.length+1:=rfl;rw [aG9]
  split
  ·split
   ·lia
   ·show (eN false r).length+1+1<=_;lia
  ·split
   ·show (eN true r).length+1+1<=_;lia
   ·show (eN false r).length+1<=_;lia
noncomputable def aBs (p1 p2 p3 p4 p5 p6 p7 p8 a1 a2:Pos):List Stmt:=
 [.Return (some (.Call (.Attribute (.Name "_twin_re_1" p1) "sub" a1) [.Constant (.str "..") 0 p2,.Call (.Attribute (.Name "_twin_re_2" p3) "sub" a2) [.Name "CRLF" p4,.Name "data" p5] [] p6] [] p7)) p8]
theorem aF0 {e1 e2:Expr}{code:Array Nat}{y r:Str}{F:Array Nat->Nat->Option Nat}{G:Array Nat->Nat->Nat}(hline:(ap.endLine==p.line)=true)
  (hst:starEach [e1,e2] env=[(false,eval e1 env),(false,eval e2 env)])
  (hname:∀Q':Value->Shared->Prop,Q' (.ref a) s->wpAny (model prog w) A (eval (.Name x xp) env) Q' E s) (hp:jX s.heap a code) (hF:lU code y.cps (F y.cps) (G y.cps)) (hr:r.length<=2) (hb:r.cps.contains 92=false) (hy:y.cps.size<=2^14)
  (h:wpAny (model prog w) A (eval e1 env) (fun v1 s'1=>(∃ u,v1= .str r u)/\wpAny (model prog w) A (eval e2 env) (fun v2 s'2=>(∃ t,v2= .str y t)/\(∀ b o,s.heap.get? b=some o->s'2.heap.get? b=some o)/\
   ∀h' t' tk,(∀ b o,s'2.heap.get? b=some o->h'.get? b=some o)->Q (.str (Txt.join ⟨#[]⟩ (bA y.cps r (F y.cps) (G y.cps) (y.cps.size+1) 0)) t') {s'2 with heap:=h',toks:=tk}) E s'1) E s):
  wpAny (model prog w) A (eval (.Call (.Attribute (.Name x xp) "sub" ap) [e1,e2] [] p) env) Q E s:=by
 have hany:(backTo p (starEach [e1,e2] env)).any (·.1)=false:=by rw [hst]; rfl
 refine aT rfl hline hany (by simp) (hname _ fun pl=> ?_);obtain ⟨pq,⟨g1,_⟩,k⟩:=id hp;refine getMethod_builtin ⟨_,g1,k.cls⟩ lX tU aC4 (fun b e=>by (replace e:=Value.ref.inj e;subst e); exact ⟨_,g1,k.dict⟩) (callWith_builtin hany (aF hany ?_));rw [hst];refine spliced_cons (wpAny_mono h (fun v1 s'1 h'1=> ?_) fun _ _ x=>x);obtain ⟨⟨u,rfl⟩,h'1⟩:=h'1;refine spliced_cons (wpAny_mono h'1 (fun v2 s'2 h'2=>spliced_nil ?_) fun _ _ x=>x);obtain ⟨⟨t,rfl⟩,hk,hQ⟩:=h'2;exact aC6 hF hy hr hb (hp.keeps hk) hQ
noncomputable def aEk (x:Str):Str:=Txt.join ⟨#[]⟩ (bA x.cps ⟨#[13,10]⟩ (fun p=>gD x.cps (x.cps.size+1- p) p) (nT x.cps) (x.cps.size+1) 0)
theorem vD (x:Str):(aEk x).cps.toList=dW x.cps.toList:=
 (qZ _).trans (aMn x.cps (x.cps.size- 0) 0 rfl (Nat.zero_le _))
theorem oV (h:x.length<=2^12):(aEk x).cps.size<=2^14:=by
 have h1:=aHz x.cps.toList;rw [<- vD,Array.length_toList,Array.length_toList] at h1;have h:x.cps.size<=2^12:=h
 lia
theorem aEl {a b:Str}(h:a.cps.toList=b.cps.toList):a=b:=congrArg Str.mk (Array.toList_inj.mp h)
theorem xS (h:x.length<=2^12):Txt.join ⟨#[]⟩ (bA (aEk x).cps ⟨#[46,46]⟩ (fun p=>dI (aEk x).cps ((aEk x).cps.size- p+1) p) (fun s=>s+1) ((aEk x).cps.size+1) 0)=kP x:=
 aEl (((qZ _).trans (aMo (aEk x).cps (oV h) ((aEk x).cps.size- 0) 0 rfl (Nat.zero_le _))).trans (congrArg (dX true) (vD x)))
theorem aBt (g:Eg){fn:Fn}{fq:Addr}{a1 a2:Addr} {p1 p2 p3 p4 p5 p6 p7 p8 ap1 ap2:Pos}(hps:fn.ps=[ofString "data"])(hbody:fn.body=aBs p1 p2 p3 p4 p5 p6 p7 p8 ap1 ap2)(hl1:(ap1.endLine==p7.line)=true)(hl2:(ap2.endLine==p6.line)=true)
  (hok:fn.ok=true) (hat:∀h,g.Sta h->aG8 fn h fq fd/\h.NoLimit) (hP:∀h,g.Sta h->jX h a1 jR/\jX h a2 bY)
  (n1:fn.sc.names.lookup (ofString "_twin_re_1")=some NameKind.globalImplicit) (n2:fn.sc.names.lookup (ofString "_twin_re_2")=some NameKind.globalImplicit) (n3:fn.sc.names.lookup (ofString "CRLF")=some NameKind.globalImplicit)
  (hg1:g.mg "_twin_re_1"=some (.ref a1)) (hg2:g.mg "_twin_re_2"=some (.ref a2)) {tc:Tok} (hgc:g.mg "CRLF"=some (.str ⟨#[13,10]⟩ tc)) (hx:x.length<=2^12):aL g.prog g.w g.Sta (g.d+1) fq [.str x] (.str (kP x)):=by
 intro A E s M ys hA hS hM hex ht hd;refine rW hok hat (by rw [hps]; rfl) hA hS hM hex ht hd fun b s'1 E1 e1 e2 _ R _=> ?_
 rw [<- e2] at n1 n2 n3;subst e1;obtain ⟨u,hb,hu⟩:=R.vals (ofString "data") (.str x) (by rw [hps]; rfl);refine hu.strE fun t e=> ?_
 subst e;obtain ⟨hP1,hP2⟩:=hP _ R.sta;have glob:∀{s'2:Shared}{y:Str}{u:Value}{p:Pos}{Q:Value->Shared->Prop},s'2.heap=s'1.heap->b.sc.names.lookup y=some NameKind.globalImplicit->g.mg y=some u->(y==ofString "__debug__")=false->Q u s'2->wpAny (model g.prog g.w) b.A (eval (.Name y p) b.env) Q E1 s'2:=fun e h1 h2 h3 q=>
  Name_function_global R.ok.kind (R.ok.env.glob _ h1) (loadGlobal_global (env:=b.env) (by rw [R.ok.globals,e]; exact g.S.g _ R.sta) h2 q) h3
 rw [hbody];refine wpAny_execs_cons (wpAny_Return_some ?_);refine aF0 (a:=a1) (code:=jR) (y:=aEk x) (r:=⟨#[46,46]⟩) (F:=fun text p=>dI text (text.size- p+1) p) (G:=fun _ s=>s+1) hl1 rfl (fun Q' hq=>glob rfl n1 hg1 (by decide) hq) hP1 (tZ _ (oV hx)) (by decide) (by simp) (oV hx) ?_;refine wpAny_Constant_str ⟨⟨_,rfl⟩,?_⟩;refine aF0 (a:=a2) (code:=bY) (y:=x) (r:=⟨#[13,10]⟩) (F:=fun text p=>gD text (text.size+1- p) p) (G:=nT) hl2 rfl (fun Q' hq=>glob rfl n2 hg2 (by decide) hq) hP2 (tV _) (by decide) (by simp) (Nat.le_trans hx (by decide)) ?_;refine glob rfl n3 hgc (by decide) ⟨⟨_,rfl⟩,?_⟩;refine bF R.ok.kind hb (by decide) ⟨⟨_,rfl⟩,fun _ _ e=>e,fun h' t' tk hk=>⟨⟨_,rfl⟩,hk,fun h'' t'' tk'' hk''=> ?_⟩⟩;rw [xS hx];exact ⟨.str _ _,R.kp.trans (KW.of_keep (s:=s'1) fun b o e=>hk'' b o (hk b o e))⟩
theorem mI {g:Eg}{fq:Addr}(q:∀x:Str,x.length<=2^12->aL g.prog g.w g.Sta (g.d+1) fq [.str x] (.str (kP x)))(hv:aAe vs=some v):aL g.prog g.w g.Sta (g.d+1) fq vs v:=by
 rcases vs with _ | ⟨v0,_ | ⟨v1,vs⟩⟩ <;> first | exact no1 hv | skip
 ·rcases v0 with _ | _ | _ | x | _ | _ | l | _ | _ | _ <;> first | exact no1 hv | skip
  ·exact bK hv fun hx hv=>Option.some.inj hv▸q x hx
  ·rcases l with _ | ⟨a,r⟩
   ·exact no1 hv
   ·refine bK hv fun hx hv A E s M ys hA hS hM hex ht hd=>hd.consE fun y ys' e hy hys=> ?_
    obtain ⟨s',t,e1,hs⟩:=hy.alt_inv;have h:=List.all_eq_true.mp hx s' hs;rw [Bool.and_eq_true,decide_eq_true_eq,beq_iff_eq] at h;have c:=q s' h.1 A E s M ys hA hS hM hex ht (by rw [e,e1,hys.nil_inv]; exact .cons (.str _ _) .nil);rw [h.2] at c;exact Option.some.inj hv▸c
 ·rcases v0 <;> exact no1 hv
theorem jD {K:Frag}(x:aCu K a=true)(X:K.In h):h.Ns a (mOf K a):=by
 refine aIy x fun e he x=>aB he fun o ho hd=> ?_
 refine ⟨o,e.1,e.2,X _ _ ho,diE hd,fun b hb=> ?_,fun m=>by unfold mOf;rw [he]; rfl⟩;obtain ⟨s,hs⟩:=Option.isSome_iff_exists.mp (List.all_eq_true.mp x b (Array.mem_toList_iff.mpr hb));exact ⟨_,_,stE hs⟩
theorem aEm {v:Option Value}(h:aIz v a=true):v=some (.ref a):=
 aIy h fun _ hb e=>aB hb fun _ hv r=>hv.trans (congrArg some ((reE r).trans (congrArg _ (beq_iff_eq.mp e))))
structure Grd (K:Frag)(mb:Str->Option Value)(ob:Obj)(h:Heap):Prop where
 X:K.In h
 b:h.Ns builtinsNs mb
 bm:BMod h mainGlobals (mOf K mainGlobals) 4 ob
 nl:h.NoLimit
structure lT (K:Frag)(mb:Str->Option Value)(ob:Obj)(h:Heap):Prop extends Grd K mb ob h where
 z:Zok Zs [] h
theorem lL {K:Frag}{l:List (Str × Addr)}(h:nQ K a l=true){n:Str}{b:Addr}(hm:(n,b)∈l):mOf K a n=some (.ref b):=aEm (List.all_eq_true.mp h _ hm)
theorem aM {K:Frag}{l:List Str}(h:gK K a l=true){n:Str}(hm:n∈l):mOf K a n=none:=Option.isNone_iff_eq_none.mp (List.all_eq_true.mp h _ hm)
structure KOk (K:Frag):Prop where
 t1:K.lookup 174=none
 t2:K.lookup 181=none
 nsG:aCu K 3=true
 nsW:aCu K 277=true
 nsV:aCu K 127=true
 nsA:aCu K 211=true
 fG:gK K 3 jQ=true
 gG:nQ K 3 aI0=true
 gW:nQ K 277 aLk=true
 fW:gK K 277 aI1=true
 gV:nQ K 127 aLl=true
 fV:gK K 127 aI2=true
 gA:nQ K 211 aLm=true
 fA:gK K 211 aI3=true
 empty:∃t,mOf K 3 "EMPTYSTRING"=some (.str "" t)
 crlf:∃t,mOf K 3 "CRLF"=some (.str "\r\n" t)
 third:nsIn K cStatics "thirdparty.any"=some none
 clsW:aCv K 278 277 [.type "object"] "object.__new__"
 clsV:aCv K 128 127 [.type "object"] "object.__new__"
 clsA:aCv K 212 211 [.type "list",.type "object"] "list.__new__"
 cell:∃c d sl,K.lookup 136=some ⟨c,d,.cell (some (.ref 212)),sl⟩
 d198:∃t,tM K 141 (.int 0 t)
 d213:∃t,tM K 157 (.int 0 t)
 d243:tM K 187 .none
 p270:aCw K 43 jR
 p275:aCw K 48 bY
 rdW:readsIn K 278 (.type "type")=true
 sW:∃t,PySem.W.findCls K (.ref 278) (.type "type") "S"=some (.val (.str " " t))
 tW:∃t,PySem.W.findCls K (.ref 278) (.type "type") "T"=some (.val (.str "\t" t))
 fs:yK.map (fun t=>fnV K t.1)=yK.map aGi
theorem aBu {α:Type}{a b:List α}(e:a=b)(i:Nat){x y:α}(ha:a[i]? =some x)(hb:b[i]? =some y):x=y:=Option.some.inj (ha.symm.trans ((congrArg (fun l:List α=>l[i]?) e).trans hb))
theorem KOk.f {K:Frag}(k:KOk K)(i:Nat){t:Addr × Txt0 × List (Str × Addr) × Value × Addr}(h:yK[i]? =some t):aCp K t.1 t.2.1 t.2.2.1 t.2.2.2.1 t.2.2.2.2:=
 aLo (aBu k.fs i (List.getElem?_map.trans (congrArg (Option.map _) h)) (List.getElem?_map.trans (congrArg (Option.map aGi) h)))
theorem vE {K:Frag}{n:Str}(h:aGh K n x=true):∃t,mOf K 3 n=some (.str x t):=
 aIy h fun y hy e=>aB hy fun v hv r=>⟨y.2,hv.trans (congrArg some ((stE r).trans (congrArg (fun z=>Value.str z y.2) (beq_iff_eq.mp e).symm)))⟩
theorem rB {K:Frag}{n:Str}(h:yJ K n x=true):∃t,PySem.W.findCls K (.ref 278) (.type "type") n=some (.val (.str x t)):=
 aIy h fun y hy e=>aB hy fun v hv r=>aB hv fun c hc hv=>⟨y.2,hc.trans (congrArg some ((aNq hv).trans (congrArg PySem.W.CFound.val ((stE r).trans (congrArg (fun z=>Value.str z y.2) (beq_iff_eq.mp e).symm)))))⟩
theorem aKo {tk:Nat}(e:aCz (KA jU h) h tk=nS):KOk (KA jU h):=by
 obtain ⟨e1,e⟩:=Prod.mk.inj e;obtain ⟨_,e⟩:=Prod.mk.inj e;obtain ⟨e3,e⟩:=Prod.mk.inj e;obtain ⟨e4,e⟩:=Prod.mk.inj e;obtain ⟨_,e⟩:=Prod.mk.inj e;obtain ⟨e6,e⟩:=Prod.mk.inj e;obtain ⟨e7,e⟩:=Prod.mk.inj e;obtain ⟨e8,e⟩:=Prod.mk.inj e;obtain ⟨e9,_⟩:=Prod.mk.inj e;obtain ⟨b1,e1⟩:=Bool.and_eq_true_iff.mp e1;obtain ⟨b2,e1⟩:=Bool.and_eq_true_iff.mp e1;obtain ⟨b3,e1⟩:=Bool.and_eq_true_iff.mp e1;obtain ⟨b4,e1⟩:=Bool.and_eq_true_iff.mp e1;obtain ⟨b5,e1⟩:=Bool.and_eq_true_iff.mp e1;obtain ⟨b6,e1⟩:=Bool.and_eq_true_iff.mp e1;obtain ⟨b7,e1⟩:=Bool.and_eq_true_iff.mp e1;obtain ⟨b8,e1⟩:=Bool.and_eq_true_iff.mp e1;obtain ⟨b9,e1⟩:=Bool.and_eq_true_iff.mp e1;obtain ⟨b10,e1⟩:=Bool.and_eq_true_iff.mp e1;obtain ⟨b11,e1⟩:=Bool.and_eq_true_iff.mp e1;obtain ⟨b12,e1⟩:=Bool.and_eq_true_iff.mp e1;obtain ⟨b13,e1⟩:=Bool.and_eq_true_iff.mp e1;obtain ⟨b14,e1⟩:=Bool.and_eq_true_iff.mp e1;obtain ⟨b15,e1⟩:=Bool.and_eq_true_iff.mp e1;obtain ⟨b16,b17⟩:=Bool.and_eq_true_iff.mp e1;obtain ⟨v1,d1,yL⟩:=rJ (aBu e8 0 rfl rfl);obtain ⟨t1,yL⟩:=yI yL;obtain ⟨v2,d2,q2⟩:=rJ (aBu e8 1 rfl rfl);obtain ⟨t2,q2⟩:=yI q2;obtain ⟨v3,d3,q3⟩:=rJ (aBu e8 2 rfl rfl);exact {
  t1:=rfl,t2:=rfl,nsG:=b1,nsW:=b2,nsV:=b3,nsA:=b4,fG:=b5,gG:=b6,gW:=b7,fW:=b8,gV:=b9,fV:=b10,gA:=b11,fA:=b12,empty:=vE b13,crlf:=vE b14,third:=e7
  clsW:=yH (aBu e4 0 rfl rfl),clsV:=yH (aBu e4 1 rfl rfl),clsA:=yH (aBu e4 2 rfl rfl),cell:=aGe e6,d198:=⟨t1,yL▸d1⟩,d213:=⟨t2,q2▸d2⟩,d243:=aGf q3▸d3,p270:=aFc (aBu e9 0 rfl rfl),p275:=aFc (aBu e9 1 rfl rfl),rdW:=b15,sW:=rB b16,tW:=rB b17,
  fs:=e3}
theorem aKp:∀{l:List Addr},(l.all fun a=>(h.get? a).isSome)=true->(KA l h).In h
 | [],_,a,o,e=>nomatch e
 | b::l,q,a,o,e=>by
  obtain ⟨yL,q2⟩:=Bool.and_eq_true_iff.mp q
  by_cases x:a=b
  ·subst x;obtain ⟨o',ho⟩:=Option.isSome_iff_exists.mp yL;have e':some ((h.get? a).getD default)=some o:=(List.lookup_cons_self ..).symm.trans e;rw [ho] at e' ⊢; exact e'
  ·have x':(a==b)=false:=beq_eq_false_iff_ne.mpr x;refine aKp q2 a o (Eq.trans ?_ e);show _=List.lookup a ((b,_)::KA l h);rw [List.lookup_cons,x']
theorem aBv {K:Frag}(X:K.In h)(hc:c≠P)(e:aLp K h c P=some (.type "code",.ref P,⟨.none,none,.fields #[], #[]⟩)):aLn h c P:=
 aB e fun o hk e=>aB e fun vs hf e=>aB e fun p h1 e=>aB e fun a h2 e=>aB e fun b h3 e=>aB e fun i h4 e=>aB e fun d h5 e=>gJ e fun q ho e=>by
  have ep:p= .ref P:=congrArg (fun t:Value × Value × Obj=>t.2.1) e;have eo:q=⟨.none,none,.fields #[], #[]⟩:=congrArg (fun t:Value × Value × Obj=>t.2.2) e;rw [ep] at h1;rw [eo] at ho;exact ⟨#[],⟨o,vs,a.1,a.2,b.1,b.2,i,d.1,d.2,_,X _ _ hk,fiE hf,by rw [Array.getD_eq_getD_getElem?,h1]; rfl,stE h2,inE h3,boE h4,inE h5,ho,rfl,trivial,hc⟩,⟨o,vs,X _ _ hk,congrArg (fun t:Value × Value × Obj=>t.1) e,fiE hf,h1⟩,ho⟩
theorem aKq {tk:Nat}(e:aCz (KA jU h) h tk=nS):(KA jU h).In h/\Zok Zs [] h/\0<tk:=by
 obtain ⟨_,e⟩:=Prod.mk.inj e;obtain ⟨e2,e⟩:=Prod.mk.inj e;obtain ⟨_,e⟩:=Prod.mk.inj e;obtain ⟨_,e⟩:=Prod.mk.inj e;obtain ⟨e5,e⟩:=Prod.mk.inj e;obtain ⟨_,e⟩:=Prod.mk.inj e;obtain ⟨_,e⟩:=Prod.mk.inj e;obtain ⟨_,e⟩:=Prod.mk.inj e;obtain ⟨_,e⟩:=Prod.mk.inj e;have X:=aKp e2;refine ⟨X,⟨fun z hz=> ?_,fun _ _ _ h=>nomatch h⟩,Nat.le_of_ble_eq_true e⟩
 rcases List.mem_cons.mp hz with q | hz
 ·exact q▸aBv X (by decide) (aBu e5 0 rfl rfl)
 ·exact (List.mem_singleton.mp hz)▸aBv X (by decide) (aBu e5 1 rfl rfl)
end Mine
section
set_option maxHeartbeats 1000000
namespace Mine
section
variable {K:Frag}{ob:Obj}
noncomputable abbrev P1:Program:=PySem.Challenge.rw_re0160_02.row.prog
def cP (mb:Str->Option Value):Prop:=∀x:Str,x≠"__name__"->mb x=bootBuiltins x
theorem aBw {m:Str->Option Value}(x:h.Ns a m)(ha:a∉Zs.map (·.2))(k:∀b o,b∉Zs.map (·.2)->h.get? b=some o->h'.get? b=some o):h'.Ns a m:=
 by obtain ⟨o,es,ep,e,r⟩:=x;exact ⟨o,es,ep,k _ _ ha e,r⟩
theorem hV (k:KOk K):SZ (Grd K mb ob) Zs:=fun h h' kk g=>by
 refine ⟨fun a o e=>kk a o (fun q=> ?_) (g.X a o e),aBw g.b (by decide) kk,⟨aBw g.bm.ns (by decide) kk,g.bm.name,g.bm.ne,kk _ _ (by decide) g.bm.obj,g.bm.cls,g.bm.dict,g.bm.data⟩,by obtain ⟨mc,a,b⟩:=g.nl;exact ⟨mc,aBw a (by decide) kk,b⟩⟩;simp only [List.map_cons,List.map_nil,List.mem_cons,List.not_mem_nil,or_false] at q
 rcases q with rfl | rfl
 ·rw [k.t1] at e;exact no1 e
 ·rw [k.t2] at e;exact no1 e
theorem aH0 {T:Txt0}{clo:List (Str × Addr)}{dV:Value}(x:aCp K a T clo dV cc)(g:Grd K mb ob h):∃o fd,h.get? a=some o/\o.cls= .type "function"/\o.data= .func fd:=
 x.elim fun _ e=>⟨_,_,g.X _ _ e.1,rfl,rfl⟩
theorem bW {T:Txt0}{clo:List (Str × Addr)}{dV:Value}(x:aCp K a T clo dV cc)(h1:∀n∈T.scope.names,n.2≠ .cell)(h2:T.scope.kind= .function)(h3:T.scope.isCoroutine=false)(h4:T.scope.isGenerator=false):
  ∃r,Df (Grd K mb ob) a (aCo r T clo dV cc)/\pB K cc P1.main.file=true:=
 x.imp fun _ e=>⟨⟨fun _ g=>⟨⟨_,g.X _ _ e.1,rfl,rfl⟩,codeRec_of g.X e.2.1,g.nl⟩,rfl,rfl,h1,h2,h3,h4⟩,e.2.2⟩
def At0 (K:Frag)(mb:Str->Option Value)(ob:Obj)(fn:Fn)(a:Addr):Prop:=∃o fd,o.cls= .type "function"/\o.data= .func fd/\(∀ h,lT K mb ob h->h.get? a=some o)/\∀h,lT K mb ob h->aG8 fn h a fd/\h.NoLimit
theorem lM {T:Txt0}{fn:Fn}(x:aCp K a T [] .none cc)(hb:fn.body=T.body)(hs:fn.sc=T.scope)(hbind:∀(r:FR)(vals:List Value),vals.length=fn.ps.length->bindArgs (aCo r T [] .none cc) ⟨vals,[]⟩=pure (fn.ps.zip vals)):At0 K mb ob fn a:=
 x.elim fun r e=>⟨_,_,rfl,rfl,fun _ g=>g.X _ _ e.1,fun _ g=>⟨⟨⟨_,g.X _ _ e.1,rfl⟩,by rw [hb],by rw [hs],rfl,rfl,rfl,codeRec_of g.X e.2.1,hbind r⟩,g.nl⟩⟩
theorem gI (k:KOk K){n:Str}(h:n∈jQ):mOf K mainGlobals n=none:=aM k.fG h
theorem lN (k:KOk K){n:Str}(h:(n,a)∈aI0):mOf K mainGlobals n=some (.ref a):=lL k.gG h
theorem aEn (k:KOk K)(hmb:cP mb):aJt (lT K mb ob) (mOf K mainGlobals) mb where
 keeps:=fun a b kp g=>⟨hV k _ _ kp.get g.toGrd,g.z.of kp⟩
 zok:=fun h g=>g.z
 g:=fun h g=>jD k.nsG g.X
 b:=fun h g=>g.b
 bi:=fun f id hm=>by
  simp only [nZ,List.mem_cons,Prod.mk.injEq,List.not_mem_nil,or_false] at hm
  rcases hm with ⟨rfl,rfl⟩ | ⟨rfl,rfl⟩ | ⟨rfl,rfl⟩ | ⟨rfl,rfl⟩ | ⟨rfl,rfl⟩ | ⟨rfl,rfl⟩ <;>
   exact ⟨gI k (by decide),(hmb _ (by decide)).trans (by boot_by_name)⟩
 ty:=fun f id hm=>by
  simp only [rQ,List.mem_cons,Prod.mk.injEq,List.not_mem_nil,or_false] at hm
  rcases hm with ⟨rfl,rfl⟩ | ⟨rfl,rfl⟩ | ⟨rfl,rfl⟩ <;>
   exact ⟨gI k (by decide),(hmb _ (by decide)).trans (by boot_by_name)⟩
 sm:=fun h g=>by
  obtain ⟨_,e⟩:=k.f 20 rfl;exact Nat.lt_trans (by decide) (Heap.lt_size (g.X _ _ e.1))
theorem dG (k:KOk K)(hmb:cP mb):FW P1 w (Grd K mb ob) Zs (mOf K mainGlobals) mb where
 sz:=hV k
 zu:=by unfold ZU;decide
 ns:=fun h g=>⟨jD k.nsG g.X,g.b⟩
 bm:=fun h g=>⟨_,_,g.bm⟩
 nl:=fun h g=>g.nl
 sup:=⟨gI k (by decide),(hmb _ (by decide)).trans (by boot_by_name)⟩
 len:=⟨gI k (by decide),(hmb _ (by decide)).trans (by boot_by_name)⟩
 sum:=⟨gI k (by decide),(hmb _ (by decide)).trans (by boot_by_name)⟩
 str:=⟨gI k (by decide),(hmb _ (by decide)).trans (by boot_by_name)⟩
 rng:=⟨gI k (by decide),(hmb _ (by decide)).trans (by boot_by_name)⟩
theorem dH (k:KOk K):AW P1 w (Grd K mb ob) 212 211 (mOf K 211) where
 cls:=fun h g=>by
  exact ⟨k.clsA.imp fun _ e=>g.X _ _ e,jD k.nsA g.X⟩
 looks:=fun h g=>looks_opaque g.X k.third
 ga:=aM k.fA (by decide)
 gt:=aM k.fA (by decide)
 sa:=aM k.fA (by decide)
 gi:=aM k.fA (by decide)
 si:=aM k.fA (by decide)
 it:=aM k.fA (by decide)
 isz:=aM k.fA (by decide)
 app:=aM k.fA (by decide)
 bo:=aM k.fA (by decide)
theorem nJ (k:KOk K):VW (Grd K mb ob) 128 127 (mOf K 127) where
 cls:=fun h g=>by
  obtain ⟨r,e⟩:=k.clsV;exact ⟨⟨r.nm,r.q,r.bs,r.sn,r.sub,r.col,r.dd,r.k0,r.k1,r.k2,r.k3,r.k5,g.X _ _ e⟩,jD k.nsV g.X⟩
 ga:=aM k.fV (by decide)
 gt:=aM k.fV (by decide)
 sa:=aM k.fV (by decide)
 att:=fun n hn=>by
  simp only [dQ,List.mem_cons,List.not_mem_nil,or_false] at hn
  rcases hn with rfl | rfl | rfl | rfl | rfl | rfl <;>
   exact ⟨aM k.fV (by decide),by rw [typeLookup_type,builtinLookup_eq_fast]; kernel_rfl⟩
theorem jE (k:KOk K){name:Str}{f:Addr}{T:Txt0}{clo:List (Str × Addr)}{dV:Value}(hm:(name,f)∈aLm)(x:aCp K f T clo dV cc){y:Option Value}(hl:typeLookup (.type "list") name=pure y)(hn:name≠"_initial_size"):Mth (Grd K mb ob) (mOf K 211) name f:=
 ⟨lL k.gA hm,x.elim fun _ e=>⟨_,_,rfl,rfl,fun h g=>g.X _ _ e.1⟩,⟨_,hl⟩,hn⟩
theorem tB (k:KOk K){name:Str}{f:Addr}{T:Txt0}{clo:List (Str × Addr)}{dV:Value}(hm:(name,f)∈aLl)(x:aCp K f T clo dV cc){y:Option Value}(hl:typeLookup (.type "object") name=pure y)(hn:name∉dQ):aCr (Grd K mb ob) (mOf K 127) name f:=
 ⟨lL k.gV hm,x.elim fun _ e=>⟨_,_,rfl,rfl,fun h g=>g.X _ _ e.1⟩,⟨_,hl⟩,hn⟩
theorem aBx (k:KOk K){r:FR}{T:Txt0}{dV:Value}(hf:pB K cc P1.main.file=true)(hpar:∃ar,(T.params.posonlyargs++T.params.args).head? =some ar/\ar.arg=ofString "self")
  (h1:T.scope.names.lookup (ofString "super")=some NameKind.globalImplicit) (h2:T.scope.names.lookup (ofString "__class__")=some NameKind.free) (h3:T.scope.names.lookup (ofString "self")=some NameKind.local):Sup P1 (Grd K mb ob) 212 (aCo r T [("__class__",136)] dV cc) where
 clo:=⟨136,rfl,fun h g=>by obtain ⟨_,_,_,e⟩:=k.cell;exact ⟨_,g.X _ _ e,rfl⟩⟩
 code:=⟨cc,rfl,fun h g=>aLj hf fun o vs f t ho h1 h2 h3=>⟨o,vs,f,t,g.X _ _ ho,h1,h2,h3⟩⟩
 top:=by kernel_rfl
 par:=hpar
 sup:=h1
 cls:=h2
 slf:=h3
end
end Mine
end
section
set_option maxHeartbeats 2000000
namespace Mine
section
variable {K:Frag}{ob:Obj}
theorem aH1 (k:KOk K):qL P1 w (Grd K mb ob) Zs 212 156:=by
 obtain ⟨r,D,hf⟩:=bW (mb:=mb) (ob:=ob) (k.f 11 rfl) (by decide+kernel) rfl rfl rfl;intro c dc A s hb a b t u ps hA B X hn R hR;exact aAw (hV k) (dH k) D rfl rfl rfl rfl rfl (fun _ _ _=>rfl) A s hb a b t u ps hA B X hn hR
theorem vF (k:KOk K)(hmb:cP mb):oN P1 w (Grd K mb ob) Zs 212 209:=by
 obtain ⟨r,D,hf⟩:=bW (mb:=mb) (ob:=ob) (k.f 18 rfl) (by decide+kernel) rfl rfl rfl;intro c dc A E s hb ps hA B X;exact aAx (hV k) (fun h g=>⟨jD k.nsG g.X,g.b⟩) (dG (w:=w) (ob:=ob) k hmb).sup.1 (dG (w:=w) (ob:=ob) k hmb).sup.2 (dH k) D (aBx k hf ⟨_,rfl,rfl⟩ rfl rfl rfl) rfl rfl (fun _=>rfl) A E s hb ps hA B X
theorem aBy (k:KOk K):Mth (Grd K mb ob) (mOf K 211) "part_count" 209:=jE k (by decide) (k.f 18 rfl) (y:=none) (by rw [typeLookup_type,builtinLookup_eq_fast]; kernel_rfl) (by decide)
theorem aKr (k:KOk K):Mth (Grd K mb ob) (mOf K 211) "push" 156:=jE k (by decide) (k.f 11 rfl) (y:=none) (by rw [typeLookup_type,builtinLookup_eq_fast]; kernel_rfl) (by decide)
theorem aMp (k:KOk K):Mth (Grd K mb ob) (mOf K 211) "pop" 172:=jE k (by decide) (k.f 13 rfl) (y:=some (.builtin "list.pop")) (by rw [typeLookup_type,builtinLookup_eq_fast]; kernel_rfl) (by decide)
theorem aKs (k:KOk K):Mth (Grd K mb ob) (mOf K 211) "__len__" 179:=jE k (by decide) (k.f 14 rfl) (y:=some (.builtin "list.__len__")) (by rw [typeLookup_type,builtinLookup_eq_fast]; kernel_rfl) (by decide)
theorem aKt (k:KOk K):Mth (Grd K mb ob) (mOf K 211) "__str__" 186:=jE k (by decide) (k.f 15 rfl) (y:=some (.builtin "object.__str__")) (by rw [typeLookup_type,builtinLookup_eq_fast]; kernel_rfl) (by decide)
theorem aKu (k:KOk K):Mth (Grd K mb ob) (mOf K 211) "is_onlyws" 201:=jE k (by decide) (k.f 17 rfl) (y:=none) (by rw [typeLookup_type,builtinLookup_eq_fast]; kernel_rfl) (by decide)
theorem aH2 (k:KOk K):Mth (Grd K mb ob) (mOf K 211) "reset" 194:=jE k (by decide) (k.f 16 rfl) (y:=none) (by rw [typeLookup_type,builtinLookup_eq_fast]; kernel_rfl) (by decide)
theorem aBz (k:KOk K):Mth (Grd K mb ob) (mOf K 211) "pop_from" 164:=jE k (by decide) (k.f 12 rfl) (y:=none) (by rw [typeLookup_type,builtinLookup_eq_fast]; kernel_rfl) (by decide)
theorem aKv (k:KOk K)(hmb:cP mb):aKl P1 w (Grd K mb ob) Zs 212 172:=by
 obtain ⟨r,D,hf⟩:=bW (mb:=mb) (ob:=ob) (k.f 13 rfl) (by decide+kernel) rfl rfl rfl;intro c dc A E s hb a b ps hA B X hn;exact aHm (hV k) (fun h g=>⟨jD k.nsG g.X,g.b⟩) (dG (w:=w) (ob:=ob) k hmb).sup.1 (dG (w:=w) (ob:=ob) k hmb).sup.2 (dH k) D (aBx k hf ⟨_,rfl,rfl⟩ rfl rfl rfl) (aBy k) (vF k hmb) rfl rfl rfl (fun _=>rfl) A E s hb a b ps hA B X hn
theorem xT (k:KOk K):qT P1 w (Grd K mb ob) Zs 212 164:=by
 obtain ⟨r,D,hf⟩:=bW (mb:=mb) (ob:=ob) (k.f 12 rfl) (by decide+kernel) rfl rfl rfl;obtain ⟨td,_,_,_,_,ed⟩:=k.d213;intro c dc A E s hb ps j t hj hA B X hn;exact sP (hV k) (dH k) D rfl rfl rfl rfl rfl rfl (fun s x y g=> .of_defaults rfl (g.X _ _ ed) rfl rfl rfl) A E s hb ps j t hj hA B X hn
theorem aF1 (k:KOk K)(hmb:cP mb):xE P1 w (Grd K mb ob) Zs 212 179:=by
 obtain ⟨r,D,hf⟩:=bW (mb:=mb) (ob:=ob) (k.f 14 rfl) (by decide+kernel) rfl rfl rfl;exact aHn (dG k hmb) (dH k) D rfl (.head _) rfl rfl rfl rfl rfl rfl (fun _=>rfl)
theorem aF2 (k:KOk K)(hmb:cP mb):aA3 P1 w (Grd K mb ob) Zs 212 186:=by
 obtain ⟨r,D,hf⟩:=bW (mb:=mb) (ob:=ob) (k.f 15 rfl) (by decide+kernel) rfl rfl rfl;obtain ⟨tE,hE⟩:=k.empty;exact aHo (dG k hmb) (dH k) hE D rfl (.tail _ (.head _)) rfl rfl rfl rfl rfl rfl rfl rfl (fun _=>rfl)
theorem aEo (k:KOk K):aBb P1 w (Grd K mb ob) Zs 212 194:=by
 obtain ⟨r,D,hf⟩:=bW (mb:=mb) (ob:=ob) (k.f 16 rfl) (by decide+kernel) rfl rfl rfl;obtain ⟨_,_,_,_,ed⟩:=k.d243;exact ⟨fun c dc A E s hb ps hA B X hn=>xI (hV k) (dH k) D rfl rfl rfl rfl (fun s x g=> .of_defaults rfl (g.X _ _ ed) rfl rfl rfl) A E s hb ps hA B X hn,
  fun c dc A E s hb R us ps qs hA B X hn hR hq hn2 hne=>xH (hV k) (dH k) D rfl rfl rfl rfl (fun s x y g=> .of_defaults rfl (g.X _ _ ed) rfl rfl rfl) A E s hb R us ps qs hA B X hn hR hq hn2 hne⟩
theorem aH3 (k:KOk K)(hmb:cP mb):aFy P1 w (Grd K mb ob) Zs 212 201:=by
 obtain ⟨r,D,hf⟩:=bW (mb:=mb) (ob:=ob) (k.f 17 rfl) (by decide+kernel) rfl rfl rfl;intro c dc A E s hb ps hA B X hs hne hsp;exact aEa (dG k hmb) (dH k) (aKs k) (aF1 k hmb) (aKt k) (aF2 k hmb) D rfl rfl rfl rfl (fun _=>rfl) A E s hb ps hA B X hs hne hsp
theorem tC (k:KOk K)(hmb:cP mb):lF P1 w (Grd K mb ob) Zs 212:=by
 obtain ⟨r,D,hf⟩:=bW (mb:=mb) (ob:=ob) (k.f 10 rfl) (by decide+kernel) rfl rfl rfl;obtain ⟨td,_,_,_,_,ed⟩:=k.d198;intro A E s hb t hA B;exact aEc (dG k hmb) (dH k) (lL k.gA (by decide)) D (aBx k hf ⟨_,rfl,rfl⟩ rfl rfl rfl) rfl rfl rfl (fun s x y g=> .of_defaults rfl (g.X _ _ ed) rfl rfl rfl) A E s s.heap t hA
  ⟨B.st (hV k),fun _ _ _ e=>e,fun _ h=>(nomatch h),B.z⟩ (fun _ e=>e)
theorem tD (k:KOk K)(hmb:cP mb):nE P1 w (Grd K mb ob) Zs 212 (mOf K 211) ⟨156,172,179,186,201,194,209,164⟩:=
 ⟨aKr k,aMp k,aKs k,aKt k,aKu k,aH2 k,aBy k,aBz k,aH1 k,aKv k hmb,aF1 k hmb,aF2 k hmb,aH3 k hmb,aEo k,vF k hmb,xT k⟩
theorem xU (k:KOk K)(hmb:cP mb):gZ P1 w (Grd K mb ob) Zs 128 212 90:=by
 obtain ⟨r,D,hf⟩:=bW (mb:=mb) (ob:=ob) (k.f 8 rfl) (by decide+kernel) rfl rfl rfl;exact sS (dG k hmb) (dH k) (nJ k) (tD k hmb) D rfl rfl rfl rfl rfl rfl rfl rfl rfl rfl rfl rfl (fun _=>rfl)
theorem aEp (k:KOk K)(hmb:cP mb):lE P1 w (Grd K mb ob) Zs 128 212 125:=by
 obtain ⟨r,D,hf⟩:=bW (mb:=mb) (ob:=ob) (k.f 9 rfl) (by decide+kernel) rfl rfl rfl;exact aBe (dG k hmb) (dH k) (nJ k) (tD k hmb) D rfl rfl rfl rfl rfl rfl rfl rfl rfl rfl rfl rfl rfl rfl rfl rfl rfl rfl rfl rfl rfl rfl rfl rfl rfl rfl (fun _ _ _=>rfl)
theorem aH4 (k:KOk K)(hmb:cP mb):qU P1 w (Grd K mb ob) Zs 128 212 76:=by
 obtain ⟨r,D,hf⟩:=bW (mb:=mb) (ob:=ob) (k.f 7 rfl) (by decide+kernel) rfl rfl rfl;exact aEg (dG k hmb) (dH k) (nJ k) (tD k hmb) (tB k (by decide) (k.f 8 rfl) (y:=none) (by rw [typeLookup_type,builtinLookup_eq_fast]; kernel_rfl) (by decide)) (xU k hmb) D rfl rfl rfl rfl rfl rfl (fun _ _=>rfl)
theorem aH5 (k:KOk K)(hmb:cP mb):aFz P1 w (Grd K mb ob) Zs 128 212 69:=by
 obtain ⟨r,D,hf⟩:=bW (mb:=mb) (ob:=ob) (k.f 6 rfl) (by decide+kernel) rfl rfl rfl;intro A E s hb x dx wd cw sp t0 t1 t2 t3 hA B X hcw;exact aHw (dG k hmb) (dH k) (nJ k) (tC k hmb) (lN k (by decide)) D rfl rfl rfl rfl rfl rfl rfl rfl (fun _ _ _ _ _=>rfl) A E s hb x dx wd cw sp t0 t1 t2 t3 hA B X hcw
theorem aH6 (k:KOk K)(hmb:cP mb):aBg P1 w (Grd K mb ob) Zs 128 212:=by
 intro A E s hb wd cw sp t0 t1 t2 t3 hA B hcw;exact aHx (dG k hmb) (nJ k) (lL k.gV (by decide)) (fun h g=>by obtain ⟨o,_,h1,h2,_⟩:=aH0 (k.f 6 rfl) g;exact ⟨o,h1,h2⟩) (aH5 k hmb) A E s hb wd cw sp t0 t1 t2 t3 hA B hcw
end
noncomputable def aIt:List Str:=[ofString "raw",ofString "n",ofString "nt",ofString "norm",ofString "is_simple"]
noncomputable def fnW (n:Str)(mu:List Str):Fn:=(iM n mu (findCls "Whitespace" vU)).getD ⟨[],[],[],default⟩
noncomputable def fnF (n:Str)(mu:List Str):Fn:=(iM n mu vU).getD ⟨[],[],[],default⟩
noncomputable def aF3:Fn:=fnW (ofString "longest_run_of_spaces") []
noncomputable def aB0:Fn:=fnW (ofString "indent_level") []
noncomputable def aB1:Fn:=fnW (ofString "equal") []
noncomputable def rC:Fn:=fnW (ofString "not_equal_witness") [ofString "a"]
noncomputable def aF4:Fn:=fnW (ofString "less") []
noncomputable def aP:Fn:=fnF (ofString "_law_filled") [ofString "rows"]
noncomputable def aB2:Fn:=fnF (ofString "_law_order") [ofString "order"]
noncomputable def vG:Fn:=fnF (ofString "_law_lead") [ofString "met"]
noncomputable def jP:Fn:=fnF (ofString "_law_counts") [ofString "counts"]
noncomputable def fB:Fn:=fnF (ofString "_law_renamed") []
noncomputable def vH:Fn:=fnF (ofString "_law_column") []
noncomputable def aC:Fn:=fnF (ofString "law") []
noncomputable def aB3:Fn:=fnF (ofString "quotedata") []
noncomputable def cfN:CallF:=⟨fun _ _=>none,fun _ _=>none,fun _ _=>none,278,aIt⟩
noncomputable def wsT:List AV->Option AV
 | [.str s]=>if s.cps.toList.all (fun c=>c==32||c==9)&&Nat.ble s.length 900 then
   some (.inst 278 [("raw",.str s),("n",.int (lS s.cps.toList [] 0 0 0).2.2.1),("nt",.int (lS s.cps.toList [] 0 0 0).2.2.2),("norm",.tup [.tup ((lS s.cps.toList [] 0 0 0).1.map .int),.int (lS s.cps.toList [] 0 0 0).2.1]),("is_simple",.bool (decide ((lS s.cps.toList [] 0 0 0).1.length<=1)))])
  else none
 | _=>none
noncomputable def cf0:CallF:=⟨fun f vs=>if f=ofString "quotedata" then aAe vs else none,
 fun m vs=>if m=ofString "longest_run_of_spaces" then bS cfN 100 aF3 vs else if m=ofString "indent_level" then bS cfN 100 aB0 vs else none,fun f vs=>if f=ofString "Whitespace" then wsT vs else none,278,aIt⟩
noncomputable def cfR:Nat->CallF
 | 0=>cfN
 | k+1=>⟨fun f vs=>if f=ofString "_law_renamed" then bS (cfR k) 100 fB vs else none,fun _ _=>none,fun _ _=>none,278,aIt⟩
noncomputable def cf1:CallF:=⟨fun f vs=>if f=ofString "_law_heaps" then bS cfN 60 dL vs else if f=ofString "_law_filled" then bS cfN 100 aP vs else if f=ofString "_law_order" then bS cfN 100 aB2 vs else if f=ofString "_law_counts" then bS cfN 100 jP vs
  else if f=ofString "_law_lead" then bS cf0 100 vG vs else if f=ofString "_law_renamed" then bS (cfR 6) 100 fB vs else if f=ofString "_law_column" then bS cfN 100 vH vs else if f=ofString "_law_rows" then sZ vs else none,
 fun m vs=>if m=ofString "equal" then bS cf0 100 aB1 vs else if m=ofString "not_equal_witness" then bS cf0 100 rC vs else if m=ofString "less" then bS cf0 100 aF4 vs else none,
 fun _ _=>none,278,aIt⟩
section
variable {K:Frag}{ob:Obj}
theorem aL.up {d d':Nat}(h:aL prog w Sta d a vs v)(hd:d<=d'):aL prog w Sta d' a vs v:=
 fun A E s M ys hA hS hM ht hden=>h A E s M ys (hA.less hd) hS hM ht hden
theorem aOa (h:vals.length=1):∃x,vals=[x]:=by
 rcases vals with _ | ⟨x,_ | ⟨y,r⟩⟩
 ·cases h
 ·exact ⟨x,rfl⟩
 ·simp at h
theorem aOb (h:vals.length=2):∃x y,vals=[x,y]:=by
 rcases vals with _ | ⟨x,_ | ⟨y,_ | ⟨z,r⟩⟩⟩
 ·cases h
 ·simp at h
 ·exact ⟨x,y,rfl⟩
 ·simp at h
theorem aIu {T:Txt0}{fn:Fn}(x:aCp K a T [] .none cc)(hb:fn.body=T.body:=by rfl)(hs:fn.sc=T.scope:=by rfl)(hbind:∀(r:FR)(x:Value),bindArgs (aCo r T [] .none cc) ⟨[x],[]⟩=pure (fn.ps.zip [x]):=by intros;rfl)(hl:fn.ps.length=1:=by rfl):At0 K mb ob fn a:=
 lM x hb hs fun _ vals h=>by obtain ⟨x,rfl⟩:=aOa (h.trans hl); exact hbind ..
theorem aF5 {T:Txt0}{fn:Fn}(x:aCp K a T [] .none cc)(hb:fn.body=T.body:=by rfl)(hs:fn.sc=T.scope:=by rfl)(hbind:∀(r:FR)(x y:Value),bindArgs (aCo r T [] .none cc) ⟨[x,y],[]⟩=pure (fn.ps.zip [x,y]):=by intros;rfl)(hl:fn.ps.length=2:=by rfl):At0 K mb ob fn a:=
 lM x hb hs fun _ vals h=>by obtain ⟨x,y,rfl⟩:=aOb (h.trans hl); exact hbind ..
theorem aOc (h:vals.length=3):∃x y z,vals=[x,y,z]:=by
 rcases vals with _ | ⟨x,_ | ⟨y,_ | ⟨z,_ | ⟨u,r⟩⟩⟩⟩
 ·cases h
 ·simp at h
 ·simp at h
 ·exact ⟨x,y,z,rfl⟩
 ·simp at h
theorem aOd {T:Txt0}{fn:Fn}(x:aCp K a T [] .none cc)(hb:fn.body=T.body:=by rfl)(hs:fn.sc=T.scope:=by rfl)(hbind:∀(r:FR)(x y z:Value),bindArgs (aCo r T [] .none cc) ⟨[x,y,z],[]⟩=pure (fn.ps.zip [x,y,z]):=by intros;rfl)(hl:fn.ps.length=3:=by rfl):At0 K mb ob fn a:=
 lM x hb hs fun _ vals h=>by obtain ⟨x,y,z,rfl⟩:=aOc (h.trans hl); exact hbind ..
theorem aMq (k:KOk K):At0 K mb ob aF3 240:=aIu (k.f 1 rfl)
theorem aKw (k:KOk K):At0 K mb ob aB0 247:=aF5 (k.f 2 rfl)
theorem aKx (k:KOk K):At0 K mb ob aB1 254:=aF5 (k.f 3 rfl)
theorem aEq (k:KOk K):At0 K mb ob rC 261:=aF5 (k.f 4 rfl)
theorem aMr (k:KOk K):At0 K mb ob aF4 268:=aF5 (k.f 5 rfl)
theorem aWs (k:KOk K):At0 K mb ob sF 233:=aF5 (k.f 0 rfl)
theorem aKy (k:KOk K):At0 K mb ob aB3 55:=aIu (k.f 19 rfl)
theorem aKz (k:KOk K):At0 K mb ob dL 289:=aIu (k.f 20 rfl)
theorem aH7 (k:KOk K):At0 K mb ob aP 301:=aF5 (k.f 22 rfl)
theorem aK0 (k:KOk K):At0 K mb ob aB2 306:=aIu (k.f 23 rfl)
theorem aMs (k:KOk K):At0 K mb ob vG 313:=aF5 (k.f 24 rfl)
theorem aH8 (k:KOk K):At0 K mb ob jP 318:=aIu (k.f 25 rfl)
theorem vI (k:KOk K):At0 K mb ob fB 325:=aOd (k.f 26 rfl)
theorem aH9 (k:KOk K):At0 K mb ob vH 330:=aF5 (k.f 27 rfl)
theorem aOe (k:KOk K):At0 K mb ob aC 335:=aIu (k.f 28 rfl)
theorem nK (k:KOk K):∀n∈aIt,mOf K 277 n=none/\typeLookup (.type "object") n=pure none:=fun n hn=>by
 simp only [aIt,List.mem_cons,List.not_mem_nil,or_false] at hn
 rcases hn with rfl | rfl | rfl | rfl | rfl <;> exact ⟨aM k.fW (by decide),by rw [typeLookup_type,builtinLookup_eq_fast]; kernel_rfl⟩
theorem rD (k:KOk K):wJ (lT K mb ob) (mOf K 277) 278 277:=⟨fun h g=>by
  obtain ⟨r,e⟩:=k.clsW;refine ⟨⟨r.nm,r.q,r.bs,r.sn,r.sub,r.col,r.dd,r.k0,r.k1,r.k2,r.k3,r.k5,aA.mpr ⟨by decide,g.X _ _ e⟩⟩,?_⟩;obtain ⟨o,es,ep,e,r⟩:=jD k.nsW g.X;exact ⟨o,es,ep,aA.mpr ⟨by decide,e⟩,r⟩,
 aM k.fW (by decide),aM k.fW (by decide)⟩
noncomputable abbrev aF6 (k:KOk K)(hmb:cP mb){w:World}{ob:Obj}{cf:CallF}{d:Nat}(C:aFm P1 w (lT K mb ob) (mOf K mainGlobals) cf d):Eg:=⟨P1,w,lT K mb ob,mOf K mainGlobals,mb,cf,d,aEn k hmb,C⟩
theorem jF (k:KOk K):aFm P1 w (lT K mb ob) (mOf K mainGlobals) cfN 0 where
 fn:=fun f vs v h=>nomatch h
 cls:=⟨277,mOf K 277,(rD k).at',aM k.fW (by decide),aM k.fW (by decide),nK k,fun m vs v h=>nomatch h⟩
 cl:=fun f vs v h=>nomatch h
theorem aF7 {code:Array Nat}(x:aCw K a code)(X:K.In h):jX h a code:=
 by obtain ⟨f,ca,oc,ci,n,e,h1,h2,h3,e2,h4,h5⟩:=x;exact ⟨⟨_,f,ca,oc,ci,n⟩,⟨X _ _ e,X _ _ e2⟩,rfl,rfl,rfl,h1,h2,h3,h4,h5⟩
theorem jG (k:KOk K)(hmb:cP mb){d d':Nat}(C:aFm P1 w (lT K mb ob) (mOf K mainGlobals) cf d){fn:Fn}(hok:fn.ok=true){f:Str}(hm:(f,a)∈aI0)(x:At0 K mb ob fn a)(hd:d+1<=d'){fuel:Nat}(h:bS cf fuel fn vs=some v):
  ∃a o fd,mOf K mainGlobals f=some (.ref a)/\o.data= .func fd/\(∀ h,lT K mb ob h->h.get? a=some o)/\aL P1 w (lT K mb ob) d' a vs v:=
 by obtain ⟨o,fd,_,h2,h3,h4⟩:=x;exact ⟨a,o,fd,lN k hm,h2,h3,(uP (g:=aF6 k hmb C) hok h4 h).up hd⟩
theorem lO (k:KOk K)(hmb:cP mb){d d':Nat}(C:aFm P1 w (lT K mb ob) (mOf K mainGlobals) cf d){fn:Fn}(hok:fn.ok=true){m:Str}{f:Addr}(hm:(m,f)∈aLk){y:Option Value}(hl:typeLookup (.type "object") m=pure y)(x:At0 K mb ob fn f)(hd:d+1<=d'){fuel:Nat}(h:bS cf fuel fn vs=some v):
  ∃f y o fd,mOf K 277 m=some (.ref f)/\typeLookup (.type "object") m=pure y/\o.cls= .type "function"/\o.data= .func fd/\(∀ h,lT K mb ob h->h.get? f=some o)/\aL P1 w (lT K mb ob) d' f vs v:=
 by obtain ⟨o,fd,h1,h2,h3,h4⟩:=x;exact ⟨f,y,o,fd,lL k.gW hm,hl,h1,h2,h3,(uP (g:=aF6 k hmb C) hok h4 h).up hd⟩
theorem aEr (k:KOk K)(hmb:cP mb)(h:aAe vs=some v):∃a o fd,mOf K mainGlobals (ofString "quotedata")=some (.ref a)/\o.data= .func fd/\(∀ h,lT K mb ob h->h.get? a=some o)/\aL P1 w (lT K mb ob) 1 a vs v:=by
 obtain ⟨o,fd,_,h2,h3,h4⟩:=aKy (mb:=mb) (ob:=ob) k;obtain ⟨tc,hc⟩:=k.crlf;exact ⟨55,o,fd,lN k (by decide),h2,h3,mI (g:=aF6 k hmb (jF (w:=w) (ob:=ob) k)) (fun _ hx=>aBt (aF6 k hmb (jF k)) (fn:=aB3) rfl rfl rfl rfl (by kernel_rfl) h4 (fun h g=>⟨aF7 k.p270 g.X,aF7 k.p275 g.X⟩) rfl rfl rfl (lN k (by decide)) (lN k (by decide)) hc hx) h⟩
theorem aMt (k:KOk K)(hmb:cP mb)(hr:∀c∈raw.cps.toList,c=32\/c=9)(hlen:raw.length<=900):
  aL P1 w (lT K mb ob) 2 278 [.str raw] (.inst 278 [("raw",.str raw),("n",.int (lS raw.cps.toList [] 0 0 0).2.2.1),("nt",.int (lS raw.cps.toList [] 0 0 0).2.2.2),("norm",.tup [.tup ((lS raw.cps.toList [] 0 0 0).1.map .int),.int (lS raw.cps.toList [] 0 0 0).2.1]),("is_simple",.bool (decide ((lS raw.cps.toList [] 0 0 0).1.length<=1)))]):=by
 obtain ⟨o,fd,h1,h2,h3,h4⟩:=aWs (mb:=mb) (ob:=ob) k;obtain ⟨tS,eS⟩:=k.sW;obtain ⟨tT,eT⟩:=k.tW;exact tA (aF6 k hmb (jF k)) (rD k) (lL k.gW (by decide)) h1 h3 h4 (fun y hy=>⟨(nK k y hy).1,(nK k y hy).2⟩) (lN k (show (ofString "Whitespace",278)∈aI0 by decide))
  (fun A E s Q g h=>cls_value g.X k.rdW eS rfl h) (fun A E s Q g h=>cls_value g.X k.rdW eT rfl h) hr hlen
theorem aF8 (k:KOk K)(hmb:cP mb):aFm P1 w (lT K mb ob) (mOf K mainGlobals) cf0 2 where
 fn:=fun f vs v h=>bK h fun e h=>e▸by obtain ⟨a,o,fd,h1,h2,h3,h4⟩:=aEr (w:=w) k hmb h;exact ⟨a,o,fd,h1,h2,h3,h4.up (by decide)⟩
 cls:=⟨277,mOf K 277,(rD k).at',aM k.fW (by decide),aM k.fW (by decide),nK k,fun m vs v h=>iC h
  (fun e h=>e▸lO k hmb (jF k) (by kernel_rfl) (by decide) (y:=none) (by rw [typeLookup_type,builtinLookup_eq_fast]; kernel_rfl) (aMq k) (by decide) h)
  fun _ h=>bK h fun e h=>e▸lO k hmb (jF k) (by kernel_rfl) (by decide) (y:=none) (by rw [typeLookup_type,builtinLookup_eq_fast]; kernel_rfl) (aKw k) (by decide) h⟩
 cl:=fun f vs v h=>bK h fun e h=>by
  subst e
  rcases vs with _ | ⟨v0,_ | ⟨v1,vs⟩⟩
  ·exact no1 h
  ·rcases v0 with _ | _ | _ | raw | _ | _ | _ | _ | _ | _ <;> first | exact no1 h | skip
   refine bK h fun q h=> ?_
   replace h:=Option.some.inj h
   subst h;obtain ⟨q1,q2⟩:=Bool.and_eq_true_iff.mp q;exact ⟨lN k (by decide),List.cons_ne_nil _ _,aMt k hmb (fun c hc=>(Bool.or_eq_true_iff.mp (List.all_eq_true.mp q1 c hc)).imp beq_iff_eq.mp beq_iff_eq.mp) (Nat.le_of_ble_eq_true q2)⟩
  ·rcases v0 <;> exact no1 h
theorem aF9 (k:KOk K)(hmb:cP mb):∀n,aFm P1 w (lT K mb ob) (mOf K mainGlobals) (cfR n) n
 | 0=>jF k
 | n+1=>{
  fn:=fun f vs v h=>bK h fun e h=>e▸jG k hmb (aF9 k hmb n) (by kernel_rfl) (by decide) (vI k) (Nat.le_refl _) h
  cls:=⟨277,mOf K 277,(rD k).at',aM k.fW (by decide),aM k.fW (by decide),nK k,fun m vs v h=>nomatch h⟩
  cl:=fun f vs v h=>nomatch h}
end
section
variable {K:Frag}{ob:Obj}
theorem aEs (k:KOk K)(hmb:cP mb)(h:sZ vs=some v):∃a o fd,mOf K mainGlobals (ofString "_law_rows")=some (.ref a)/\o.data= .func fd/\(∀ h,lT K mb ob h->h.get? a=some o)/\aL P1 w (lT K mb ob) 42 a vs v:=by
 obtain ⟨_,e,_,_⟩:=k.f 21 rfl;obtain ⟨r,D,hf⟩:=bW (mb:=mb) (ob:=ob) (k.f 21 rfl) (by decide+kernel) rfl rfl rfl;refine ⟨294,_,_,lN k (by decide),rfl,fun h g=>g.X _ _ e,?_⟩;exact oU (g:=aF6 k hmb (jF (w:=w) (ob:=ob) k)) (fun _ g=>g.toGrd) (show 0<=41 by decide) (dG k hmb) (nJ k) (aH6 k hmb) (lN k (by decide)) (tB k (by decide) (k.f 9 rfl) (y:=none) (by rw [typeLookup_type,builtinLookup_eq_fast]; kernel_rfl) (by decide)) (aEp k hmb)
  (tB k (by decide) (k.f 7 rfl) (y:=none) (by rw [typeLookup_type,builtinLookup_eq_fast]; kernel_rfl) (by decide)) (aH4 k hmb) D (show ∀y∈(txF "_law_rows").scope.names,y.2≠ .free by decide+kernel) rfl rfl rfl rfl rfl rfl rfl rfl rfl rfl rfl (fun _ _=>rfl) h
theorem aGa (k:KOk K)(hmb:cP mb):aFm P1 w (lT K mb ob) (mOf K mainGlobals) cf1 42 where
 fn:=fun f vs v h=>by
  have C:=aF8 (w:=w) (ob:=ob) k hmb;have N:=jF (w:=w) (mb:=mb) (ob:=ob) k;refine iC h (fun e h=>e▸jG k hmb N (by kernel_rfl) (by decide) (aKz k) (by decide) h) fun _ h=> ?_
  refine iC h (fun e h=>e▸jG k hmb N (by kernel_rfl) (by decide) (aH7 k) (by decide) h) fun _ h=> ?_
  refine iC h (fun e h=>e▸jG k hmb N (by kernel_rfl) (by decide) (aK0 k) (by decide) h) fun _ h=> ?_
  refine iC h (fun e h=>e▸jG k hmb N (by kernel_rfl) (by decide) (aH8 k) (by decide) h) fun _ h=> ?_
  refine iC h (fun e h=>e▸jG k hmb C (by kernel_rfl) (by decide) (aMs k) (by decide) h) fun _ h=> ?_
  refine iC h (fun e h=>e▸jG k hmb (aF9 (w:=w) (ob:=ob) k hmb 6) (by kernel_rfl) (by decide) (vI k) (by decide) h) fun _ h=> ?_
  refine iC h (fun e h=>e▸jG k hmb N (by kernel_rfl) (by decide) (aH9 k) (by decide) h) fun _ h=> ?_
  exact bK h fun e h=>e▸aEs k hmb h
 cls:=⟨277,mOf K 277,(rD k).at',aM k.fW (by decide),aM k.fW (by decide),nK k,fun m vs v h=>by
  have C:=aF8 (w:=w) (ob:=ob) k hmb;refine iC h (fun e h=>e▸lO k hmb C (by kernel_rfl) (by decide) (y:=none) (by rw [typeLookup_type,builtinLookup_eq_fast]; kernel_rfl) (aKx k) (by decide) h) fun _ h=> ?_
  refine iC h (fun e h=>e▸lO k hmb C (by kernel_rfl) (by decide) (y:=none) (by rw [typeLookup_type,builtinLookup_eq_fast]; kernel_rfl) (aEq k) (by decide) h) fun _ h=> ?_
  exact bK h fun e h=>e▸lO k hmb C (by kernel_rfl) (by decide) (y:=none) (by rw [typeLookup_type,builtinLookup_eq_fast]; kernel_rfl) (aMr k) (by decide) h⟩
 cl:=fun f vs v h=>nomatch h
end
def Wk (v v':AV):Prop:=∀V u,Den V u v->Den V u v'
theorem Wk.rfl':Wk v v:=fun _ _ h=>h
inductive WkL:List AV->List AV->Prop where
 | nil:WkL [] []
 | cons {a b:AV} {l m:List AV}:Wk a b->WkL l m->WkL (a::l) (b::m)
theorem Wk.list {l l':List AV}(h:WkL l l'):Wk (.list l) (.list l'):=fun V u d=>d.listE fun P us e hp dl=>by
 subst e;refine .mkList hp ?_
 clear hp d
 induction h generalizing us with
 | nil=>exact dl
 | cons h1 _ ih=>exact dl.consE fun y ys e d r=>e▸ .cons (h1 _ _ d) (ih _ r)
theorem Wk.alt {l:List Str}(h:x∈l):Wk (.str x) (.alt l):=fun V u d=>d.strE fun t e=>e▸ .alt _ _ _ h
def WkS (ρ ρ':St):Prop:=∀x sl,ρ' x=some sl->∃v v',sl= .val v'/\ρ x=some (.val v)/\Wk v v'
section
variable {g:Eg}{b:Bk}{ρ':St}
theorem Rel.weak (R:Rel g b S O ρ s)(h:WkS ρ ρ'):Rel g b S O ρ' s:=
 {R with
  vals:=fun x v e=>by
   obtain ⟨u,u',e1,e2,k⟩:=h _ _ e;obtain rfl:=Slot.val.inj e1;obtain ⟨y,h1,h2⟩:=R.vals x u e2;exact ⟨y,h1,k _ _ h2⟩
  owns:=fun x v e=>by obtain ⟨_,_,e1,_⟩:=h _ _ e;exact nomatch e1
  mus:=fun x v e=>by obtain ⟨_,_,e1,_⟩:=h _ _ e;exact nomatch e1
  ownsAp:=fun x y v v' a e=>by obtain ⟨_,_,e1,_⟩:=h _ _ e;exact nomatch e1}
theorem Ex.after {post:List Stmt}{fl:Fl}{ρ'1 ρ'2 ρ₃:St}(wk:WkS ρ'1 ρ'2)(h2:Ex g b (execs post b.env) ρ'2 fl ρ₃):∀(pre:List Stmt)(n:Nat)(ρ:St),exB g.cf b.mu n b.sc ρ pre=some (.next,ρ'1)->Ex g b (execs (pre++post) b.env) ρ fl ρ₃
 | _,0,_,h=>no1 h
 | [],n+1,ρ,h=>by
  obtain rfl:=(Prod.mk.inj (Option.some.inj h)).2;exact fun S O s E Q R ht q=>h2 S O s E Q (R.weak wk) ht q
 | st::pre,n+1,ρ,h=>aB (o:=exS g.cf b.mu n b.sc ρ st) h fun p hp h1 S O s E Q R ht q=>wpAny_execs_cons ((iZ g b n).1 st ρ p hp S O s E _ R ht (by
   rcases p with ⟨f | f | v,ρm⟩
   ·exact fun O1 s'1 on=>Ex.after wk h2 pre n ρm h1 S O1 s'1 E Q on.rel on.toks (q.thru R.zok on)
   ·exact nomatch (Prod.mk.inj (Option.some.inj h1)).1
   ·exact nomatch (Prod.mk.inj (Option.some.inj h1)).1))
end
section
variable {K:Frag}{ob:Obj}
theorem aEt (k:KOk K)(hmb:cP mb){args:List AV}(hl:args.length=1){ρ'1 ρ'2 ρ₃:St}(h1:exB cf1 [] n aC.sc (eE aC.ps args) (aC.body.take 6)=some (.next,ρ'1))(wk:WkS ρ'1 ρ'2)(h2:exB cf1 [] m aC.sc ρ'2 (aC.body.drop 6)=some (.ret v,ρ₃)):aL P1 w (lT K mb ob) 43 335 args v:=fun A E s M ys hA hS hZ hM ht hd=>by
 obtain ⟨_,fd,_,_,_,h4⟩:=aOe (mb:=mb) (ob:=ob) k;refine rW (g:=aF6 k hmb (aGa (w:=w) (ob:=ob) k hmb)) (fn:=aC) (by kernel_rfl) h4 (hl.symm▸rfl) hA hS hZ hM ht hd fun b s'1 E1 e1 e2 e3 R ht1=> ?_
 subst e1;rw [show aC.body=aC.body.take 6++aC.body.drop 6 from (List.take_append_drop 6 _).symm];refine Ex.after (g:=aF6 k hmb (aGa (w:=w) (ob:=ob) k hmb)) wk (ρ₃:=ρ₃) (fl:= .ret v) ?_ (aC.body.take 6) n _ ?_ M [] s'1 E1 _ R ht1 fun y s' r=>⟨r.den,r.kp⟩
 ·exact fun S O s E Q R ht q=>(iZ _ b m).2 _ ρ'2 (.ret v,ρ₃) (by rw [e2,e3]; exact h2) S O s E Q R ht q
 ·rw [e2,e3]; exact h1
end
def PureLaw:Prop:=∀script:List Int,script.length<=63->∃(n m:Nat) (ρ'1 ρ'2 ρ₃:St),exB cf1 [] n aC.sc (eE aC.ps [.list (script.map .int)]) (aC.body.take 6)=some (.next,ρ'1)/\WkS ρ'1 ρ'2/\exB cf1 [] m aC.sc ρ'2 (aC.body.drop 6)=some (.ret (.bool true),ρ₃)
section
variable {K:Frag}
theorem aB4 (kw:Kp s s')(zok:Zok Zs [] s.heap):OldK s.heap s'.heap:=by
 have tab:∀z∈Zs,∃ps more,Tab s.heap z ps/\Tab s'.heap z (ps++more):=fun z hz=>by
  obtain ⟨ps,h1⟩:=zok.at' z hz;obtain ⟨more,h2⟩:=kw.tab z hz ps h1;exact ⟨ps,more,h1,h2⟩
 refine ⟨fun b o e=> ?_,fun b o e=> ?_⟩
 ·by_cases hb:b∈Zs.map (·.2)
  ·obtain ⟨z,hz,rfl⟩:=List.mem_map.mp hb;obtain ⟨ps,more,h1,h2⟩:=tab z hz;obtain rfl:=Option.some.inj (e.symm.trans h1.2.2);exact .inr (.inl ⟨h1.2.isCodeTable,rfl,ps,more,rfl,h2.2.2⟩)
  ·exact .inl (kw.keep b o (fun h=>nomatch h) hb e)
 ·by_cases hb:b∈Zs.map (·.2)
  ·obtain ⟨z,hz,rfl⟩:=List.mem_map.mp hb;obtain ⟨ps,more,h1,h2⟩:=tab z hz;exact ⟨_,h2.2.2⟩
  ·exact ⟨o,kw.keep b o (fun h=>nomatch h) hb e⟩
theorem aEu {loose:List Str}{mean:ExcName->Option Value}(k:KOk K)(PL:PureLaw)(X:K.In s'1.heap)(zok:Zok Zs [] s'1.heap)(T:Top prog loose mean mg mb s'1.heap)(hg:s'1.gens= #[])(ht:0<s'1.toks)
  {fa:Addr} (hfa:mg "law"=some (.ref fa)) {items:List Value} {ns:List Int} (hL:s'1.heap.get? L=some {cls:= .type "list",data:= .seq items.toArray}) (hI:IntsAre items ns) (hlen:ns.length<=63)
  {c:ClaimW} {cl:Str->Option Addr} {args:List WData} (hr:∀cls,c.raises args cls=false) (hp:c.post args (.bool true) args=true):
  wpAny (model P1 w) callerA (call (.ref fa) [.ref L]) (fun v s'=>GoodWG c cl mean args s'1 (.ok (.ret v)) s') E s'1:=by
 have eg:mg=mOf K mainGlobals:=funext fun n=>T.g.agree (jD k.nsG X) n
 obtain ⟨bm,ob,M⟩:=bmod_of_top T;have e4:bm=4:=by
  have:=lN k (n:=ofString "__builtins__") (a:=4) (by decide);rw [<- eg,M.name] at this
  cases this;rfl
 subst e4;have e335:fa=335:=by
  have:=lN k (n:=ofString "law") (a:=335) (by decide);rw [<- eg,hfa] at this
  cases this;rfl
 subst e335;have hLZ:L∉Zs.map (·.2):=fun q=>by
  obtain ⟨z,hz,rfl⟩:=List.mem_map.mp q;obtain ⟨ps,h1⟩:=zok.at' z hz;rw [h1.2.2] at hL;cases hL
 have G:Grd K mb ob s'1.heap:=⟨X,T.b,eg▸M,T.nolimit⟩;have hmb:cP mb:=T.builtins;obtain ⟨n,m,ρ'1,ρ'2,ρ₃,h1,wk,h2⟩:=PL ns hlen;refine wpAny_mono (aEt (w:=w) (ob:=ob) k hmb rfl h1 wk h2 _ _ _ Zt _ ⟨rfl,by decide,by decide⟩ ⟨G,zok⟩ (fun _ h=>h) (fun b hb=> ?_) ht (.cons (.mkList (l:=ns.map .int) (vs:=items.toArray) ⟨0,aA.mpr ⟨hLZ,hL⟩⟩ (iX hI)) .nil)) (fun v s' hv=> ?_) fun _ _ e=>e
 ·obtain ⟨z,hz,rfl⟩:=List.mem_map.mp (show b∈Zs.map (·.2) from hb);obtain ⟨ps,h1⟩:=zok.at' z hz;exact ⟨_,h1.2.2⟩
 ·obtain ⟨hden,kw⟩:=hv
  rcases hden with _ | b
  exact ⟨.inl ⟨_,_,[],rfl,hr,ReadsW.bool true,hp,fun _=>⟨List.nodup_nil,fun _ hm=>(nomatch hm)⟩⟩,aB4 kw zok,kw.os,kw.bare (.of_eq hg)⟩
end
end Mine
end
namespace Mine
def okD (k:Nat)(a:AV):Prop:=∃x,a.toData=some x/\x.canLay0=true/\x.depth<=k/\PyData.eqv x x=true
theorem aIa (h:PyData.strOk x=true)(k:Nat):okD k (.str x):=⟨.str x,rfl,by rw [PyData.canLay0]; exact h,by simp [PyData.depth],by simp [PyData.eqv]⟩
theorem tF:∀{l:List AV},(∀ a∈l,okD k a)->∃xs,AV.toDataL l=some xs/\PyData.canLayAll0 xs=true/\PyData.depthAll xs<=k/\PyData.eqvAll xs xs=true
 | [],_=>⟨[],rfl,by rw [PyData.canLayAll0],by simp [PyData.depthAll],by rw [PyData.eqvAll]⟩
 | a::r,h=>by
  obtain ⟨x,h1,h2,h3,h4⟩:=h a (List.mem_cons_self ..);obtain ⟨xs,g1,g2,g3,g4⟩:=tF fun b hb=>h b (List.mem_cons_of_mem _ hb)
  refine ⟨x::xs,vX h1 g1,by rw [PyData.canLayAll0,h2,g2]; rfl,?_,by rw [PyData.eqvAll,h4,g4]; rfl⟩;rw [PyData.depthAll];exact Nat.max_le.mpr ⟨h3,g3⟩
theorem oW {l:List AV}(h:∀a∈l,okD k a):okD (k+1) (.list l):=by
 obtain ⟨xs,g1,g2,g3,g4⟩:=tF h;exact ⟨.list xs,jZ g1,by rw [PyData.canLay0]; exact g2,by rw [PyData.depth]; exact Nat.lt_succ_of_le g3,by rw [PyData.eqv]; exact g4⟩
theorem aK1 {a b:AV}{x y:PyData}(ha:a.toData=some x)(hb:b.toData=some y)(h1:x.canLay0=true)(h2:y.canLay0=true)(h3:x.depth<=64)(h4:y.depth<=64):cR a b=some (PyData.eqv x y):=by
 unfold cR;rw [ha,hb];show (if (SeqAt.shaped x&&SeqAt.shaped y)=true then _ else _)=_;rw [if_pos];unfold SeqAt.shaped;rw [h1,h2,decide_eq_true h3,decide_eq_true h4]; rfl
theorem aIb {a:AV}(h:okD k a)(hk:k<=64):cR a a=some true:=by
 obtain ⟨x,h1,h2,h3,h4⟩:=h;rw [aK1 h1 h1 h2 h2 (by exact Nat.le_trans h3 hk) (by exact Nat.le_trans h3 hk),h4]
theorem aK2 {l:List AV}(h:∀a∈l,okD k a)(hk:k<60):cR (.list l) (.list [])=some l.isEmpty:=by
 obtain ⟨xs,g1,g2,g3,g4⟩:=tF h;rw [aK1 (x:= .list xs) (y:= .list []) (jZ g1) rfl (by rw [PyData.canLay0]; exact g2) (by rw [PyData.canLay0,PyData.canLayAll0]) (by rw [PyData.depth]; lia) (by simp [PyData.depth,PyData.depthAll]),PyData.eqv]
 cases l with
 | nil=>(replace g1:=Option.some.inj g1;subst g1); rw [PyData.eqvAll]; rfl
 | cons a r=>
  refine iW g1 fun x z _ _ e=> ?_
  subst e;rw [PyData.eqvAll]; rfl
noncomputable def vJ (l:List Str):Int:=(l.map fun w=>1+(w.length:Int)).sum
noncomputable def dA (wd:Int)(st:List (List Str) × List Str)(p:Str):List (List Str) × List Str:=
 if st.2.isEmpty then (st.1,[p]) else if vJ st.2+(1+(p.length:Int))>wd then (st.1++[st.2],[p]) else (st.1,st.2++[p])
noncomputable def goW (wd:Int)(ws:List Str)(st:List (List Str) × List Str):List (List Str) × List Str:=ws.foldl (dA wd) st
noncomputable def mJ (wd:Int)(ws:List Str):List (List Str):=(goW wd ws ([],[])).1++[(goW wd ws ([],[])).2]
noncomputable def prW (l:List Str):List (Str × Str):=l.map fun w=>(ofString " ",w)
noncomputable def txW2 (l:List Str):Str:=bC (prW l)
theorem rE (l:List Str)(p:Str):vJ (l++[p])=vJ l+(1+(p.length:Int)):=by
 unfold vJ;rw [List.map_append,List.sum_append]; simp
theorem aIc (l:List Str):eW (prW l)=vJ l:=by
 unfold eW prW vJ;rw [List.map_map]; rfl
theorem aId (wd:Int)(ls:List (List Str))(cur:List Str)(p:Str):bV wd (ls.map txW2) (prW cur) (ofString " ",p)=((dA wd (ls,cur) p).1.map txW2,prW (dA wd (ls,cur) p).2):=by
 unfold bV dA;have e:prW cur++[(ofString " ",p)]=prW (cur++[p]):=by unfold prW;rw [List.map_append]; rfl
 rw [e,aIc,rE]
 rcases cur with _ | ⟨a,r⟩
 ·dsimp only [List.isEmpty];rw [if_pos rfl]
  split <;> rfl
 ·dsimp only [List.isEmpty]
  by_cases h:vJ (a::r)+(1+(p.length:Int))>wd
  ·rw [if_pos h,if_neg (by decide),if_pos h];dsimp only;rw [List.map_append]; rfl
  ·rw [if_neg h,if_neg (by decide),if_neg h]
theorem aB5 (wd:Int):∀(ws:List Str)(ls:List (List Str))(cur:List Str),ws.foldl (fun st p=>bV wd st.1 st.2 (ofString " ",p)) (ls.map txW2,prW cur)=((goW wd ws (ls,cur)).1.map txW2,prW (goW wd ws (ls,cur)).2)
 | [],_,_=>rfl
 | p::ws,ls,cur=>by
  rw [List.foldl_cons];dsimp only;rw [aId];exact aB5 wd ws _ _
theorem aEv (wd:Int)(ws:List Str):bX wd ws=(mJ wd ws).map txW2:=by
 have h:=aB5 wd ws [] [];unfold bX mJ sY;rw [show (([],[]):List Str × List (Str × Str))=(([]:List (List Str)).map txW2,prW []) from rfl,h,List.map_append];rfl
def aLf (r:List Str):Prop:=r≠[]/\∀w∈r,32∉w.cps.toList
theorem oX (wd:Int):∀(ws:List Str)(ls:List (List Str))(cur:List Str),(∀ r∈ls,aLf r)->(∀ w∈cur,32∉w.cps.toList)->(∀ w∈ws,32∉w.cps.toList)->(cur≠[]\/ws≠[])->∀r∈(goW wd ws (ls,cur)).1++[(goW wd ws (ls,cur)).2],aLf r
 | [],ls,cur,h1,h2,_,h4=>fun r hr=>by
  rcases List.mem_append.mp hr with hr | hr
  ·exact h1 r hr
  ·rw [List.mem_singleton.mp hr]; exact ⟨h4.resolve_right (fun q=>q rfl),h2⟩
 | p::ws,ls,cur,h1,h2,h3,_=>by
  have hp:=h3 p (List.mem_cons_self ..);have h3':∀w∈ws,32∉w.cps.toList:=fun w hw=>h3 w (List.mem_cons_of_mem _ hw)
  have one:∀w∈[p],32∉w.cps.toList:=fun w hw=>by rw [List.mem_singleton.mp hw]; exact hp
  show ∀r∈(goW wd ws (dA wd (ls,cur) p)).1++[(goW wd ws (dA wd (ls,cur) p)).2],aLf r;unfold dA;dsimp only
  rcases he:cur.isEmpty with _ | _
  ·rw [if_neg (by decide)];have hne:cur≠[]:=fun q=>by rw [q] at he;exact nomatch he
   split
   ·exact oX wd ws _ _ (fun r hr=>(List.mem_append.mp hr).elim (h1 r) fun q=>by rw [List.mem_singleton.mp q]; exact ⟨hne,h2⟩) one h3' (.inl (List.cons_ne_nil _ _))
   ·exact oX wd ws _ _ h1 (fun w hw=>(List.mem_append.mp hw).elim (h2 w) (one w)) h3' (.inl fun q=>nomatch (List.append_eq_nil_iff.mp q).2)
  ·rw [if_pos rfl];exact oX wd ws _ _ h1 one h3' (.inl (List.cons_ne_nil _ _))
theorem aB6:∀(w:Str)(r:List Str),(txW2 (w::r)).cps.toList=32::(Txt.join ⟨#[32]⟩ (w::r)).cps.toList
 | w,[]=>by
  show (bC _).cps.toList=32::(Str.join ⟨#[32]⟩ [w]).cps.toList;rw [cW];show (([32]++w.cps.toList)++[])=_;rw [List.append_nil]; rfl
 | w,v::r=>by
  have ih:=aB6 v r;have e:Txt.join ⟨#[32]⟩ (w::v::r)=Str.join ⟨#[32]⟩ (w::v::r):=StrLaws.glued_eq_join _ _;have e2:Txt.join ⟨#[32]⟩ (v::r)=Str.join ⟨#[32]⟩ (v::r):=StrLaws.glued_eq_join _ _;rw [e2] at ih;rw [e];have h1:(txW2 (w::v::r)).cps.toList=32::(w.cps.toList++(txW2 (v::r)).cps.toList):=by
   show (bC _).cps.toList=_;rw [cW];show (([32]++w.cps.toList)++_)=32::(w.cps.toList++(bC _).cps.toList);rw [cW]; rfl
  have h2:(Str.join ⟨#[32]⟩ (w::v::r)).cps.toList=w.cps.toList++(32::(Str.join ⟨#[32]⟩ (v::r)).cps.toList):=by
   show (w.cps++ #[32]++(Str.join ⟨#[32]⟩ (v::r)).cps).toList=_;rw [Array.toList_append,Array.toList_append,List.append_assoc]; rfl
  rw [h1,h2,ih]
theorem aK3 {r:List Str}(h:aLf r):nI (txW2 r)= .list (r.map .str):=by
 rcases r with _ | ⟨w,r⟩
 ·exact absurd rfl h.1
 have hl:=aB6 w r;have hs:(txW2 (w::r)).length=(Txt.join ⟨#[32]⟩ (w::r)).cps.toList.length+1:=by
  show (txW2 (w::r)).cps.size=_;rw [<- Array.length_toList,hl,List.length_cons]
 have e:Txt.slice (txW2 (w::r)) (some 1) none=Txt.join ⟨#[32]⟩ (w::r):=by
  rw [slice_from_eq (b:=((txW2 (w::r)).length:Int)) (by decide) (by rw [hs]; lia) rfl,hl,hs];refine lG ?_;show ((32::_).drop 1).take _=_;rw [List.drop_succ_cons,List.drop_zero,List.take_of_length_le (by lia)]
 unfold nI;rw [e];show AV.list ((Txt.split (Txt.join ⟨#[32]⟩ (w::r)) ⟨#[32]⟩).map .str)=_;rw [nG 32 (List.cons_ne_nil _ _) h.2]
noncomputable def iR (l:List (List Str)):AV:= .list (l.map fun r=> .list (r.map .str))
theorem aB7 (wd:Int){ws:List Str}(h:∀w∈ws,32∉w.cps.toList)(hne:ws≠[]):lK wd ws=iR (mJ wd ws):=by
 unfold lK iR;rw [aEv,List.map_map]
 congr 1
 exact List.map_congr_left fun r hr=>aK3 (oX wd ws [] [] (fun _ h=>nomatch h) (fun _ h=>nomatch h) h (.inr hne) r hr)
theorem aB8 {ws:List Str}(hne:ws≠[])(hl:ws.length<=100)(h:∀p∈ws,lI p):sZ [.list (ws.map .str),.int wd]=some (iR (mJ wd ws)):=
 (uZ (q:=(ws,wd)) ⟨rfl,hne,hl,h⟩).trans (congrArg some (aB7 wd (fun w hw=>(h w hw).2.2.2.2) hne))
noncomputable def aB9:List (Bool × Str)->List Str->List (List Str)
 | [],cur=>[cur]
 | (b,w)::r,cur=>if b then cur::aB9 r [w] else aB9 r (cur++[w])
theorem tG (wd:Int):∀(ws:List Str)(ls:List (List Str))(cur:List Str),cur≠[]->∃bs:List Bool,bs.length=ws.length/\(goW wd ws (ls,cur)).1++[(goW wd ws (ls,cur)).2]=ls++aB9 (bs.zip ws) cur
 | [],_,_,_=>⟨[],rfl,rfl⟩
 | p::ws,ls,cur,h=>by
  have he:cur.isEmpty=false:=by cases cur <;> first | exact absurd rfl h | rfl
  show ∃bs:List Bool,bs.length=_/\(goW wd ws (dA wd (ls,cur) p)).1++[(goW wd ws (dA wd (ls,cur) p)).2]=_;unfold dA;dsimp only;rw [he,if_neg (by decide)]
  split
  ·obtain ⟨bs,h1,h2⟩:=tG wd ws (ls++[cur]) [p] (List.cons_ne_nil _ _);exact ⟨true::bs,congrArg Nat.succ h1,h2.trans (List.append_assoc ..)⟩
  ·obtain ⟨bs,h1,h2⟩:=tG wd ws ls (cur++[p]) fun q=>nomatch (List.append_eq_nil_iff.mp q).2
   exact ⟨false::bs,congrArg Nat.succ h1,h2⟩
theorem aCa (wd:Int)(w:Str)(ws:List Str):∃bs:List Bool,bs.length=ws.length/\mJ wd (w::ws)=aB9 (bs.zip ws) [w]:=by
 obtain ⟨bs,h1,h2⟩:=tG wd ws [] [w] (List.cons_ne_nil _ _);exact ⟨bs,h1,h2⟩
theorem aK4 {a b:Expr}{p:Pos}{x y:Bool}(h1:evT cf (k+2) sc ρ.all a=some x)(h2:x=false->evT cf (k+1) sc ρ.all b=some y):evT cf (k+4) sc ρ.all (.BoolOp .Or [a,b] p)=some (x||y):=by
 show orO (evT cf (k+2) sc ρ.all a) (orO (evT cf (k+1) sc ρ.all b) (some false))=_;rw [h1]
 rcases x with _ | _
 ·rw [h2 rfl]
  rcases y with _ | _ <;> rfl
 ·rfl
theorem aEw {lp p:Pos}{l l':List AV}(hx:(x !=("__debug__":Str)&&x !=("super":Str))=true)(hl:(ap.endLine==q.line)=true)(h:ρ x=some (.own (.list l)))(hn:l.length<=2^20)(hg:aDa mu x true l (.list [])=some l'):
  exS cf mu (k+4) sc ρ (.Expr (.Call (.Attribute (.Name x xp) (ofString "append") ap) [.List [] lp] [] q) p)=some (.next,ρ.set x (.own (.list l'))):=by
 show (if (ap.endLine==q.line)=true then _ else eI).run ρ=_;rw [if_pos hl];show (if (x !=("__debug__":Str)&&x !=("super":Str))=true then _ else eI).run ρ=_;rw [if_pos hx];show (zA (ρ x)).bind (fun l=>aDb ρ x (aDa mu x true l (.list [])))=_;rw [aHd h hn];show aDb ρ x (aDa mu x true l (.list []))=_;rw [hg]; rfl
theorem aEx {sp p:Pos}{i:Expr}{l l':List AV}(hx:((ofString "append")==("append":Str)&&x !=("__debug__":Str)&&minus1 i)=true)(hl:(ap.endLine==q.line)=true)(he:evE cf (k+3) sc ρ.all e=some v)(h:ρ x=some (.own (.list l)))(hn:l.length<=2^20)(hf:flat v=true)(hg:lY v l=some l'):
  exS cf mu (k+4) sc ρ (.Expr (.Call (.Attribute (.Subscript (.Name x xp) i sp) (ofString "append") ap) [e] [] q) p)=some (.next,ρ.set x (.own (.list l'))):=by
 show (if (ap.endLine==q.line)=true then _ else eI).run ρ=_;rw [if_pos hl];show (if ((ofString "append")==("append":Str)&&x !=("__debug__":Str)&&minus1 i)=true then _ else eI).run ρ=_;rw [if_pos hx];show (evE cf (k+3) sc ρ.all e).bind (fun v=>(zA (ρ x)).bind fun l=>if flat v=true then aDb ρ x (lY v l) else none)=_;rw [he];show (zA (ρ x)).bind (fun l=>if flat v=true then aDb ρ x (lY v l) else none)=_;rw [aHd h hn];show (if flat v=true then aDb ρ x (lY v l) else none)=_;rw [if_pos hf,hg]; rfl
theorem nN {w:List AV}(hf:aN w=true)(hn:w.length<=2^20):∀l:List AV,lY v (l++[.list w])=some (l++[.list (w++[v])])
 | []=>by
  show (if (aN w&&decide (w.length<=2^20))=true then _ else none:Option AV).map _=_;rw [if_pos (by rw [hf,decide_eq_true hn]; rfl)]; rfl
 | a::l=>by
  have ih:lY v (l++[.list w])=_:=nN hf hn l
  rcases l with _ | ⟨b,l⟩
  ·exact congrArg (Option.map (a:: ·)) ih
  ·exact congrArg (Option.map (a:: ·)) ih
theorem nP:∀l:List Str,aN (l.map .str)=true
 | []=>rfl
 | _::r=>nP r
structure tH (ρ:St)(w:Int)(l:List (List Str))(u:Int):Prop where
 r:ρ "rows"=some (.own (iR l))
 w:ρ "width"=some (.val (.int w))
 u:ρ "used"=some (.val (.int u))
def OkW (p:Str):Prop:=p.length<=1000/\PyData.strOk p=true
theorem aIe {r:List Str}(h:∀w∈r,OkW w):okD 1 (.list (r.map .str)):=oW fun a ha=>by
 obtain ⟨w,hw,rfl⟩:=List.mem_map.mp ha;exact aIa (h w hw).2 0
theorem vK {l:List (List Str)}(h:∀r∈l,∀w∈r,OkW w):∀a∈l.map (fun r=>AV.list (r.map .str)),okD 1 a:=fun a ha=>by
 obtain ⟨r,hr,rfl⟩:=List.mem_map.mp ha;exact aIe (h r hr)
theorem iU (l:List (List Str))(r:List Str):(l++[r]).map (fun r=>AV.list (r.map .str))=l.map (fun r=>AV.list (r.map .str))++[.list (r.map .str)]:=by rw [List.map_append]; rfl
section
variable {w u:Int}{p:Str}
theorem aEy {ls:List (List Str)}{c:List Str}(H:tH ρ w (ls++[c]) u)(hp:ρ "word"=some (.val (.str p)))(hl:ls.length<=1000)(hc:c.length<=1000)(ok:OkW p):
  ∃ρ',exB cf [ofString "rows"] (k+29) aP.sc ρ ((lb aP 2).drop 1)=some (.next,ρ')/\tH ρ' w (ls++[c++[p]]) (u+1+p.length):=by
 have hn:((ls++[c]).map (fun r=>AV.list (r.map .str))).length<=2^20:=bJ (by rw [List.length_append]; exact Nat.le_trans (Nat.add_le_add_right hl 1) (by decide));have e1:exS cf [ofString "rows"] (k+28) aP.sc ρ (nth (lb aP 2) 1)=some (.next,ρ.set "rows" (.own (iR (ls++[c++[p]])))):=by
  refine aEx (k:=k+24) rfl rfl (aD (bR hp) rfl) H.r hn rfl ?_;rw [iU,iU,List.map_append];exact nN (nP _) (bJ (Nat.le_trans hc (by decide))) _
 refine ⟨_,(aE e1).trans (dK (k:=k+26) (gR (m:=k+26) (v:= .int (u+1+p.length)) rfl rfl (aK (aK (aD (bR (St.set_nb rfl H.u)) rfl) aI rfl) (qE rfl rfl (bI (Nat.succ_ne_zero _) (aD (bR (St.set_nb rfl hp)) rfl)) (mU (aAh ok.1 rfl))) rfl) rfl)),⟨St.set_nb rfl (if_pos rfl),St.set_nb rfl (St.set_nb rfl H.w),if_pos rfl⟩⟩
theorem aK5 {l:List (List Str)}(H:tH ρ w l u)(hp:ρ "word"=some (.val (.str p)))(hl:l.length<=1000)(hw:∀r∈l,∀w∈r,OkW w)(ok:OkW p):
  ∃ρ',exS cf [ofString "rows"] (k+29) aP.sc ρ (nth (lb aP 2) 0)=some (.next,ρ')/\ρ' (ofString "word")=some (.val (.str p))/\
   if l.isEmpty||decide (w<u+1+p.length) then tH ρ' w (l++[[]]) 0 else tH ρ' w l u:=by
 have hn:(l.map (fun r=>AV.list (r.map .str))).length<=2^20:=bJ (Nat.le_trans hl (by decide));have ht:evT cf (k+28) aP.sc ρ.all (match nth (lb aP 2) 0 with | .If t _ _ _=>t | _=> .Constant .none 0 default)=some (l.isEmpty||decide (w<u+1+p.length)):=by
  refine aK4 (k:=k+24) (eO (aD (wM H.r) rfl) (fL (Nat.zero_le _) (oG (Nat.succ_ne_zero _))) ?_) fun _=> ?_
  ·refine (aK2 (vK hw) (by decide)).trans ?_;rw [List.isEmpty_map]
  ·exact eO (aK (aK (aD (bR H.u) rfl) aI rfl) (qE rfl rfl (bI (Nat.succ_ne_zero _) (aD (bR hp) rfl)) (mU (aAh ok.1 rfl))) rfl) (aD (bR H.w) rfl) rfl
 rcases hb:(l.isEmpty||decide (w<u+1+p.length)) with _ | _
 ·exact ⟨ρ,(gH (ht.trans (congrArg some hb))).trans oD,hp,H⟩
 ·refine ⟨_,(sE (ht.trans (congrArg some hb))).trans ((aE (aEw (k:=k+23) rfl rfl H.r hn rfl)).trans (dK (k:=k+25) (gR (v:= .int 0) rfl rfl aI rfl))),St.set_nb rfl (St.set_nb rfl hp),St.set_nb rfl ?_,St.set_nb rfl (St.set_nb rfl H.w),if_pos rfl⟩;refine (if_pos rfl).trans ?_;rw [iR,iU]; rfl
end
section
variable {w u:Int}{p:Str}
theorem tH.word {l:List (List Str)}{v:Slot}(H:tH ρ w l u):tH (ρ.set "word" v) w l u:=⟨St.set_nb rfl H.r,St.set_nb rfl H.w,St.set_nb rfl H.u⟩
theorem aEz {ls:List (List Str)}{c:List Str}{l:List (List Str)}(H:tH ρ w l u)(he:(l=[]/\ls=[]/\c=[])\/(l=ls++[c]/\c≠[]/\u=vJ c))(hl:ls.length<=900)(hc:c.length<=900)(hw:∀r∈l,∀w∈r,OkW w)(ok:OkW p):
  ∃ρ',exB cf [ofString "rows"] (k+30) aP.sc (ρ.set "word" (.val (.str p))) (lb aP 2)=some (.next,ρ')/\tH ρ' w ((dA w (ls,c) p).1++[(dA w (ls,c) p).2]) (vJ (dA w (ls,c) p).2):=by
 have hll:l.length<=1000:=by
  rcases he with ⟨e,_,_⟩ | ⟨e,_,_⟩
  ·rw [e]; exact Nat.zero_le _
  ·rw [e,List.length_append]; exact Nat.le_trans (Nat.add_le_add_right hl 1) (by decide)
 obtain ⟨ρ1,e1,g1,h1⟩:=aK5 (cf:=cf) (k:=k) (H.word (v:= .val (.str p))) (if_pos rfl) hll hw ok;have one:vJ [p]=0+1+(p.length:Int):=by show 1+(p.length:Int)+0=_;lia
 have go:∀{ls':List (List Str)}{c':List Str}{u':Int},tH ρ1 w (ls'++[c']) u'->ls'.length<=1000->c'.length<=1000->u'+1+(p.length:Int)=vJ (c'++[p])->∃ρ',exB cf [ofString "rows"] (k+30) aP.sc (ρ.set "word" (.val (.str p))) (lb aP 2)=some (.next,ρ')/\tH ρ' w (ls'++[c'++[p]]) (vJ (c'++[p])):=fun F h2 h3 e=>by
  obtain ⟨ρ2,e2,F2⟩:=aEy (cf:=cf) (k:=k) F g1 h2 h3 ok;exact ⟨ρ2,(aE e1).trans e2,e▸F2⟩
 unfold dA
 rcases he with ⟨e,e2,e3⟩ | ⟨e,hne,hu⟩
 ·subst e e2 e3;exact go (ls':=[]) (c':=[]) (u':=0) h1 (Nat.zero_le _) (Nat.zero_le _) one.symm
 ·subst hu e;have hb:(ls++[c]).isEmpty=false:=by cases ls <;> rfl
  have hb2:c.isEmpty=false:=by cases c <;> first | exact absurd rfl hne | rfl
  rw [hb,Bool.false_or] at h1;dsimp only;rw [hb2,if_neg (by decide)]
  by_cases q:vJ c+(1+(p.length:Int))>w
  ·rw [if_pos (decide_eq_true (by lia))] at h1;rw [if_pos q];exact go (ls':=ls++[c]) (c':=[]) (u':=0) h1 (by rw [List.length_append]; exact Nat.le_trans (Nat.add_le_add_right hl 1) (by decide)) (Nat.zero_le _) one.symm
  ·rw [if_neg (by rw [decide_eq_true_eq]; lia)] at h1;rw [if_neg q];exact go h1 (Nat.le_trans hl (by decide)) (Nat.le_trans hc (by decide)) ((Int.add_assoc _ _ _).trans (rE c p).symm)
theorem aCb {ls:List (List Str)}{c:List Str}(h1:∀r∈ls++[c], ∀w∈r,OkW w)(ok:OkW p)(hl:ls.length<=n)(hc:c.length<=n):
  (∀ r∈(dA w (ls,c) p).1++[(dA w (ls,c) p).2], ∀w∈r,OkW w)/\(dA w (ls,c) p).1.length<=n+1/\(dA w (ls,c) p).2.length<=n+1/\(dA w (ls,c) p).2≠[]:=by
 have one:∀w∈[p],OkW w:=fun w hw=>by rw [List.mem_singleton.mp hw]; exact ok
 unfold dA;dsimp only
 split
 ·exact ⟨fun r hr=>(List.mem_append.mp hr).elim (fun q=>h1 r (List.mem_append_left _ q)) fun q=>by rw [List.mem_singleton.mp q]; exact one,Nat.le_succ_of_le hl,Nat.le_add_left _ _,List.cons_ne_nil _ _⟩
 ·split
  ·exact ⟨fun r hr=>(List.mem_append.mp hr).elim (h1 r) fun q=>by rw [List.mem_singleton.mp q]; exact one,by rw [List.length_append]; exact Nat.succ_le_succ hl,Nat.le_add_left _ _,List.cons_ne_nil _ _⟩
  ·exact ⟨fun r hr=>(List.mem_append.mp hr).elim (fun q=>h1 r (List.mem_append_left _ q)) fun q=>by
    rw [List.mem_singleton.mp q];exact fun w hw=>(List.mem_append.mp hw).elim (h1 c (List.mem_append_right _ (List.mem_singleton.mpr rfl)) w) (one w),Nat.le_succ_of_le hl,by rw [List.length_append]; exact Nat.succ_le_succ hc,fun q=>nomatch (List.append_eq_nil_iff.mp q).2⟩
theorem aCc:∀(ws:List Str)(n:Nat)(ρ:St)(ls:List (List Str))(c:List Str)(l:List (List Str))(u:Int),tH ρ w l u->((l=[]/\ls=[]/\c=[])\/(l=ls++[c]/\c≠[]/\u=vJ c))->ls.length<=n->c.length<=n->n+ws.length<=900->(∀ r∈ls++[c], ∀w∈r,OkW w)->(∀ p∈ws,OkW p)->(c≠[]\/ws≠[])->
  ∃ρ' u',vZ (fun a ρ=>exB cf [ofString "rows"] (k+30) aP.sc (ρ.set "word" (.val a)) (lb aP 2)) (ws.map .str) ρ=some (.next,ρ')/\tH ρ' w ((goW w ws (ls,c)).1++[(goW w ws (ls,c)).2]) u'
 | [],n,ρ,ls,c,l,u,H,he,_,_,_,_,_,hx=>⟨ρ,u,rfl,by
   rcases he with ⟨_,_,e⟩ | ⟨e,_,_⟩
   ·exact absurd rfl (hx.resolve_left fun q=>q e)
   ·exact e▸H⟩
 | p::ws,n,ρ,ls,c,l,u,H,he,h1,h2,h3,h4,h5,_=>by
  have hp:=h5 p (List.mem_cons_self ..);rw [List.length_cons] at h3;obtain ⟨ρ1,e1,F⟩:=aEz (cf:=cf) (k:=k) (ls:=ls) (c:=c) H he (by lia) (by lia) (by
   rcases he with ⟨e,_,_⟩ | ⟨e,_,_⟩
   ·rw [e]; exact fun _ h=>nomatch h
   ·rw [e]; exact h4) hp
  obtain ⟨g1,g2,g3,g4⟩:=aCb (w:=w) (p:=p) h4 hp h1 h2;obtain ⟨ρ2,u2,e2,F2⟩:=aCc ws (n+1) ρ1 (dA w (ls,c) p).1 (dA w (ls,c) p).2 _ _ F (.inr ⟨rfl,g4,rfl⟩) g2 g3 (by lia) g1 (fun q hq=>h5 q (List.mem_cons_of_mem _ hq)) (.inl g4);exact ⟨ρ2,u2,(cJ e1).trans e2,F2⟩
end
theorem xV (cf:CallF){ws:List Str}{w:Int}(hne:ws≠[])(hp:∀p∈ws,OkW p)(hl:ws.length<=90):bS cf 100 aP [.list (ws.map .str),.int w]=some (iR (mJ w ws)):=by
 have H0:tH (((eE aP.ps [.list (ws.map .str),.int w]).set "rows" (.own (.list []))).set "used" (.val (.int 0))) w [] 0:=⟨St.set_nb rfl (if_pos rfl),St.set_nb rfl (St.set_nb rfl rfl),if_pos rfl⟩;obtain ⟨ρ2,u,hf,F⟩:=aCc (cf:=cf) (k:=66) ws 0 _ [] [] [] 0 H0 (.inl ⟨rfl,rfl,rfl⟩) (Nat.le_refl _) (Nat.le_refl _) (by lia) (fun r hr w hw=>by rw [List.mem_singleton.mp hr] at hw;exact nomatch hw) hp (.inr hne);refine aAg (k:=100) rfl (ρ:=ρ2) ?_;exact Eq.trans (aE (k:=99) rfl) (Eq.trans (aE (k:=98) rfl) (Eq.trans (aE (k:=97) (rZ (k:=96) rfl (aD rfl rfl) rfl hf)) (sB (m:=95) (aD (wM F.r) rfl))))
end Mine
section
set_option maxHeartbeats 0
namespace Mine
noncomputable def avV:List (Str × AV)->Loc
 | [],_=>none
 | (y,v)::r,x=>if x=y then some v else avV r x
noncomputable def mkV (l:List (Str × AV)):St:=fun x=>(avV l x).map .val
noncomputable def wdT (k:Nat)(t:Nat->List Nat):Str:=⟨⟨(65+k)::t k⟩⟩
structure B4 where
 x:Bool
 y:Bool
 z:Bool
 u:Bool
noncomputable def B4.l (b:B4)(t:Nat->List Nat):List (Bool × Str):=[(b.x,wdT 1 t),(b.y,wdT 2 t),(b.z,wdT 3 t),(b.u,wdT 4 t)]
noncomputable def eB (t:Nat->List Nat)(b:B4):AV:=iR (aB9 (b.l t) [wdT 0 t])
noncomputable def aIf:AV:= .list (List.replicate 7 (.alt ["\n","\r\n","\r"]))
noncomputable def stT (t:Nat->List Nat)(a b:B4):St:=mkV [(ofString "pages",.list [eB t a,eB t b]),(ofString "ends",aIf)]
noncomputable def isT:Option (Fl × St)->Bool
 | some (.ret (.bool true),_)=>true
 | _=>false
noncomputable def aOf (t:Nat->List Nat)(a b:B4):Bool:=isT (exB cf1 [] 100 aC.sc (stT t a b) (aC.body.drop 6))
noncomputable def b2:List Bool:=[true,false]
noncomputable def aIv (F:B4->Bool):Bool:=b2.all fun x=>b2.all fun y=>b2.all fun z=>b2.all fun u=>F ⟨x,y,z,u⟩
theorem vL (b:Bool):b∈b2:=by cases b <;> decide
theorem lP {F:B4->Bool}(h:aIv F=true)(b:B4):F b=true:=
 List.all_eq_true.mp (List.all_eq_true.mp (List.all_eq_true.mp (List.all_eq_true.mp h b.x (vL _)) b.y (vL _)) b.z (vL _)) b.u (vL _)
end Mine
end
namespace Mine
theorem aE0:∀(x y:PySem.Str)(v:AV)(r:List (PySem.Str × AV)),avV ((y,v)::r) x=if x=y then some v else avV r x:=fun _ _ _ _=>rfl
theorem fE (l:List (Str × AV)):(mkV l).all=avV l:=by
 funext x
 unfold St.all mkV
 rcases avV l x with _ | _ <;> rfl
theorem xW (l:List (Str × AV)):(mkV l).frozen=avV l:=by
 funext x
 unfold St.frozen mkV
 rcases avV l x with _ | _ <;> rfl
theorem aCd (l:List (Str × AV))(x:Str)(v:AV):(mkV l).set x (.val v)=mkV ((x,v)::l):=by
 funext y
 unfold St.set mkV;rw [aE0]
 by_cases h:y=x
 ·rw [if_pos h,if_pos h]; rfl
 ·rw [if_neg h,if_neg h]
section
variable {l:List (Str × AV)}
theorem fF (hx:bE sc x=true)(hm:aC8 e=false)(hmu:mu.contains x=false)(h:evE cf m sc (avV l) e=some v):exS cf mu (m+1) sc (mkV l) (.Assign [.Name x px] e p)=some (.next,mkV ((x,v)::l)):=by
 rw [<- aCd]
 rcases hf:flat v with _ | _
 ·exact aHc hx hm (by rw [fE]; exact h) hf (by rw [hmu]; rfl) (by rw [xW]; exact h)
 ·exact gR hx hm (by rw [fE]; exact h) hf
end
theorem vM {a b:Int}(h:0<b)(h':b<=1000000):pG .FloorDiv (.int a) (.int b)=some (.int (a/b)):=if_pos ⟨h,h'⟩
theorem oY {a b:Int}(h:0<b):pG .Mod (.int a) (.int b)=some (.int (a%b)):=if_pos h
theorem vN (c:Nat):∀(n:Nat)(acc:Array Nat),((List.replicate n #[c]).foldl (· ++ ·) acc).toList=acc.toList++List.replicate n c
 | 0,acc=>by simp
 | n+1,acc=>by
  rw [List.replicate_succ,List.foldl_cons,vN c n,Array.toList_append,List.replicate_succ]; simp
theorem aE1 (c n:Nat):Txt.mul ⟨#[c]⟩ (n:Int)=⟨⟨List.replicate n c⟩⟩:=by
 refine lG ?_;unfold Txt.mul
 by_cases h:(n:Int)<1
 ·rw [if_pos h];have:n=0:=by lia
  subst this;rfl
 ·rw [if_neg h]
  split
  ·rename_i q;have:n=1:=by
    rw [Bool.or_eq_true] at q
    rcases q with q | q
    ·have:=beq_iff_eq.mp q;exact Int.ofNat.inj this
    ·exact absurd q (by simp [Str.length])
   subst this;rfl
  ·rw [Int.toNat_natCast];show ((List.replicate n #[c]).foldl (· ++ ·) #[]).toList=_;rw [vN]; rfl
theorem aIg {a:Nat}(h:n<=1000):pG .Mult (.str ⟨#[a]⟩) (.int (n:Int))=some (.str ⟨⟨List.replicate n a⟩⟩):=by
 rw [<- aE1 a n];exact if_pos ⟨by exact Int.natCast_nonneg _,by exact Int.ofNat_le.mpr h,Nat.le_of_ble_eq_true rfl⟩
theorem aK6 (h:i<1000):bL "chr" [.int (i:Int)]=some (.str ⟨#[i]⟩):=by
 unfold bL;rw [if_neg (by decide),if_pos rfl];show (if 0<=(i:Int)/\(i:Int)<1000 then some (AV.str ⟨#[(i:Int).toNat]⟩) else none)=_;rw [if_pos ⟨by exact Int.natCast_nonneg _,by exact Int.ofNat_lt.mpr h⟩,Int.toNat_natCast]
noncomputable def aG (hs:List Nat):AV:= .list (hs.map fun x=>AV.int ((x:Nat):Int))
noncomputable def lQ (x:Nat):List Nat:=List.replicate (x%4) (97+x/4%26)
noncomputable def hY (k x:Nat):Str:=⟨⟨(65+k)::lQ x⟩⟩
noncomputable def aIw (x:Nat):Str:=match x/104%3 with
 | 0=>"\n"
 | 1=>"\r\n"
 | _=>"\r"
noncomputable def aE2:Expr->Expr
 | .ListComp e _ _ _=>e
 | e=>e
noncomputable def aCe:Expr->Scope
 | .ListComp _ _ s _=>s
 | _=>default
noncomputable def aLg:Stmt->Expr
 | .Assign _ e _=>e
 | _=> .Constant .none 0 default
noncomputable def aCs (i:Nat):Expr:=aLg (nth aC.body i)
section
variable {ρ:Loc}{hs:List Nat}
theorem tJ (hl:hs.length=7)(hi:i<7):yE (.list (hs.map fun x=>AV.int ((x:Nat):Int))) (.int (i:Int))=some (.int ((hs.getD i 0:Nat):Int)):=by
 refine (oE (by rw [List.length_map]; exact lef hl rfl) (by rw [List.length_map]; exact Nat.lt_of_lt_of_eq hi hl.symm)).trans ?_;rw [List.getElem_map,List.getD_eq_getElem?_getD,List.getElem?_eq_getElem (by exact Nat.lt_of_lt_of_eq hi hl.symm)]; rfl
theorem aIh (hl:hs.length=7)(hk:k<5)(h1:ρ "k"=some (.int (k:Int)))(h2:ρ "heaps"=some (.list (hs.map fun x=>AV.int ((x:Nat):Int)))):
  evE cf (m+40) (aCe (aCs 1)) ρ (aE2 (aCs 1))=some (.str (hY k (hs.getD k 0))):=by
 have hh:∀{m:Nat}{a b c:Pos},evE cf (m+3) (aCe (aCs 1)) ρ (.Subscript (.Name "heaps" a) (.Name "k" b) c)=some (.int ((hs.getD k 0:Nat):Int)):=gT (aD h2 rfl) (aD h1 rfl) (tJ hl (Nat.lt_trans hk (by decide)));generalize hs.getD k 0=x at hh ⊢;have c1:evE cf (m+39) (aCe (aCs 1)) ρ (match aE2 (aCs 1) with | .BinOp l _ _ _=>l | e=>e)=some (.str ⟨#[65+k]⟩):=
  qE rfl rfl (bI (Nat.succ_ne_zero _) (aK aI (aD h1 rfl) rfl)) (aK6 (by lia))
 have c2:evE cf (m+39) (aCe (aCs 1)) ρ (match aE2 (aCs 1) with | .BinOp _ _ r _=>r | e=>e)=some (.str ⟨⟨lQ x⟩⟩):=by
  refine aK (qE rfl rfl (bI (Nat.succ_ne_zero _) (aK aI (aK (aK hh aI (vM (by decide) (by decide))) aI (oY (by decide))) (v:= .int ((97+x/4%26:Nat):Int)) ?_)) (aK6 (by lia))) (aK hh aI (v:= .int ((x%4:Nat):Int)) ?_) (aIg (by lia))
  ·exact congrArg (fun i=>some (AV.int i)) (by push_cast;rfl)
  ·exact congrArg (fun i=>some (AV.int i)) (by push_cast;rfl)
 refine aK c1 c2 ((if_pos ?_).trans (congrArg (fun s=>some (AV.str s)) (lG ((Array.toList_append (xs:= #[65+k]) (ys:=⟨lQ x⟩)).trans rfl))));show 1+(lQ x).length<=_;unfold lQ;rw [List.length_replicate]
 lia
theorem aK7 {x:Nat}(h:ρ "x"=some (.int (x:Int))):evE cf (m+40) (aCe (aCs 2)) ρ (aE2 (aCs 2))=some (.str (aIw x)):=by
 refine oH (a:= .list [.str "\n",.str "\r\n",.str "\r"]) (b:= .int ((x/104%3:Nat):Int)) rfl (fL (Nat.le_of_ble_eq_true rfl) rfl) (aK (aK (aD h rfl) aI (vM (by decide) (by decide))) aI ((oY (by decide)).trans (congrArg (fun i=>some (AV.int i)) (by push_cast;rfl)))) ?_;have h3:x/104%3<3:=Nat.mod_lt _ (Nat.succ_pos _);unfold aIw;generalize x/104%3=j at h3
 match j,h3 with
 | 0,_=>rfl
 | 1,_=>rfl
 | 2,_=>rfl
end
end Mine
section
set_option maxHeartbeats 0
namespace Mine
noncomputable def aK8 {α:Type}(f:α->α->Bool):List α->List α->Bool
 | [],v=>v.isEmpty
 | a::r,v=>match v with
  | b::s=>f a b&&aK8 f r s
  | []=>false
theorem vO {α:Type}{f:α->α->Bool}(hf:∀a b,f a b=true->a=b):∀{a b:List α},aK8 f a b=true->a=b
 | [],_,h=>(List.isEmpty_iff.mp h).symm
 | a::r,v,h=>by
  rcases v with _ | ⟨b,s⟩
  ·exact absurd h Bool.false_ne_true
  ·obtain ⟨h1,h2⟩:=Bool.and_eq_true_iff.mp h;rw [hf _ _ h1,vO hf h2]
noncomputable def eqA:Nat->AV->AV->Bool
 | 0,_,_=>false
 | n+1,a,v=>match a with
  | .bool a=>match v with
   | .bool b=>a==b
   | _=>false
  | .int a=>match v with
   | .int b=>decide (a=b)
   | _=>false
  | .str a=>match v with
   | .str b=>decide (a=b)
   | _=>false
  | .list a=>match v with
   | .list b=>aK8 (eqA n) a b
   | _=>false
  | .tup a=>match v with
   | .tup b=>aK8 (eqA n) a b
   | _=>false
  | .inst c f=>match v with
   | .inst d g=>Nat.beq c d&&aK8 (fun x y=>decide (x.1=y.1)&&eqA n x.2 y.2) f g
   | _=>false
  | _=>false
theorem aE3:∀n (a b:AV),eqA n a b=true->a=b
 | 0,_,_,h=>absurd h Bool.false_ne_true
 | n+1,a,v,h=>by
  rcases a with _ | a | a | a | a | a | _ | ⟨c,f⟩ | _ | _
  ·exact absurd h Bool.false_ne_true
  ·rcases v with _ | b | _ | _ | _ | _ | _ | _ | _ | _ <;> first | exact absurd h Bool.false_ne_true | skip
   exact congrArg AV.bool (eq_of_beq h)
  ·rcases v with _ | _ | b | _ | _ | _ | _ | _ | _ | _ <;> first | exact absurd h Bool.false_ne_true | skip
   exact congrArg AV.int (of_decide_eq_true h)
  ·rcases v with _ | _ | _ | b | _ | _ | _ | _ | _ | _ <;> first | exact absurd h Bool.false_ne_true | skip
   exact congrArg AV.str (of_decide_eq_true h)
  ·rcases v with _ | _ | _ | _ | b | _ | _ | _ | _ | _ <;> first | exact absurd h Bool.false_ne_true | skip
   exact congrArg AV.list (vO (aE3 n) h)
  ·rcases v with _ | _ | _ | _ | _ | b | _ | _ | _ | _ <;> first | exact absurd h Bool.false_ne_true | skip
   exact congrArg AV.tup (vO (aE3 n) h)
  ·exact absurd h Bool.false_ne_true
  ·rcases v with _ | _ | _ | _ | _ | _ | _ | ⟨d,g⟩ | _ | _ <;> first | exact absurd h Bool.false_ne_true | skip
   obtain ⟨h1,h2⟩:=Bool.and_eq_true_iff.mp h;rw [Nat.eq_of_beq_eq_true h1,vO (fun x y q=>by
    obtain ⟨q1,q2⟩:=Bool.and_eq_true_iff.mp q;exact Prod.ext (of_decide_eq_true q1) (aE3 n _ _ q2)) h2]
  ·exact absurd h Bool.false_ne_true
  ·exact absurd h Bool.false_ne_true
noncomputable def isA (o:Option AV)(v:AV):Bool:=match o with
 | some u=>eqA 9 u v
 | none=>false
theorem xX {o:Option AV}(h:isA o v=true):o=some v:=by
 rcases o with _ | u
 ·exact absurd h Bool.false_ne_true
 ·exact congrArg some (aE3 9 _ _ h)
noncomputable def itN (o:List Nat):Nat->Nat->Nat
 | 0,x=>x
 | k+1,x=>itN o k (o.getD x 0)
noncomputable def aMu (o:List Nat)(x:Nat):Nat:=((List.range 5).find? fun k=>Nat.beq (itN o (k+1) x) x).getD 0+1
noncomputable def aK9 (o:List Nat)(x:Nat):Bool:=(List.range 5).all fun k=>Nat.ble x (itN o k x)
noncomputable def aCf (o:List Nat):List Nat:=((List.range 5).filter (aK9 o)).map (aMu o)
noncomputable def aX (o:List Nat):List Int:=0::0::(List.range ((aCf o).foldl max 0)).map fun d=>(((aCf o).filter (Nat.beq (d+1))).length:Int)
noncomputable def dR (o:List Nat):Str:=⟨⟨(aCf o).flatMap fun d=>List.replicate (d+1) 32++[9]⟩⟩
noncomputable def eC (c:List Int):AV:= .tup (c.map .int)
noncomputable def aW (r:Str)(c:List Int):AV:= .inst 278 [("raw",.str r),("n",.int (5+2*c.sum)),("nt",.int c.sum),("norm",.tup [.tup (c.map .int),.int 0]),("is_simple",.bool (decide (c.length<=1)))]
noncomputable def ins (x:Nat):List Nat->List (List Nat)
 | []=>[[x]]
 | a::r=>(x::a::r)::(ins x r).map (a:: ·)
noncomputable def aGb:List Nat->List (List Nat)
 | []=>[[]]
 | a::r=>(aGb r).flatMap (ins a)
noncomputable def orders:List (List Nat):=aGb [0,1,2,3,4]
theorem xY:(orders.all fun o=>isA (bS cfN 100 jP [aG o]) (eC (aX o)))=true:=by kernel_rfl
theorem aCg:(orders.all fun o=>isA (bS cf0 100 vG [aG o,aIf]) (aW (dR o) (aX o)))=true:=by kernel_rfl
noncomputable def aIi:List (Bool × Nat)->List Nat->List (List Nat)
 | [],cur=>[cur]
 | (b,w)::r,cur=>if b then cur::aIi r [w] else aIi r (cur++[w])
noncomputable def aGc (a:B4):List (List Nat):=aIi [(a.x,1),(a.y,2),(a.z,3),(a.u,4)] [0]
noncomputable def aNn (l:List (List Nat)):List Nat:=(List.range 5).flatMap fun c=>l.filterMap fun r=>r[c]?
noncomputable def aLa (a:B4):List Nat:=aNn (aGc a)
noncomputable def fZ (a:B4):List Nat:=aNn (aGc a).reverse
noncomputable def jK (a b:List Nat):List Nat:=b.map fun x=>a.getD x 0
noncomputable def tys:List (List Int):=[[0,0,5],[0,0,3,1],[0,0,1,2],[0,0,2,0,1],[0,0,0,1,1],[0,0,1,0,0,1],[0,0,0,0,0,0,1]]
noncomputable def ones:List (List Nat):=[[0,1,2,3,4],[0,1,2,4,3],[0,1,3,4,2],[0,1,3,2,4],[0,1,4,2,3],[0,2,3,4,1],[0,2,3,1,4],[0,2,4,1,3],[0,2,1,3,4],[0,3,4,1,2],[0,3,1,4,2],[0,4,1,2,3]]
theorem aE4:(aIv fun a=>ones.contains (aLa a))=true:=by kernel_rfl
noncomputable def okO (o:List Nat):Bool:=orders.contains o
theorem aCh:(ones.all fun o=>okO o&&aIv fun b=>okO (fZ b)&&okO (jK o (fZ b))&&okO (jK (fZ b) o)&&decide (aX (jK o (fZ b))=aX (jK (fZ b) o)))=true:=by kernel_rfl
theorem xZ:(orders.all fun o=>decide (o.length=5)&&o.all (fun x=>Nat.blt x 5)&&tys.contains (aX o))=true:=by kernel_rfl
noncomputable def aCi:Stmt->Expr
 | .If t _ _ _=>t
 | _=> .Constant .none 0 default
noncomputable def aMv:Stmt->Expr
 | .Return (some e) _=>e
 | _=> .Constant .none 0 default
noncomputable def aLb (i:Nat):Expr:=aCi (nth aC.body i)
noncomputable def fS (i:Nat):Stmt:=nth (lb aC 11) i
noncomputable def vE2 (n:Nat)(l:List (Str × AV))(i:Nat):Option AV:=evE cf1 n aC.sc (avV l) (aCs i)
noncomputable abbrev S0 (P:AV):List (Str × AV):=[(ofString "pages",P),(ofString "ends",aIf)]
noncomputable abbrev S1 (P X:AV):List (Str × AV):=(ofString "one",X)::S0 P
noncomputable abbrev S2 (P X Y:AV):List (Str × AV):=(ofString "other",Y)::S1 P X
noncomputable abbrev S3 (P X Y O:AV):List (Str × AV):=(ofString "orders",O)::S2 P X Y
noncomputable abbrev S4 (P X Y O C:AV):List (Str × AV):=(ofString "counts",C)::S3 P X Y O
noncomputable abbrev S5 (P X Y O C L:AV):List (Str × AV):=(ofString "leads",L)::S4 P X Y O C
theorem aIj (t:Nat->List Nat)(q:AV):aIv (fun a=>isA (vE2 98 (S0 (.list [eB t a,q])) 6) (aG (aLa a)))=true:=by kernel_rfl
theorem aCj (t:Nat->List Nat)(q X:AV):aIv (fun b=>isA (vE2 97 (S1 (.list [q,eB t b]) X) 7) (aG (fZ b)))=true:=by kernel_rfl
noncomputable abbrev rF (o:List Nat):Bool:=aIv fun b=>isA (bS (cfR 6) 100 fB [aG o,aG (fZ b),.list []]) (.bool (decide (aX o=aX (fZ b))))
theorem aIk:((ones.take 3).all rF)=true:=by kernel_rfl
theorem aIl:(((ones.drop 3).take 3).all rF)=true:=by kernel_rfl
theorem aIm:(((ones.drop 6).take 3).all rF)=true:=by kernel_rfl
theorem aIn:((ones.drop 9).all rF)=true:=by kernel_rfl
theorem tK {α:Type}{l m:List α}{f:α->Bool}(h:l.all f=true)(k:m.all f=true):(l++m).all f=true:=by rw [List.all_append,h,k]; rfl
theorem aCk:ones.all rF=true:=tK aIk (tK aIl (tK aIm aIn))
noncomputable def isF:Option Bool->Bool
 | some b=> !b
 | none=>false
noncomputable def aOg (l:List (Str × AV)):Option AV->Bool
 | some (.int w)=>isF (evT cf1 90 aC.sc (avV ((ofString "wrong",.int w)::l)) (aCi (fS 1)))&&isF (evT cf1 89 aC.sc (avV ((ofString "wrong",.int w)::l)) (aCi (fS 2)))
 | _=>false
noncomputable def yA (l:List (Str × AV)):Bool:=aOg l (evE cf1 91 aC.sc (avV l) (aLg (fS 0)))
noncomputable abbrev kS (k:Int)(l:List (Str × AV)):List (Str × AV):=(ofString "k",.int k)::l
noncomputable abbrev wS (w:AV)(l:List (Str × AV)):List (Str × AV):=(ofString "wrong",w)::l
section
variable (P X Y o0 o1 o2 o3 c0 c1 c2 c3 l0 l1 l2 l3:AV)(w0 w1 w2 w3:AV)(r r':Str)
theorem it0:orders.all (fun o=>yA (kS 0 (S5 P X Y (.list [aG o,o1,o2,o3]) (.list [eC (aX o),c1,c2,c3]) (.list [aW r (aX o),l1,l2,l3]))))=true:=by kernel_rfl
theorem it1:orders.all (fun o=>yA (kS 1 (wS w0 (kS 0 (S5 P X Y (.list [o0,aG o,o2,o3]) (.list [c0,eC (aX o),c2,c3]) (.list [l0,aW r (aX o),l2,l3]))))))=true:=by kernel_rfl
theorem it2:orders.all (fun o=>yA (kS 2 (wS w1 (kS 1 (wS w0 (kS 0 (S5 P X Y (.list [o0,o1,aG o,o3]) (.list [c0,c1,eC (aX o),c3]) (.list [l0,l1,aW r (aX o),l3]))))))))=true:=by kernel_rfl
theorem it3:orders.all (fun o=>yA (kS 3 (wS w2 (kS 2 (wS w1 (kS 1 (wS w0 (kS 0 (S5 P X Y (.list [o0,o1,o2,aG o]) (.list [c0,c1,c2,eC (aX o)]) (.list [l0,l1,l2,aW r (aX o)]))))))))))=true:=by kernel_rfl
noncomputable abbrev SK (w0 w1 w2 w3:AV)(l:List (Str × AV)):List (Str × AV):=wS w3 (kS 3 (wS w2 (kS 2 (wS w1 (kS 1 (wS w0 (kS 0 l)))))))
noncomputable abbrev S6 (v:AV)(l:List (Str × AV)):List (Str × AV):=(ofString "sizes",v)::l
noncomputable abbrev S7 (v:AV)(l:List (Str × AV)):List (Str × AV):=(ofString "first",v)::l
noncomputable abbrev S8 (v:AV)(l:List (Str × AV)):List (Str × AV):=(ofString "second",v)::l
noncomputable abbrev S9 (v:AV)(l:List (Str × AV)):List (Str × AV):=(ofString "ahead",v)::l
noncomputable abbrev S10 (v:AV)(l:List (Str × AV)):List (Str × AV):=(ofString "behind",v)::l
noncomputable abbrev S11 (v:AV)(l:List (Str × AV)):List (Str × AV):=(ofString "alike",v)::l
noncomputable def yB (o:Option AV)(f:AV->Bool):Bool:=match o with
 | some v=>f v
 | none=>false
noncomputable def aNo (l:List (Str × AV)):Bool:=yB (vE2 92 l 12) fun v1=>yB (vE2 91 (S6 v1 l) 13) fun v2=>yB (vE2 90 (S7 v2 (S6 v1 l)) 14) fun v3=>yB (vE2 89 (S8 v3 (S7 v2 (S6 v1 l))) 15) fun v4=>yB (vE2 88 (S9 v4 (S8 v3 (S7 v2 (S6 v1 l)))) 16) fun v5=>
 isF (evT cf1 87 aC.sc (avV (S10 v5 (S9 v4 (S8 v3 (S7 v2 (S6 v1 l)))))) (aLb 17))
theorem aE5:(tys.all fun c=>tys.all fun d=>aNo (SK w0 w1 w2 w3 (S5 P X Y (.list [o0,o1,o2,o3]) (.list [eC c,eC d,c2,c3]) (.list [aW r c,aW r' d,l2,l3]))))=true:=by kernel_rfl
variable (v1 v2 v3 v4 v5 v6:AV)
noncomputable abbrev SZ2 (v1 v2 v3 v4 v5 v6:AV)(l:List (Str × AV)):List (Str × AV):=S11 v6 (S10 v5 (S9 v4 (S8 v3 (S7 v2 (S6 v1 l)))))
theorem aCl:(tys.all fun c=>tys.all fun d=>isF (evT cf1 85 aC.sc (avV (SZ2 v1 v2 v3 v4 v5 (.bool (decide (c=d))) (SK w0 w1 w2 w3 (S5 P X Y (.list [o0,o1,o2,o3]) (.list [c0,c1,c2,c3]) (.list [aW r c,aW r' d,l2,l3]))))) (aLb 19)))=true:=by kernel_rfl
theorem aIo:(tys.all fun c=>isA (evE cf1 84 aC.sc (avV (SZ2 v1 v2 v3 v4 v5 v6 (SK w0 w1 w2 w3 (S5 P X Y (.list [o0,o1,o2,o3]) (.list [c0,c1,c2,c3]) (.list [l0,l1,aW r c,aW r' c]))))) (aMv (nth aC.body 20))) (.bool true))=true:=by kernel_rfl
end
end Mine
end
section
set_option maxHeartbeats 1000000
namespace Mine
theorem cZ {α:Type}{l:List α}{f:α->Bool}{x:α}(h:l.all f=true)(hx:x∈l):f x=true:=List.all_eq_true.mp h x hx
structure IsO (o:List Nat):Prop where
 m:o∈orders
 n:o.length=5
 lt:∀x∈o,x<5
 t:aX o∈tys
theorem isO {o:List Nat}(h:okO o=true):IsO o:=by
 have hm:o∈orders:=List.contains_iff_mem.mp h;obtain ⟨h1,h2⟩:=Bool.and_eq_true_iff.mp (cZ xZ hm :);obtain ⟨h3,h4⟩:=Bool.and_eq_true_iff.mp h1;exact ⟨hm,of_decide_eq_true h3,fun x hx=>Nat.blt_eq.mp (cZ h4 hx :),List.contains_iff_mem.mp h2⟩
theorem aGd {o:List Nat}{x:Nat}(ho:o.length=5)(h:x<5):yE (aG o) (.int (x:Int))=some (.int ((o.getD x 0:Nat):Int)):=by
 refine (oE (by rw [List.length_map]; exact lef ho rfl) (by rw [List.length_map]; exact Nat.lt_of_lt_of_eq h ho.symm)).trans ?_;rw [List.getElem_map,List.getD_eq_getElem?_getD,List.getElem?_eq_getElem (by exact Nat.lt_of_lt_of_eq h ho.symm)]; rfl
theorem vP (a b:List Nat):AV.list (b.map fun x=>AV.int ((a.getD x 0:Nat):Int))=aG (jK a b):=by
 unfold aG jK;rw [List.map_map]; rfl
section
variable {t:Nat->List Nat} {P X Y O C L q:AV}{o p:List Nat}{a b:B4}
theorem aOh:exS cf1 [] 99 aC.sc (mkV (S0 (.list [eB t a,q]))) (nth aC.body 6)=some (.next,mkV (S1 (.list [eB t a,q]) (aG (aLa a)))):=
 fF (m:=98) rfl rfl rfl (xX (lP (aIj t q) a))
theorem aOi:exS cf1 [] 98 aC.sc (mkV (S1 (.list [q,eB t b]) X)) (nth aC.body 7)=some (.next,mkV (S2 (.list [q,eB t b]) X (aG (fZ b)))):=
 fF (m:=97) rfl rfl rfl (xX (lP (aCj t q X) b))
theorem aOj (ho:IsO o)(hp:IsO p):exS cf1 [] 97 aC.sc (mkV (S2 P (aG o) (aG p))) (nth aC.body 8)=some (.next,mkV (S3 P (aG o) (aG p) (.list [aG o,aG p,aG (jK o p),aG (jK p o)]))):=by
 refine fF (m:=96) rfl rfl rfl (fL (Nat.le_of_ble_eq_true rfl) (gS (aD rfl rfl) (gS (aD rfl rfl) (cF (Nat.succ_ne_zero _) ?_ ?_))))
 ·exact (dY (l:=p) (f:=fun (i:Nat)=>AV.int (i:Int)) (fun x=> .int ((o.getD x 0:Nat):Int)) (Nat.succ_ne_zero _) (by kernel_rfl) rfl (aD rfl rfl) rfl (lef hp.n rfl) fun x hx=>gT (aD rfl rfl) (aD (if_pos rfl) rfl) (aGd ho.n (hp.lt x hx))).trans (congrArg some (vP o p))
 ·exact (dY (l:=o) (f:=fun (i:Nat)=>AV.int (i:Int)) (fun x=> .int ((p.getD x 0:Nat):Int)) (Nat.succ_ne_zero _) (by kernel_rfl) rfl (aD rfl rfl) rfl (lef ho.n rfl) fun x hx=>gT (aD rfl rfl) (aD (if_pos rfl) rfl) (aGd hp.n (ho.lt x hx))).trans (congrArg some (vP p o))
theorem yC (vs:List AV):cf1.fn "_law_counts" vs=bS cfN 100 jP vs:=rfl
theorem aE6 (vs:List AV):cf1.fn "_law_lead" vs=bS cf0 100 vG vs:=rfl
theorem tL (vs:List AV):cf1.fn "_law_renamed" vs=bS (cfR 6) 100 fB vs:=rfl
theorem aOk {l:List (List Nat)}(hl:l.length<=4)(h:∀o∈l,IsO o):exS cf1 [] 96 aC.sc (mkV (S3 P X Y (.list (l.map aG)))) (nth aC.body 9)=some (.next,mkV (S4 P X Y (.list (l.map aG)) (.list (l.map fun o=>eC (aX o))))):=
 fF (m:=95) rfl rfl rfl (dY (l:=l) (f:=aG) (fun o=>eC (aX o)) (Nat.succ_ne_zero _) (by kernel_rfl) rfl (aD rfl rfl) rfl (aAh hl rfl) fun o ho=>jB rfl rfl (bI (Nat.succ_ne_zero _) (aD (if_pos rfl) rfl)) (by decide) ((yC _).trans (xX (cZ xY (h o ho).m :))))
theorem aMw {l:List (List Nat)}(hl:l.length<=4)(h:∀o∈l,IsO o):exS cf1 [] 95 aC.sc (mkV (S4 P X Y (.list (l.map aG)) C)) (nth aC.body 10)=some (.next,mkV (S5 P X Y (.list (l.map aG)) C (.list (l.map fun o=>aW (dR o) (aX o))))):=
 fF (m:=94) rfl rfl rfl (dY (l:=l) (f:=aG) (fun o=>aW (dR o) (aX o)) (Nat.succ_ne_zero _) (by kernel_rfl) rfl (aD rfl rfl) rfl (aAh hl rfl) fun o ho=>jB rfl rfl (cF (Nat.succ_ne_zero _) (aD (if_pos rfl) rfl) (aD rfl rfl)) (by decide) ((aE6 _).trans (xX (cZ aCg (h o ho).m :))))
theorem aE7 {o:Option Bool}(h:isF o=true):o=some false:=by
 rcases o with _ | _ | _
 ·exact absurd h Bool.false_ne_true
 ·rfl
 ·exact absurd h Bool.false_ne_true
theorem aMx:∃p q,fS 0= .Assign [.Name "wrong" p] (aLg (fS 0)) q:=⟨_,_,rfl⟩
theorem aMy:∃b q,fS 1= .If (aCi (fS 1)) b [] q:=⟨_,_,rfl⟩
theorem aMz:∃b q,fS 2= .If (aCi (fS 2)) b [] q:=⟨_,_,rfl⟩
theorem aM0:lb aC 11=[fS 0,fS 1,fS 2]:=rfl
theorem vQ {l:List (Str × AV)}{k:Int}(h:yA (kS k l)=true):∃w,exB cf1 [] 93 aC.sc ((mkV l).set "k" (.val (.int k))) (lb aC 11)=some (.next,mkV (wS w (kS k l))):=by
 rw [aCd];unfold yA at h
 rcases hv:evE cf1 91 aC.sc (avV (kS k l)) (aLg (fS 0)) with _ | v <;> rw [hv] at h
 ·exact absurd h Bool.false_ne_true
 rcases v with _ | _ | w | _ | _ | _ | _ | _ | _ | _ <;> first | exact absurd h Bool.false_ne_true | skip
 obtain ⟨h1,h2⟩:=Bool.and_eq_true_iff.mp h;obtain ⟨p,q,e0⟩:=aMx;obtain ⟨b1,q1,e1⟩:=aMy;obtain ⟨b2,q2,e2⟩:=aMz;have s0:exS cf1 [] 92 aC.sc (mkV (kS k l)) (fS 0)=some (.next,mkV (wS (.int w) (kS k l))):=by
  rw [e0]; exact fF (m:=91) (by kernel_rfl) (by kernel_rfl) rfl hv
 have s1:exS cf1 [] 91 aC.sc (mkV (wS (.int w) (kS k l))) (fS 1)=some (.next,mkV (wS (.int w) (kS k l))):=by
  rw [e1]; exact (gH (k:=90) (by rw [fE]; exact aE7 h1)).trans oD
 have s2:exS cf1 [] 90 aC.sc (mkV (wS (.int w) (kS k l))) (fS 2)=some (.next,mkV (wS (.int w) (kS k l))):=by
  rw [e2]; exact (gH (k:=89) (by rw [fE]; exact aE7 h2)).trans oD
 refine ⟨.int w,?_⟩;rw [aM0];exact (aE (k:=92) s0).trans ((aE (k:=91) s1).trans (dK (k:=89) s2))
theorem aM1 {o0 o1 o2 o3:List Nat}(h0:IsO o0)(h1:IsO o1)(h2:IsO o2)(h3:IsO o3){l:List (Str × AV)}(hl:l=S5 P X Y (.list [aG o0,aG o1,aG o2,aG o3]) (.list [eC (aX o0),eC (aX o1),eC (aX o2),eC (aX o3)]) (.list [aW (dR o0) (aX o0),aW (dR o1) (aX o1),aW (dR o2) (aX o2),aW (dR o3) (aX o3)])):
  ∃w0 w1 w2 w3,exS cf1 [] 94 aC.sc (mkV l) (nth aC.body 11)=some (.next,mkV (SK w0 w1 w2 w3 l)):=by
 subst hl;obtain ⟨w0,e0⟩:=vQ (cZ (it0 P X Y (aG o1) (aG o2) (aG o3) (eC (aX o1)) (eC (aX o2)) (eC (aX o3)) (aW (dR o1) (aX o1)) (aW (dR o2) (aX o2)) (aW (dR o3) (aX o3)) (dR o0)) h0.m :);obtain ⟨w1,e1⟩:=vQ (cZ (it1 P X Y (aG o0) (aG o2) (aG o3) (eC (aX o0)) (eC (aX o2)) (eC (aX o3)) (aW (dR o0) (aX o0)) (aW (dR o2) (aX o2)) (aW (dR o3) (aX o3)) w0 (dR o1)) h1.m :);obtain ⟨w2,e2⟩:=vQ (cZ (it2 P X Y (aG o0) (aG o1) (aG o3) (eC (aX o0)) (eC (aX o1)) (eC (aX o3)) (aW (dR o0) (aX o0)) (aW (dR o1) (aX o1)) (aW (dR o3) (aX o3)) w0 w1 (dR o2)) h2.m :);obtain ⟨w3,e3⟩:=vQ (cZ (it3 P X Y (aG o0) (aG o1) (aG o2) (eC (aX o0)) (eC (aX o1)) (eC (aX o2)) (aW (dR o0) (aX o0)) (aW (dR o1) (aX o1)) (aW (dR o2) (aX o2)) w0 w1 w2 (dR o3)) h3.m :);exact ⟨w0,w1,w2,w3,rZ (k:=93) rfl (kR rfl (bI (Nat.succ_ne_zero _) aI) rfl) (gF (n:=4) (by decide)) ((cJ e0).trans ((cJ e1).trans ((cJ e2).trans ((cJ e3).trans rfl))))⟩
end
theorem lR {o:Option AV}{f:AV->Bool}(h:yB o f=true):∃v,o=some v/\f v=true:=by
 rcases o with _ | v
 ·exact absurd h Bool.false_ne_true
 ·exact ⟨v,rfl,h⟩
theorem aOl:∃b q,nth aC.body 17= .If (aLb 17) b [] q:=⟨_,_,rfl⟩
theorem aOm:∃b q,nth aC.body 19= .If (aLb 19) b [] q:=⟨_,_,rfl⟩
theorem aM2:∃q,nth aC.body 20= .Return (some (aMv (nth aC.body 20))) q:=⟨_,rfl⟩
theorem aE8:aC.body.drop 6=[nth aC.body 6,nth aC.body 7,nth aC.body 8,nth aC.body 9,nth aC.body 10,nth aC.body 11,nth aC.body 12,nth aC.body 13,nth aC.body 14,nth aC.body 15,nth aC.body 16,nth aC.body 17,nth aC.body 18,nth aC.body 19,nth aC.body 20]:=rfl
section
variable {l:List (Str × AV)}
theorem aE9 (h:aNo l=true):∃v1 v2 v3 v4 v5,exB cf1 [] 94 aC.sc (mkV l) [nth aC.body 12,nth aC.body 13,nth aC.body 14,nth aC.body 15,nth aC.body 16,nth aC.body 17,nth aC.body 18,nth aC.body 19,nth aC.body 20]=exB cf1 [] 88 aC.sc (mkV (S10 v5 (S9 v4 (S8 v3 (S7 v2 (S6 v1 l)))))) [nth aC.body 18,nth aC.body 19,nth aC.body 20]:=by
 obtain ⟨v1,e1,h⟩:=lR h;obtain ⟨v2,e2,h⟩:=lR h;obtain ⟨v3,e3,h⟩:=lR h;obtain ⟨v4,e4,h⟩:=lR h;obtain ⟨v5,e5,h⟩:=lR h;have e6:=aE7 h;refine ⟨v1,v2,v3,v4,v5,?_⟩;refine (aE (k:=93) (fF (m:=92) rfl rfl rfl e1)).trans ?_;refine (aE (k:=92) (fF (m:=91) rfl rfl rfl e2)).trans ?_;refine (aE (k:=91) (fF (m:=90) rfl rfl rfl e3)).trans ?_;refine (aE (k:=90) (fF (m:=89) rfl rfl rfl e4)).trans ?_;refine (aE (k:=89) (fF (m:=88) rfl rfl rfl e5)).trans ?_;obtain ⟨b,q,e⟩:=aOl;refine aE (k:=88) ?_;rw [e];exact (gH (k:=87) (by rw [fE]; exact e6)).trans oD
theorem aM3 (h:evT cf1 85 aC.sc (avV l) (aLb 19)=some false):exS cf1 [] 86 aC.sc (mkV l) (nth aC.body 19)=some (.next,mkV l):=by
 obtain ⟨b1,q1,f1⟩:=aOm;rw [f1];exact (gH (k:=85) (by rw [fE]; exact h)).trans oD
theorem aM4 (h:evE cf1 84 aC.sc (avV l) (aMv (nth aC.body 20))=some v):exB cf1 [] 86 aC.sc (mkV l) [nth aC.body 20]=some (.ret v,mkV l):=by
 obtain ⟨q2,f2⟩:=aM2;rw [f2];exact sB (m:=84) (by rw [fE]; exact h)
end
theorem aIp (t:Nat->List Nat)(a b:B4):∃ρ₃,exB cf1 [] 100 aC.sc (stT t a b) (aC.body.drop 6)=some (.ret (.bool true),ρ₃):=by
 have m1:aLa a∈ones:=List.contains_iff_mem.mp (lP aE4 a);obtain ⟨g1,gA⟩:=Bool.and_eq_true_iff.mp (cZ aCh m1 :);obtain ⟨gB,g5⟩:=Bool.and_eq_true_iff.mp (lP gA b :);obtain ⟨gC,g4⟩:=Bool.and_eq_true_iff.mp gB;obtain ⟨g2,g3⟩:=Bool.and_eq_true_iff.mp gC
 clear gA gB gC
 have ga:=xX (lP (cZ aCk m1 :) b :);generalize ho:aLa a=o at*;generalize hp:fZ b=p at*;have I0:=isO g1;have I1:=isO g2;have I2:=isO g3;have I3:=isO g4;have te:=of_decide_eq_true g5;have all:∀x∈[o,p,jK o p,jK p o],IsO x:=fun x hx=>by
  simp only [List.mem_cons,List.not_mem_nil,or_false] at hx
  rcases hx with rfl | rfl | rfl | rfl <;> assumption
 generalize hq:jK o p=q at*;generalize hr:jK p o=r at*;obtain ⟨w0,w1,w2,w3,e11⟩:=aM1 I0 I1 I2 I3 (P:= .list [eB t a,eB t b]) (X:=aG o) (Y:=aG p) rfl;obtain ⟨v1,v2,v3,v4,v5,e17⟩:=aE9 (cZ (cZ (aE5 (.list [eB t a,eB t b]) (aG o) (aG p) (aG o) (aG p) (aG q) (aG r) (eC (aX q)) (eC (aX r)) (aW (dR q) (aX q)) (aW (dR r) (aX r)) w0 w1 w2 w3 (dR o) (dR p)) I0.t :) I1.t :);have e19:=aE7 (cZ (cZ (aCl (.list [eB t a,eB t b]) (aG o) (aG p) (aG o) (aG p) (aG q) (aG r) (eC (aX o)) (eC (aX p)) (eC (aX q)) (eC (aX r)) (aW (dR q) (aX q)) (aW (dR r) (aX r)) w0 w1 w2 w3 (dR o) (dR p) v1 v2 v3 v4 v5) I0.t :) I1.t :);have e20:=xX (cZ (aIo (.list [eB t a,eB t b]) (aG o) (aG p) (aG o) (aG p) (aG q) (aG r) (eC (aX o)) (eC (aX p)) (eC (aX q)) (eC (aX r)) (aW (dR o) (aX o)) (aW (dR p) (aX p)) w0 w1 w2 w3 (dR q) (dR r) v1 v2 v3 v4 v5 (.bool (decide (aX o=aX p)))) I2.t :);rw [aE8];refine ⟨mkV (SZ2 v1 v2 v3 v4 v5 (.bool (decide (aX o=aX p))) (SK w0 w1 w2 w3 (S5 (.list [eB t a,eB t b]) (aG o) (aG p) (.list [aG o,aG p,aG q,aG r]) (.list [eC (aX o),eC (aX p),eC (aX q),eC (aX r)]) (.list [aW (dR o) (aX o),aW (dR p) (aX p),aW (dR q) (aX q),aW (dR r) (aX r)])))),?_⟩;refine (aE (k:=99) (aOh (t:=t) (a:=a))).trans ?_;rw [ho];refine (aE (k:=98) (aOi (t:=t) (b:=b))).trans ?_;rw [hp];refine (aE (k:=97) (aOj I0 I1)).trans ?_;rw [hq,hr];refine (aE (k:=96) (aOk (l:=[o,p,q,r]) (Nat.le_refl _) all)).trans ?_;refine (aE (k:=95) (aMw (l:=[o,p,q,r]) (Nat.le_refl _) all)).trans ?_;refine (aE (k:=94) e11).trans (e17.trans ?_);refine (aE (k:=87) (fF (m:=86) rfl rfl rfl (jB rfl rfl (gS (aD rfl rfl) (cF (Nat.succ_ne_zero _) (aD rfl rfl) (fL (Nat.zero_le _) (oG (Nat.succ_ne_zero _))))) (by decide) ((tL _).trans ga)))).trans ?_;rw [show aW (dR r) (aX q)=aW (dR r) (aX r) from congrArg _ te] at e20;exact (aE (k:=86) (aM3 e19)).trans (aM4 e20)
end Mine
end
namespace Mine
noncomputable def eF (hs:List Nat):List Str:=(List.range 5).map fun k=>hY k (hs.getD k 0)
noncomputable def aLh (hs:List Nat)(i:Nat):Int:=4+((hs.getD i 0:Nat):Int)%12
noncomputable def aIq (hs:List Nat)(i:Nat):AV:=iR (mJ (aLh hs i) (eF hs))
noncomputable abbrev V0 (script:List Int):List (Str × AV):=[(ofString "script",.list (script.map .int))]
noncomputable abbrev V1 (script:List Int)(hs:List Nat):List (Str × AV):=(ofString "heaps",aG hs)::V0 script
noncomputable abbrev V2 (script:List Int)(hs:List Nat):List (Str × AV):=(ofString "words",.list ((eF hs).map .str))::V1 script hs
noncomputable abbrev V3 (script:List Int)(hs:List Nat):List (Str × AV):=(ofString "ends",.list (hs.map fun x=>AV.str (aIw x)))::V2 script hs
noncomputable abbrev V4 (script:List Int)(hs:List Nat):List (Str × AV):=(ofString "widths",.list [.int (aLh hs 5),.int (aLh hs 6)])::V3 script hs
noncomputable abbrev V5 (script:List Int)(hs:List Nat):List (Str × AV):=(ofString "pages",.list [aIq hs 5,aIq hs 6])::V4 script hs
theorem aIr (k x:Nat)(hk:k<5):lI (hY k x)/\OkW (hY k x):=by
 have hm:∀c∈lQ x,97<=c/\c<123:=fun c hc=>by
  have:=List.eq_of_mem_replicate hc
  lia
 have hall:∀c∈(hY k x).cps.toList,c<123/\64<c:=fun c hc=>by
  rcases List.mem_cons.mp hc with h | h
  ·lia
  ·have:=hm c h;lia
 have hl:(hY k x).length<=4:=by
  show ((65+k)::lQ x).length<=4;unfold lQ;rw [List.length_cons,List.length_replicate]
  lia
 have ho:PyData.strOk (hY k x)=true:=by
  show (hY k x).cps.all _=true;rw [<- Array.all_toList,List.all_eq_true];exact fun c hc=>decide_eq_true (Nat.lt_trans (hall c hc).1 (by decide))
 refine ⟨⟨Nat.le_trans hl (by decide),ho,⟨65+k,List.mem_cons_self ..,?_⟩,fun h=> ?_,fun h=> ?_⟩,Nat.le_trans hl (by decide),ho⟩
 ·match k,hk with
  | 0,_=>decide
  | 1,_=>decide
  | 2,_=>decide
  | 3,_=>decide
  | 4,_=>decide
 ·have:=(hall _ h).2;lia
 ·have:=(hall _ h).2;lia
theorem oZ (hs:List Nat):∀w∈eF hs,lI w/\OkW w:=fun w hw=>by
 obtain ⟨k,hk,rfl⟩:=List.mem_map.mp hw;exact aIr k _ (List.mem_range.mp hk)
theorem vR (hs:List Nat):eF hs≠[]:=List.cons_ne_nil _ _
theorem rG (hs:List Nat):(eF hs).length=5:=rfl
theorem yD (vs:List AV):cf1.fn "_law_filled" vs=bS cfN 100 aP vs:=rfl
theorem aCm (vs:List AV):cf1.fn "_law_heaps" vs=bS cfN 60 dL vs:=rfl
theorem aFa (vs:List AV):cf1.fn "_law_rows" vs=sZ vs:=rfl
section
variable {hs:List Nat}
theorem aOn (h:bS cfN 60 dL [.list (script.map .int)]=some (aG hs)):exS cf1 [] (m+10) aC.sc (mkV (V0 script)) (nth aC.body 0)=some (.next,mkV (V1 script hs)):=
 fF rfl rfl rfl (jB rfl rfl (bI (Nat.succ_ne_zero _) (aD rfl rfl)) (by decide) ((aCm _).trans h))
theorem aOo (hl:hs.length=7):exS cf1 [] (m+50) aC.sc (mkV (V1 script hs)) (nth aC.body 1)=some (.next,mkV (V2 script hs)):=by
 refine fF rfl rfl rfl ((dY (m:=m+48) (l:=List.range 5) (f:=fun (i:Nat)=>AV.int (i:Int)) (fun k=> .str (hY k (hs.getD k 0))) (Nat.succ_ne_zero _) (by kernel_rfl) rfl (kR rfl (bI (Nat.succ_ne_zero _) aI) rfl) (gF (n:=5) (by decide)) (by decide) fun k hk=>aIh (m:=m+8) hl (List.mem_range.mp hk) (if_pos rfl) rfl).trans ?_);unfold eF;rw [List.map_map]; rfl
theorem aOp (hl:hs.length=7):exS cf1 [] (m+50) aC.sc (mkV (V2 script hs)) (nth aC.body 2)=some (.next,mkV (V3 script hs)):=
 fF rfl rfl rfl (dY (m:=m+48) (l:=hs) (f:=fun (i:Nat)=>AV.int (i:Int)) (fun x=> .str (aIw x)) (Nat.succ_ne_zero _) (by kernel_rfl) rfl (aD rfl rfl) rfl (lef hl rfl) fun x _=>aK7 (m:=m+8) (if_pos rfl))
theorem aOq (hl:hs.length=7):exS cf1 [] (m+50) aC.sc (mkV (V3 script hs)) (nth aC.body 3)=some (.next,mkV (V4 script hs)):=
 fF rfl rfl rfl (fL (Nat.le_of_ble_eq_true rfl) (cF (Nat.succ_ne_zero _) (aK aI (aK (uT (aD rfl rfl) aI (tJ (i:=5) hl (by decide))) aI (oY (by decide))) rfl) (aK aI (aK (uT (aD rfl rfl) aI (tJ (i:=6) hl (by decide))) aI (oY (by decide))) rfl)))
theorem aOr:exS cf1 [] (m+50) aC.sc (mkV (V4 script hs)) (nth aC.body 4)=some (.next,mkV (V5 script hs)):=by
 have fp:∀w:Int,cf1.fn "_law_rows" [.list ((eF hs).map .str),.int w]=some (iR (mJ w (eF hs))):=fun w=>(aFa _).trans (aB8 (vR hs) (by rw [rG]; decide) fun p hp=>(oZ hs p hp).1)
 exact fF rfl rfl rfl (qD (Nat.succ_ne_zero _) (by kernel_rfl) rfl (aD rfl rfl) rfl (jB rfl rfl (cF (Nat.succ_ne_zero _) (aD rfl rfl) (aD (if_pos rfl) rfl)) (by decide) (fp _)) (jB rfl rfl (cF (Nat.succ_ne_zero _) (aD rfl rfl) (aD (if_pos rfl) rfl)) (by decide) (fp _)))
theorem vS:okD 2 (iR (mJ wd (eF hs))):=oW (vK fun r hr w hw=>by
 have:∀(ws:List Str)(n:Nat)(ls:List (List Str))(c:List Str),ls.length<=n->c.length<=n->(∀ r∈ls++[c], ∀w∈r,OkW w)->(∀ w∈ws,OkW w)->∀r∈(goW wd ws (ls,c)).1++[(goW wd ws (ls,c)).2], ∀w∈r,OkW w:=fun ws=>by
  induction ws with
  | nil=>exact fun _ _ _ _ _ h _=>h
  | cons p ws ih=>
   intro n ls c h1 h2 h3 h4;obtain ⟨g1,g2,g3,_⟩:=aCb (w:=wd) (p:=p) h3 (h4 p (List.mem_cons_self ..)) h1 h2;exact ih (n+1) _ _ g2 g3 g1 fun w hw=>h4 w (List.mem_cons_of_mem _ hw)
 exact this (eF hs) 0 [] [] (Nat.le_refl _) (Nat.le_refl _) (fun r hr w hw=>by rw [List.mem_singleton.mp hr] at hw;exact nomatch hw) (fun w hw=>(oZ hs w hw).2) r hr w hw)
theorem aOs:exS cf1 [] (m+50) aC.sc (mkV (V5 script hs)) (nth aC.body 5)=some (.next,mkV (V5 script hs)):=by
 have fp:∀w:Int,cf1.fn "_law_filled" [.list ((eF hs).map .str),.int w]=some (iR (mJ w (eF hs))):=fun w=>(yD _).trans (xV cfN (vR hs) (fun p hp=>(oZ hs p hp).2) (by rw [rG]; decide))
 refine (gH (k:=m+49) ?_).trans oD;rw [fE];refine eO (aD rfl rfl) (qD (Nat.succ_ne_zero _) (by kernel_rfl) rfl (aD rfl rfl) rfl (jB rfl rfl (cF (Nat.succ_ne_zero _) (aD rfl rfl) (aD (if_pos rfl) rfl)) (by decide) (fp _)) (jB rfl rfl (cF (Nat.succ_ne_zero _) (aD rfl rfl) (aD (if_pos rfl) rfl)) (by decide) (fp _))) (aJ9 (aIb (k:=3) (oW fun a ha=> ?_) (by decide)) rfl)
 rcases List.mem_cons.mp ha with h | h
 ·exact h▸vS
 ·exact List.mem_singleton.mp h▸vS
end
theorem aCn:∀hs:List Nat,WkL (hs.map fun x=>AV.str (aIw x)) (List.replicate hs.length (.alt ["\n","\r\n","\r"]))
 | []=> .nil
 | x::r=> .cons (Wk.alt (by
   unfold aIw
   split
   ·exact .head _
   ·exact .tail _ (.head _)
   ·exact .tail _ (.tail _ (.head _)))) (aCn r)
theorem rH (hs:List Nat)(i:Nat):∃a:B4,aIq hs i=eB (fun k=>lQ (hs.getD k 0)) a:=by
 obtain ⟨bs,h1,h2⟩:=aCa (aLh hs i) (hY 0 (hs.getD 0 0)) [hY 1 (hs.getD 1 0),hY 2 (hs.getD 2 0),hY 3 (hs.getD 3 0),hY 4 (hs.getD 4 0)]
 match bs,h1 with
 | [x,y,z,u],_=>exact ⟨⟨x,y,z,u⟩,congrArg iR h2⟩
theorem aFb:PureLaw:=fun script hlen=>by
 obtain ⟨l,h1,h2⟩:=aDx cfN script hlen;have e:AV.list (l.map AV.int)=aG (l.map Int.toNat):=by
  unfold aG;rw [List.map_map];refine congrArg AV.list (List.map_congr_left fun a ha=> ?_);have:=(h2.2 a ha).1;show AV.int a=AV.int ((a.toNat:Nat):Int);rw [Int.toNat_of_nonneg this]
 rw [e] at h1;have hl:(l.map Int.toNat).length=7:=by rw [List.length_map]; exact h2.1
 generalize l.map Int.toNat=hs at h1 hl;obtain ⟨a,ea⟩:=rH hs 5;obtain ⟨b,eb⟩:=rH hs 6;obtain ⟨ρ₃,hr⟩:=aIp (fun k=>lQ (hs.getD k 0)) a b;have h0:eE aC.ps [.list (script.map .int)]=mkV (V0 script):=by
  funext x
  show ((([(ofString "script",AV.list (script.map .int))]:List (Str × AV)).lookup x).map Slot.val)=(avV (V0 script) x).map Slot.val;rw [List.lookup_cons,aE0]
  by_cases q:x=ofString "script"
  ·have:(x==ofString "script")=true:=beq_iff_eq.mpr q;rw [if_pos q,this]
  ·have:(x==ofString "script")=false:=beq_eq_false_iff_ne.mpr q;rw [if_neg q,this]; rfl
 refine ⟨107,100,mkV (V5 script hs),_,ρ₃,?_,?_,hr⟩
 ·rw [h0];refine (aE (k:=106) (aOn (m:=96) h1)).trans ?_;refine (aE (k:=105) (aOo (m:=55) hl)).trans ?_;refine (aE (k:=104) (aOp (m:=54) hl)).trans ?_;refine (aE (k:=103) (aOq (m:=53) hl)).trans ?_;refine (aE (k:=102) (aOr (m:=52))).trans ?_;exact (aE (k:=101) (aOs (m:=51))).trans oD
 ·intro x sl hx
  by_cases q:x=ofString "pages"
  ·subst q;refine ⟨_,_,(Option.some.inj hx).symm,rfl,?_⟩;rw [ea,eb]; exact Wk.rfl'
  ·by_cases q2:x=ofString "ends"
   ·subst q2;refine ⟨_,_,(Option.some.inj hx).symm,rfl,Wk.list ?_⟩;have:=aCn hs;rw [hl] at this;exact this
   ·have:stT (fun k=>lQ (hs.getD k 0)) a b x=none:=by
     show (avV _ x).map Slot.val=none;rw [aE0,if_neg q,aE0,if_neg q2]; rfl
    exact nomatch this.symm.trans hx
end Mine
open PySem PySem.W PySem.W.X PyProof.Rows
set_option Elab.async false
set_option maxRecDepth 100000
set_option maxHeartbeats 0
open Mine
theorem PySem.Challenge.cw_re0160_02_holds : PySem.Challenge.rw_re0160_02.Holds := by
  refine holds_law (by rw [PySem.W.Fast.te9446332074065402090]; kernel_rfl) fun said => ?_
  refine holds_openX aLt (XP := XL yL []) (fun s e => xl_of s (Bool.and_eq_true_iff.mp e).1) XL.keeps (by rfl) (by rfl) (by rfl) (fun s e => recFacts_of (Bool.and_eq_true_iff.mp e).2) (by rfl) said (by decide +kernel) ⟨rfl, rfl, rfl, rfl, rfl, by decide +kernel⟩ ?hw ?hc
  case hw => w_witness2
  case hc =>
    intro w s₀ s₁ mg mb G y fa o pm cd doc dV kV ho hd hcd hD hmg hg args vals as L hpre hlay hrd hwl hlo
    clear ho hd hcd hD
    refine Ground.open G ?_
    intro T B D TE TW
    wrow_args hpre hlay hrd hwl hlo
    obtain ⟨X, z, t⟩ := aKq y
    have k : ∀ b o, s₀.heap.get? b = some o → s₁.heap.get? b = some o := L.keeps
    refine aEu (aKo y) aFb (fun a o e => k _ _ (X a o e)) ⟨fun v hv => (z.at' v hv).imp fun _ h => h.at fun b o _ e => k b o e, fun _ _ _ h => nomatch h⟩ T hg (Nat.lt_of_lt_of_le t (script_toks L rfl)) hmg (script_obj L (by assumption)) (by assumption) (by omega) (fun _ => rfl) ?gp
    first | rfl | wrow_post
