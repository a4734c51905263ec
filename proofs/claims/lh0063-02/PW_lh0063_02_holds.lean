import PyProof.Rows.All
import Wide.All
import OpenK.AllK
import Wide.FinOn
import PyProof.ToksMono
import KE.KIntText
import KE.KCallOwn
import PyProof.GenCompD
import PyProof.JoinWalk
import PyProof.TupleOfGen
import KE.KUnpack
import PyProof.ExcAttrAll.ValueError
import Lean
import PySem.Challenge.RW_lh0063_02
set_option hygiene false
set_option backward.match.sparseCases false
set_option maxRecDepth 100000
set_option tactic.hygienic false
set_option linter.all false
set_option genSizeOf false
set_option genInjectivity false
set_option bootstrap.genMatcherCode false
set_option compiler.extract_closed false
set_option Elab.async false
local macro_rules
  | `(tactic| rw [$h:term])=>`(tactic| ((first | refine Eq.substr $h ?_ | rewrite [$h:term]);with_reducible try rfl))
  | `(tactic| rw [$h:term,$hs,*])=>`(tactic| ((first | refine Eq.substr $h ?_ | rewrite [$h:term]);rw [$hs,*]))
local macro_rules | `(tactic| show $e)=>`(tactic| first | refine (?_:$e) | change $e)
section
open PySem PySem.W PyProof.Rows
namespace Mine
theorem wpAny_bind {α β:Type} {M:Model} {A:Around} {E:Value→Shared→Prop} {s:Shared} {m:Sem α} {f:α→Sem β} {Q:β→Shared→Prop} (h:wpAny M A m (fun a=>wpAny M A (f a) Q E) E s):wpAny M A (m>>=f) Q E s:=PySem.wpAny_bind h
theorem wpAny_tryCatch {α:Type} {M:Model} {A:Around} {E:Value→Shared→Prop} {s:Shared} {m:Sem α} {k:Value→Sem α} {Q:α→Shared→Prop} (h:wpAny M A m Q (fun e=>wpAny M A (k e) Q E) s):wpAny M A (tryCatch m k) Q E s:=PySem.wpAny_tryCatch h
noncomputable def prog:Program:=PySem.Challenge.rw_lh0063_02.row.prog
noncomputable def T:List (Addr×Addr):=[(387,383),(316,312)]
inductive PV where
  | none
  | bool (b:Bool)
  | int (i:Int)
  | str (x:PySem.Str)
  | tup (l:List PV)
  | list (l:List PV)
  | inst (C:Addr) (fs:List (PySem.Str×PV))
  | glob (v:PySem.Value)
  | mat (gs:List (Option PySem.Str)) (e:Nat)
  | any
  | own
inductive Res (α:Type) where
  | ok (a:α)
  | exc
theorem nov {α:Type} {P:Prop} {a:α} (h:(none:Option α)=some a):P:=nomatch h
noncomputable abbrev R (α:Type):=Option (Res α)
noncomputable def rbind {α β:Type} (x:R α) (f:α→R β):R β:=
  match x with
  | .none=>.none
  | .some .exc=>.some .exc
  | .some (.ok a)=>f a
noncomputable def rok {α:Type} (a:α):R α:=.some (.ok a)
noncomputable def grd {α:Type} (b:Bool) (x:Option α):Option α:=match b with
  | true=>x
  | false=>none
noncomputable def optR {α:Type} (o:Option α):R α:=match o with
  | some a=>rok a
  | none=>none
noncomputable def ask {α β:Type} (o:Option α) (f:α→Option β):Option β:=match o with
  | some a=>f a
  | none=>none
theorem grd_some {α:Type} {b:Bool} {x:Option α} {r:α} (h:grd b x=some r):b=true∧x=some r:=by induction b with
  | true=>exact ⟨rfl,h⟩
  | false=>exact nov h
theorem grd_t {α:Type} {b:Bool} {x:Option α} (h:b=true):grd b x=x:=by rw [h];rfl
theorem grb {α:Type} {b:Bool} {x y:Option α} (h:b=true) (k:x=y):grd b x=y:=by subst h;exact k
theorem akb {α β:Type} {o:Option α} {a:α} {f:α→Option β} {r:Option β} (h:o=some a) (k:f a=r):ask o f=r:=by subst h;exact k
theorem rok_some {α:Type} {a:α} {r:Res α} (h:rok a=some r):r=.ok a:=(Option.some.inj h).symm
inductive OptS {α:Type} (o:Option α) (r:Res α):Prop
  | mk (a:α) (e:o=some a) (h:r=.ok a)
theorem optR_some {α:Type} {o:Option α} {r:Res α} (h:optR o=some r):OptS o r:=by induction o with
  | none=>exact nov h
  | some a=>exact ⟨a,rfl,rok_some h⟩
inductive AskS {α β:Type} (o:Option α) (f:α→Option β) (r:β):Prop
  | mk (a:α) (e:o=some a) (h:f a=some r)
theorem ask_some {α β:Type} {o:Option α} {f:α→Option β} {r:β} (h:ask o f=some r):AskS o f r:=by induction o with
  | none=>exact nov h
  | some a=>exact ⟨a,rfl,h⟩
theorem ask_t {α β:Type} {o:Option α} {f:α→Option β} {a:α} (h:o=some a):ask o f=f a:=by rw [h];rfl
theorem nof {P:Prop} (h:false=true):P:=nomatch h
theorem not_tt {b:Bool} (h:(!b)=true):b=false:=by induction b with
  | false=>rfl
  | true=>exact nof h
theorem and_tt {a b:Bool} (h:(a&&b)=true):a=true∧b=true:=Bool.and_eq_true_iff.mp h
inductive RbS {α β:Type} (x:R α) (f:α→R β) (r:Res β):Prop
  | mk (r₁:Res α) (h1:x=some r₁) (h2:r₁=.exc→r=.exc) (h3:∀ a,r₁=.ok a→f a=some r)
theorem rbind_first {α β:Type} {x:R α} {f:α→R β} {r:Res β} (h:rbind x f=some r):RbS x f r:=by
  induction x with
  | none=>exact nov h
  | some y=>induction y with
    | exc=>exact ⟨.exc,rfl,(fun Z=>(Option.some.inj h).symm),fun Z e=>nomatch e⟩
    | ok a=>exact ⟨.ok a,rfl,(fun e=>nomatch e),fun b e=>by cases e;exact h⟩
inductive MO where
  | list (l:List PV)
  | inst (C:Addr) (fs:List (PySem.Str×PV))
structure Fm where
  scope:PySem.Scope
  loc:List (PySem.Str×PV)
  cel:List (PySem.Str×PV)
  mu:Option MO
  code:PySem.Value:=.none
  tk:Bool:=false
inductive SR where
  | nx (f:Fm)
  | rt (v:PV) (f:Fm)
  | ex (f:Fm)
noncomputable abbrev S:=Option SR
noncomputable abbrev CallSem:=Bool→Addr→List PV→List (PySem.Str×PV)→R PV
noncomputable def mutNames:List PySem.Str:=[Str.ofString "rows",Str.ofString "numbers"]
noncomputable def put {α:Type} (x:PySem.Str) (v:α):List (PySem.Str×α)→List (PySem.Str×α)
  | []=>[(x,v)]
  | (y,u)::r=>if y==x then (x,v)::r else (y,u)::put x v r
theorem lk_hd {α:Type} {y:PySem.Str} {u:α} {l:List (PySem.Str×α)}:((y,u)::l).lookup y=some u:=by rw [List.lookup_cons,beq_self_eq_true]
theorem lk_tl {α:Type} {x y:PySem.Str} {u v:α} {l:List (PySem.Str×α)} (h:(x==y)=false) (k:l.lookup x=some v):((y,u)::l).lookup x=some v:=by rw [List.lookup_cons,h];exact k
theorem lookup_put_self {α:Type} {x:PySem.Str} {v:α}:∀ {l:List (PySem.Str×α)},(put x v l).lookup x=some v
  | []=>lk_hd
  | (y,u)::l=>by
    show List.lookup x (if (y==x)=true then (x,v)::l else (y,u)::put x v l)=_
    induction h:(y==x) with
    | true=>exact lk_hd
    | false=>exact lk_tl (by rw [beq_eq_false_iff_ne] at h ⊢;exact fun e=>h e.symm) lookup_put_self
theorem lookup_put_ne {α:Type} {x y:PySem.Str} {v:α} (h:(y==x)=false):∀ {l:List (PySem.Str×α)},(put x v l).lookup y=l.lookup y
  | []=>by show List.lookup y [(x,v)]=_;rw [List.lookup_cons,h]
  | (z,u)::l=>by
    show List.lookup y (if (z==x)=true then (x,v)::l else (z,u)::put x v l)=_
    induction hz:(z==x) with
    | true=>
      obtain rfl:=beq_iff_eq.mp hz
      show ((z,v)::l).lookup y=_
      rw [List.lookup_cons,List.lookup_cons,h]
    | false=>
      show ((z,u)::put x v l).lookup y=_
      rw [List.lookup_cons,List.lookup_cons,lookup_put_ne h]
noncomputable def truth:PV→Option Bool
  | .none=>some false
  | .bool b=>some b
  | .int i=>some (i != 0)
  | .str x=>some (x.length != 0)
  | .tup l=>some (!l.isEmpty)
  | .list l=>some (!l.isEmpty)
  | .mat ..=>some true
  | _=>Option.none
noncomputable def asInt:PV→Option Int
  | .int i=>some i
  | _=>none
noncomputable def asStr:PV→Option PySem.Str
  | .str x=>some x
  | _=>none
noncomputable def asBool:PV→Option Bool
  | .bool b=>some b
  | _=>none
noncomputable def asInst:PV→Option (Addr×List (PySem.Str×PV))
  | .inst C fs=>some (C,fs)
  | _=>none
noncomputable def refV:Value→Option Addr
  | .ref a=>some a
  | _=>none
theorem refV_of {v:Value} {a:Addr} (h:refV v=some a):v=.ref a:=by induction v using PySem.Value.casesOn<;>first | exact congrArg Value.ref (Option.some.inj h) | exact nov h
noncomputable def asRef:PV→Option Addr
  | .glob v=>refV v
  | _=>none
theorem asInt_of {p:PV} {i:Int} (h:asInt p=some i):p=.int i:=by induction p using PV.casesOn<;>first | exact congrArg PV.int (Option.some.inj h) | exact nov h
theorem asStr_of {p:PV} {i:PySem.Str} (h:asStr p=some i):p=.str i:=by induction p using PV.casesOn<;>first | exact congrArg PV.str (Option.some.inj h) | exact nov h
theorem asBool_of {p:PV} {i:Bool} (h:asBool p=some i):p=.bool i:=by induction p using PV.casesOn<;>first | exact congrArg PV.bool (Option.some.inj h) | exact nov h
theorem asInst_of {p:PV} {q:Addr×List (PySem.Str×PV)} (h:asInst p=some q):p=.inst q.1 q.2:=by induction p using PV.casesOn<;>first | exact congrArg (fun q:Addr×List (PySem.Str×PV)=>PV.inst q.1 q.2) (Option.some.inj h) | exact nov h
theorem asRef_of {p:PV} {a:Addr} (h:asRef p=some a):p=.glob (.ref a):=by
  induction p using PV.casesOn with
  | glob v=>exact congrArg PV.glob (refV_of h)
  | _=>exact nov h
noncomputable def one {α:Type}:List α→Option α
  | [a]=>some a
  | _=>none
noncomputable def two {α:Type}:List α→Option (α×α)
  | [a,b]=>some (a,b)
  | _=>none
theorem one_of {α:Type} {l:List α} {a:α} (h:one l=some a):l=[a]:=by
  rcases l with Z | ⟨b,Z | ⟨c,t⟩⟩
  · exact nov h
  · exact congrArg (fun a=>[a]) (Option.some.inj h)
  · exact nov h
theorem two_of {α:Type} {l:List α} {q:α×α} (h:two l=some q):l=[q.1,q.2]:=by
  rcases l with Z | ⟨b,Z | ⟨c,Z | ⟨d,t⟩⟩⟩
  · exact nov h
  · exact nov h
  · exact congrArg (fun q:α×α=>[q.1,q.2]) (Option.some.inj h)
  · exact nov h
mutual
noncomputable def toPD:PV→Option PySem.PyData
  | .none=>some .none
  | .bool b=>some (.bool b)
  | .int i=>some (.int i)
  | .str x=>some (.str x)
  | .tup l=>(toPDs l).map .tuple
  | .list l=>(toPDs l).map .list
  | _=>Option.none
noncomputable def toPDs:List PV→Option (List PySem.PyData)
  | []=>some []
  | p::l=>ask (toPD p) fun d=>(toPDs l).map (d::·)
end
noncomputable def eqd (a b:PV):Option Bool:=ask (toPD a) fun x=>ask (toPD b) fun y=>grd (PySem.SeqAt.shaped x&&PySem.SeqAt.shaped y) (some (PySem.PyData.eqv x y))
noncomputable def eqv (a b:PV):Option Bool:=match a with
  | .int i=>ask (asInt b) fun j=>some (i==j)
  | .str x=>ask (asStr b) fun y=>some (x==y)
  | a=>eqd a b
noncomputable def strsOf:List PV→Option (List PySem.Str)
  | []=>some []
  | p::r=>ask (asStr p) fun x=>(strsOf r).map (x::·)
noncomputable def lenLine:Nat:=1000000
noncomputable def strR (x:Str):R PV:=grd (decide (x.length≤lenLine)) (rok (.str x))
noncomputable def listR (l:List PV):R PV:=grd (decide (l.length≤lenLine)) (rok (.list l))
noncomputable def digitsVal (l:List Nat):Int:=(l.foldl (fun n c=>n*10+(c - 48)) 0:Nat)
noncomputable def asciiDigits (x:PySem.Str):Bool:=x.length != 0&&x.cps.toList.all fun c=>48≤c&&c≤57
noncomputable def intOfText (x:PySem.Str):R PV:=grd (asciiDigits x&&decide (x.length≤640)) (rok (.int (digitsVal x.cps.toList)))
noncomputable def isD (c:Nat):Bool:=Unicode.isDecimal c
noncomputable def isC (c:Nat):Bool:=(48≤c&&c≤57)||(65≤c&&c≤90)||(97≤c&&c≤122)||c==46||c==45
noncomputable def atEnd (l:List Nat):Bool:=l.isEmpty
noncomputable def sep (c:Nat):List Nat→Option (List Nat)
  | []=>none
  | x::r=>grd (x==c) (some r)
theorem sep_of {c:Nat} {l r:List Nat} (h:sep c l=some r):l=c::r:=by induction l using List.casesOn with
  | nil=>exact nov h
  | cons x t=>
    obtain ⟨e,h1⟩:=grd_some h;clear h
    rw [beq_iff_eq.mp e,Option.some.inj h1]
theorem sep_ne {c x:Nat} {l:List Nat} (h:x≠c):sep c (x::l)=none:=by
  show grd (x==c) _=none
  rw [beq_false_of_ne h];rfl
theorem sep_eq {c:Nat} {l:List Nat}:sep c (c::l)=some l:=by
  show grd (c==c) _=_
  rw [beq_self_eq_true];rfl
noncomputable def dig {α:Type} (p:Nat→Bool) (l:List Nat) (f:List Nat→List Nat→Option α):Option α:=grd (!(l.takeWhile p).isEmpty) (f (l.takeWhile p) (l.drop (l.takeWhile p).length))
inductive RunS {α:Type} (p:Nat→Bool) (l:List Nat) (f:List Nat→List Nat→Option α) (r:α):Prop
  | mk (h:(l.takeWhile p).isEmpty=false) (k:f (l.takeWhile p) (l.drop (l.takeWhile p).length)=some r)
theorem run_some {α:Type} {p:Nat→Bool} {l:List Nat} {f:List Nat→List Nat→Option α} {r:α} (h:dig p l f=some r):RunS p l f r:=by
  obtain ⟨h1,k⟩:=grd_some h;clear h
  exact ⟨not_tt h1,k⟩
theorem run_t {α:Type} {p:Nat→Bool} {l:List Nat} {f:List Nat→List Nat→Option α} (h:(l.takeWhile p).isEmpty=false):dig p l f=f (l.takeWhile p) (l.drop (l.takeWhile p).length):=grd_t (by rw [h];rfl)
noncomputable def alt {α β:Type} (o:Option α) (f:α→Option β) (x:Option β):Option β:=match o with
  | some a=>f a
  | none=>x
noncomputable def m3b (l:List Nat):Option (Option PySem.Str):=alt (sep 43 l) (fun r=>dig isC r fun b t=>grd (atEnd t) (some (some ⟨b.toArray⟩))) (grd (atEnd l) (some none))
noncomputable def m3p (l:List Nat):Option (Option PySem.Str×Option PySem.Str):=alt (sep 45 l) (fun r=>dig isC r fun p t=>(m3b t).map fun b=>(some ⟨p.toArray⟩,b)) ((m3b l).map fun b=>(none,b))
noncomputable def m3 (l:List Nat):Option (List (Option PySem.Str)):=dig isD l fun a t=>ask (sep 46 t) fun r1=>dig isD r1 fun b t=>ask (sep 46 t) fun r2=>dig isD r2 fun c t=>(m3p t).map fun q=>[some ⟨a.toArray⟩,some ⟨b.toArray⟩,some ⟨c.toArray⟩,q.1,q.2]
theorem m3b_43 {r:List Nat}:m3b (43::r)=dig isC r fun b t=>grd (atEnd t) (some (some ⟨b.toArray⟩)):=congrArg (fun o=>alt o _ _) sep_eq
theorem m3b_no {c:Nat} {r:List Nat} (h:c≠43):m3b (c::r)=none:=congrArg (fun o=>alt o _ _) (sep_ne h)
theorem m3p_45 {r:List Nat}:m3p (45::r)=dig isC r fun p t=>(m3b t).map fun b=>(some ⟨p.toArray⟩,b):=congrArg (fun o=>alt o _ _) sep_eq
theorem m3p_no {c:Nat} {r:List Nat} (h:c≠45):m3p (c::r)=(m3b (c::r)).map fun b=>(none,b):=congrArg (fun o=>alt o _ _) (sep_ne h)
theorem run46 {α:Type} {l r:List Nat} {f:List Nat→List Nat→Option α} (ha:(l.takeWhile isD).isEmpty=false) (h:l.drop (l.takeWhile isD).length=46::r):dig isD l (fun a t=>ask (sep 46 t) (f a))=f (l.takeWhile isD) r:=(run_t ha).trans (ask_t (by rw [h];exact sep_eq))
theorem run_ne {p:Nat→Bool} {l:List Nat} (h:0 < (l.takeWhile p).length):(l.takeWhile p).isEmpty=false:=by
  induction e:l.takeWhile p using List.casesOn with
  | nil=>rw [e] at h;cases h
  | cons=>rfl
theorem run_len {p:Nat→Bool} {l:List Nat} (h:(l.takeWhile p).isEmpty=false):∃ n,(l.takeWhile p).length=n+1:=by
  induction e:l.takeWhile p using List.casesOn with
  | nil=>rw [e] at h;cases h
  | cons c r=>exact ⟨r.length,rfl⟩
noncomputable def opt46 (f:List Nat→Nat) (l:List Nat):Nat:=alt (sep 46 l) (fun r=>dig isD r fun a t=>some (a.length+1+f t)) (some 0) |>.getD 0
noncomputable def m1 (l:List Nat):Option Nat:=dig isD l fun a t=>some (a.length+opt46 (opt46 fun Z=>0) t)
noncomputable def isS (c:Nat):Bool:=isC c||c==43
noncomputable def sub2 (l:List Nat):List Nat:=l.map fun c=>bif isS c then c else 45
inductive PatK where
  | p1 | p2 | p3
noncomputable def patAt:PatK→Addr
  | .p1=>43
  | .p2=>48
  | .p3=>53
noncomputable def patName:PatK→String
  | .p2=>"sub"
  | _=>"match"
noncomputable def patOf (a:Addr):Option PatK:=[PatK.p1,.p2,.p3].find? fun k=>a==patAt k
noncomputable def grpPV:Option PySem.Str→PV
  | some x=>.str x
  | Option.none=>.none
noncomputable def fdOf:Data→Option FuncData
  | .func fd=>some fd
  | _=>none
theorem fdOf_of {d:Data} {f:FuncData} (h:fdOf d=some f):d=.func f:=by induction d using PySem.Data.casesOn<;>first | exact congrArg Data.func (Option.some.inj h) | exact nov h
noncomputable def seqV:Data→Option (Array Value)
  | .seq vs _=>some vs
  | _=>none
noncomputable def isPlainD:Data→Bool
  | .plain=>true
  | _=>false
noncomputable def funOf (K:Frag) (a:Addr):Option PySem.FuncData:=ask (K.lookup a) fun o=>fdOf o.data
noncomputable def refO (o:Option (Option Value)):Option Addr:=ask o fun o=>ask o refV
theorem refO_of {o:Option (Option Value)} {a:Addr} (h:refO o=some a):o=some (some (.ref a)):=by
  obtain ⟨u,rfl,h2⟩:=ask_some h;clear h
  obtain ⟨v,rfl,h3⟩:=ask_some h2;clear h2
  rw [refV_of h3]
inductive Meth where
  | plain (f:Addr)
  | ofCls (p f:Addr)
noncomputable def usualGet (K:Frag) (D:Addr):Bool:=findIn K (.ref D) "__getattribute__"==some (some (.builtin "object.__getattribute__"))&&findIn K (.ref D) "__getattr__"==some none&&(clsIn K D).any (·.hasDict)
noncomputable def cmOf (K:Frag) (p:Addr):Option Addr:=ask (recIn K p "classmethod") fun l=>ask l.head? fun v=>ask (refV v) fun f=>grd (specialIn K (.ref p) "__get__"==some (some (.builtin "classmethod.__get__"))&&takesIn K (.ref p)==some false&&typeIn K (.ref p)==some (.type "classmethod")&&fnIn K f) (some f)
noncomputable def methA (K:Frag) (m:Addr) (b:Bool):Option Meth:=match b with
  | true=>some (.plain m)
  | false=>ask (cmOf K m) fun f=>some (.ofCls m f)
noncomputable def methOf (K:Frag) (C:Addr) (x:PySem.Str):Option Meth:=grd (usualGet K C&&!copiedNames.contains x) (ask (refO (findIn K (.ref C) x)) fun m=>methA K m (fnIn K m&&isFn K (.ref m)))
noncomputable def gotten (D:Addr):CFound→Option Addr
  | .get g p i c=>grd (g==.builtin "classmethod.__get__"&&(i==.none&&c==.ref D)) (refV p)
  | .val _=>none
theorem gotten_of {D p:Addr} {c:CFound} (h:gotten D c=some p):c=.get (.builtin "classmethod.__get__") (.ref p) .none (.ref D):=by
  cases c with
  | val=>exact nov h
  | get g q i c=>
    obtain ⟨e,h1⟩:=grd_some h;clear h
    rw [refV_of h1,beq_iff_eq.mp (and_tt e).1,beq_iff_eq.mp (and_tt (and_tt e).2).1,beq_iff_eq.mp (and_tt (and_tt e).2).2]
noncomputable def cmethOf (K:Frag) (C:Addr) (x:PySem.Str):Option (Addr×Addr):=
  grd (specialIn K (.ref C) "__getattribute__"==some (some (.builtin "type.__getattribute__"))&&readsIn K C (.type "type")) (ask (findCls K (.ref C) (.type "type") x) fun c=>ask (gotten C c) fun p=>ask (cmOf K p) fun f=>some (p,f))
noncomputable def specOf (K:Frag) (C:Addr) (x:PySem.Str):Option Addr:=ask (refO (findIn K (.ref C) x)) fun m=>grd (fnIn K m&&isFn K (.ref m)) (some m)
noncomputable def dataIn (K:Frag) (D:Addr) (a:PySem.Str):Bool:=usualGet K D&&findIn K (.ref D) a==some none
noncomputable def storeIn (K:Frag) (D:Addr) (a:PySem.Str):Bool:=findIn K (.ref D) "__setattr__"==some (some (.builtin "object.__setattr__"))&&plainOver K D&&takerIn K D a==some none&&(clsIn K D).any (·.hasDict)
noncomputable def fnOk (K:Frag) (fd:PySem.FuncData):Bool:=!fd.scope.isCoroutine&&!fd.scope.isGenerator&&codeIn K fd.code fd.qualname&&fd.globals==mainGlobals&&fd.builtins==builtinsNs&&fd.closure.isEmpty&&fd.scope.kind==.function
noncomputable def noDup:List PySem.Str→Bool
  | []=>true
  | x::r=>!r.contains x&&noDup r
noncomputable def parOk (fd:PySem.FuncData):Bool:=noDup (fd.scope.names.map (·.1))&&fd.params.args.all fun p=>fd.scope.names.lookup p.arg==some .local||fd.scope.names.lookup p.arg==some .cell
noncomputable def globPV:PySem.Value→PV
  | .str x t=>if x.length≤lenLine then .str x else .glob (.str x t)
  | v=>.glob v
noncomputable def gvalO (x:Str) (o:Option Value):Option PV:=match o with
  | some v=>some (globPV v)
  | none=>(bootBuiltins x).map globPV
noncomputable def gval (K:Frag) (x:Str):Option PV:=ask (nsIn K mainGlobals x) (gvalO x)
noncomputable def nameK (K:Frag) (fm:Fm) (x:PySem.Str) (k:NameKind):Option PV:=match k with
  | .local=>fm.loc.lookup x
  | .cell=>fm.cel.lookup x
  | .free=>fm.cel.lookup x
  | .globalImplicit=>gval K x
  | _=>none
noncomputable def nameE (K:Frag) (fm:Fm) (x:PySem.Str):Option PV:=
  grd (!(x==Str.ofString "__debug__"||(x==Str.ofString "__name__"||x==Str.ofString "__classdict__"))) (ask (fm.scope.names.lookup x) (nameK K fm x))
noncomputable def constE:PySem.Const→Option PV
  | .none=>some .none
  | .bool b=>some (.bool b)
  | .int i=>some (.int i)
  | .str x=>grd (decide (x.length≤lenLine)) (some (.str x))
  | _=>none
noncomputable def handedPV:PV→Bool
  | .any=>false
  | .glob _=>false
  | _=>true
noncomputable def solid:PV→Bool
  | .own=>false
  | _=>true
mutual
noncomputable def hasInst (C:Addr):PV→Bool
  | .tup l=>hasInsts C l
  | .list l=>hasInsts C l
  | .inst D fs=>D==C||hasInstf C fs
  | _=>false
noncomputable def hasInsts (C:Addr):List PV→Bool
  | []=>false
  | p::l=>hasInst C p||hasInsts C l
noncomputable def hasInstf (C:Addr):List (PySem.Str×PV)→Bool
  | []=>false
  | p::l=>hasInst C p.2||hasInstf C l
end
noncomputable def deref (fm:Fm):PV→PV
  | .own=>match fm.mu with
    | some (.list l)=>.list l
    | _=>.own
  | v=>v
noncomputable def fmtLit (f:PySem.Str) (x:String):Bool:=f==Str.ofString x
noncomputable def errF (f:PySem.Str):Bool:=f.cps.toList==f.cps.toList.dropLast.dropLast++[37,114]&&(!f.cps.toList.dropLast.dropLast.isEmpty&&(f.cps.toList.dropLast.dropLast.all (· != 37)&&decide (f.cps.toList.dropLast.dropLast.length≤1000)))
noncomputable def smallI (i:Int):Bool:=decide (0≤i)&&decide (i < 10 ^ 250)
noncomputable def asciiT (x:PySem.Str):Bool:=x.cps.toList.all (· < 128)&&decide (x.length≤100000)
noncomputable def fmtSD (f:PySem.Str) (q:PV×PV):R PV:=ask (asStr q.1) fun x=>ask (asInt q.2) fun i=>grd (fmtLit f "%s.%d"&&smallI i) (strR (x++Str.ofString "."++Str.ofString (toString i)))
noncomputable def fmtE (f:PySem.Str) (v:PV):R PV:=match v with
  | .int i=>grd (fmtLit f "%d"&&smallI i) (strR (Str.ofString (toString i)))
  | .str x=>grd (errF f&&asciiT x) (rok .any)
  | .tup l=>ask (two l) (fmtSD f)
  | _=>none
noncomputable def joinPs:List PySem.Str→PySem.Str
  | []=>Str.empty
  | x::r=>x++joinPs r
noncomputable def joinR (l:List PySem.Str):R PV:=strR (joinPs l)
noncomputable def addE (a b:PV):R PV:=match a with
  | .int i=>ask (asInt b) fun j=>rok (.int (i+j))
  | .str x=>ask (asStr b) fun y=>strR (x++y)
  | .list l=>(match b with | .list m=>listR (l++m) | _=>none)
  | _=>none
noncomputable def modE (a b:PV):R PV:=match a with
  | .int i=>ask (asInt b) fun j=>grd (!(j==0)) (rok (.int (i.fmod j)))
  | .str f=>fmtE f b
  | _=>none
noncomputable def divE (a b:PV):R PV:=ask (asInt a) fun i=>ask (asInt b) fun j=>grd (!(j==0||!decide (j.natAbs < 1073741824))) (rok (.int (i.fdiv j)))
noncomputable def powE (a b:PV):R PV:=ask (asInt a) fun i=>ask (asInt b) fun j=>grd (decide (0≤j)&&decide (j≤100)&&decide (0≤i)&&decide (i≤100)) (rok (.int (i ^ j.toNat)))
noncomputable def xorE (a b:PV):R PV:=ask (asBool a) fun p=>ask (asBool b) fun q=>rok (.bool (p != q))
noncomputable def mulE (a b:PV):R PV:=ask (asStr a) fun x=>ask (asInt b) fun j=>grd (decide (0≤j)&&(decide (j≤100)&&decide (x.length≤100))) (strR (PySem.Txt.mul x j))
noncomputable def binE (fm:Fm) (op:PySem.Operator) (a b:PV):R PV:=match op with
  | .Add=>addE (deref fm a) b
  | .Mod=>modE a b
  | .FloorDiv=>divE a b
  | .Pow=>powE a b
  | .BitXor=>xorE a b
  | .Mult=>mulE a b
  | _=>none
noncomputable def isNone:PV→Option Bool
  | .none=>some true
  | .any=>none
  | .glob _=>none
  | .own=>none
  | _=>some false
noncomputable def inE (a b:PV):Option Bool:=ask (asStr a) fun x=>ask (asStr b) fun y=>some (PySem.Txt.contains y x)
noncomputable def listAt (l:List PV) (k:Int):R PV:=bif decide (0≤k) then optR l[k.toNat]? else grd (decide (0≤k+l.length)) (optR l[(k+l.length).toNat]?)
noncomputable def idxE (fm:Fm) (o i:PV):R PV:=ask (asInt i) fun k=>match deref fm o with
  | .list l=>listAt l k
  | .str x=>grd (decide (0≤k)) (ask x.cps[k.toNat]? fun c=>rok (.str ⟨#[c]⟩))
  | _=>none
noncomputable def bound (o:Option PV):Option (Option Int):=match o with
  | .none=>some .none
  | .some p=>(asInt p).map .some
noncomputable def pickL {α:Type} (l u:Option Int) (xs:List α):List α:=
  (sliceRange (PySem.sliceBounds l u none xs.length).1 (PySem.sliceBounds l u none xs.length).2.1 (PySem.sliceBounds l u none xs.length).2.2).filterMap (xs[·]?)
noncomputable def sliceE (fm:Fm) (o:PV) (l u:Option PV):R PV:=ask (bound l) fun a=>ask (bound u) fun b=>match deref fm o with
  | .list xs=>rok (.list (pickL a b xs))
  | .str x=>rok (.str (PySem.Txt.slice x a b))
  | _=>none
noncomputable def rangeL (n:Int):List PV:=(List.range n.toNat).map fun k=>.int (k:Nat)
noncomputable def paramsOf (p:PySem.Arguments):Option (List PySem.Str):=
  grd (p.posonlyargs.isEmpty&&p.vararg.isNone&&p.kwonlyargs.isEmpty&&p.kwarg.isNone) (some (p.args.map (·.arg)))
noncomputable def itemsOf:PV→Option (List PV)
  | .list l=>some l
  | .tup l=>some l
  | .str x=>some (x.cps.toList.map fun c=>.str ⟨#[c]⟩)
  | _=>none
noncomputable def simple:PV→Bool
  | .str _=>true
  | .int _=>true
  | _=>false
noncomputable def gcodes:List Addr:=[387,316]
noncomputable def codeHere (fm:Fm):Bool:=(refV fm.code).any fun c=>gcodes.contains c
noncomputable def modIn (K:Frag):Bool:=(ask (refO (nsIn K mainGlobals (Str.ofString "__builtins__"))) fun bm=>grd (bm != builtinsNs) (ask (K.lookup bm) fun o=>grd (o.cls==.type "module"&&(o.dict==some builtinsNs&&isPlainD o.data)) (some ()))).isSome
noncomputable def genScope (sc:PySem.Scope) (x:PySem.Str):Bool:=!sc.isCoroutine&&sc.kind==.function&&sc.names.lookup x==some .local&&sc.names.lookup (Str.ofString ".0")==some .local&&sc.names.all fun y=>y.2 != .cell&&y.2 != .free
noncomputable def plainIter:PySem.Expr→Bool
  | .Set ..=>false
  | .List ..=>false
  | _=>true
noncomputable def okOf {α:Type}:R α→Option α
  | some (.ok a)=>some a
  | _=>none
noncomputable def strOk (r:R PV):Option Str:=match r with
  | some (.ok (.str x))=>some x
  | _=>none
theorem strOk_of {r:R PV} {x:Str} (h:strOk r=some x):r=some (.ok (.str x)):=match r,h with
  | some (.ok p),h=>by
    cases p with
    | str=>cases h;rfl
    | _=>exact nov h
  | some .exc,h=>nov h
  | none,h=>nov h
noncomputable def strsM (e:PV→R PV):List PV→Option (List Str)
  | []=>some []
  | v::r=>ask (strOk (e v)) fun x=>ask (strsM e r) fun xs=>some (x::xs)
noncomputable def callable (K:Frag):PV→Bool
  | .glob (.ref a)=>keepIn K (.ref a)
  | .glob (.builtin _)=>true
  | .glob (.type _)=>true
  | _=>false
noncomputable def notStar:PySem.Expr→Bool
  | .Starred ..=>false
  | _=>true
noncomputable def kwNamed:PySem.Keyword→Bool
  | ⟨some _,_,_⟩=>true
  | _=>false
noncomputable def notSuper:PySem.Expr→Bool
  | .Call (.Name id _) [] [] _=>id != Str.ofString "super"
  | _=>true
set_option genCtorIdx false in
inductive EK:Expr→Type where
  | cst c k p:EK (.Constant c k p)
  | nm x p:EK (.Name x p)
  | bool op vs p:EK (.BoolOp op vs p)
  | bin l op r p:EK (.BinOp l op r p)
  | not x p:EK (.UnaryOp .Not x p)
  | neg x p:EK (.UnaryOp .USub x p)
  | ife t b o p:EK (.IfExp t b o p)
  | tup es k p:EK (.Tuple es k p)
  | lst es p:EK (.List es p)
  | fs a b r p:EK (.JoinedStr (a::b::r) p)
  | cmp l op r p:EK (.Compare l [op] [r] p)
  | slc v l u q p:EK (.Subscript v (.Slice l u .none q) p)
  | idx v i p:EK (.Subscript v i p)
  | att v a p:EK (.Attribute v a p)
  | gen f fp elt x xp it sc gp p:EK (.Call (.Name f fp) [.GeneratorExp elt [⟨.Name x xp,it,[],0⟩] sc gp] [] p)
  | mth o m ap args kws p:EK (.Call (.Attribute o m ap) args kws p)
  | fn f fp args kws p:EK (.Call (.Name f fp) args kws p)
  | rep o m ap y ky py z kz pz p:EK (.Call (.Attribute o m ap) [.Constant (.str y) ky py,.Constant (.str z) kz pz] [] p)
  | jg s ks ps m ap elt x xp it sc gp p:EK (.Call (.Attribute (.Constant (.str s) ks ps) m ap) [.GeneratorExp elt [⟨.Name x xp,it,[],0⟩] sc gp] [] p)
  | other e:EK e
noncomputable def kUn (op:UnaryOp) (x:Expr) (p:Pos):EK (.UnaryOp op x p):=match op with
  | .Not=>.not x p
  | .USub=>.neg x p
  | _=>.other _
noncomputable def kFs (l:List Expr) (p:Pos):EK (.JoinedStr l p):=match l with
  | a::b::r=>.fs a b r p
  | _=>.other _
noncomputable def kCmp (l:Expr) (ops:List CmpOp) (rs:List Expr) (p:Pos):EK (.Compare l ops rs p):=match ops with
  | [op]=>(match rs with | [r]=>.cmp l op r p | _=>.other _)
  | _=>.other _
noncomputable def kSub (v i:Expr) (p:Pos):EK (.Subscript v i p):=match i with
  | .Slice l u s q=>(match s with | .none=>.slc v l u q p | .some _=>.other _)
  | i=>.idx v i p
set_option genCtorIdx false in
inductive CK:List Comprehension→Type where
  | one x xp it ifs:CK [⟨.Name x xp,it,ifs,0⟩]
  | other gs:CK gs
noncomputable def kClause1 (t it:Expr) (ifs:List Expr):CK [⟨t,it,ifs,0⟩]:=match t with
  | .Name x xp=>.one x xp it ifs
  | _=>.other _
noncomputable def kClause (gs:List Comprehension):CK gs:=match gs with
  | [⟨t,it,ifs,a⟩]=>(match a with | 0=>kClause1 t it ifs | _=>.other _)
  | _=>.other _
noncomputable def kGen1 (f:Str) (fp:Pos) (elt:Expr) (gs:List Comprehension) (sc:Scope) (gp p:Pos) (k:CK gs):EK (.Call (.Name f fp) [.GeneratorExp elt gs sc gp] [] p):=match k with
  | .one x xp it ifs=>(match ifs with | []=>.gen f fp elt x xp it sc gp p | _=>.other _)
  | .other _=>.other _
noncomputable def kGen (f:Str) (fp:Pos) (a:Expr) (kws:List Keyword) (p:Pos):EK (.Call (.Name f fp) [a] kws p):=match a with
  | .GeneratorExp elt gs sc gp=>(match kws with | []=>kGen1 f fp elt gs sc gp p (kClause gs) | _=>.other _)
  | a=>.fn f fp [a] kws p
noncomputable def kRep2 (o:Expr) (m:Str) (ap:Pos) (y:Str) (ky:Nat) (py:Pos) (c:Const) (k:Nat) (q p:Pos):EK (.Call (.Attribute o m ap) [.Constant (.str y) ky py,.Constant c k q] [] p):=match c with
  | .str z=>.rep o m ap y ky py z k q p
  | c=>.mth o m ap [.Constant (.str y) ky py,.Constant c k q] [] p
noncomputable def kRep1 (o:Expr) (m:Str) (ap:Pos) (c:Const) (k:Nat) (q:Pos) (b:Expr) (p:Pos):EK (.Call (.Attribute o m ap) [.Constant c k q,b] [] p):=match c with
  | .str y=>(match b with
    | .Constant c2 k2 q2=>kRep2 o m ap y k q c2 k2 q2 p
    | b=>.mth o m ap [.Constant (.str y) k q,b] [] p)
  | c=>.mth o m ap [.Constant c k q,b] [] p
noncomputable def kRep (o:Expr) (m:Str) (ap:Pos) (a b:Expr) (p:Pos):EK (.Call (.Attribute o m ap) [a,b] [] p):=match a with
  | .Constant c k q=>kRep1 o m ap c k q b p
  | a=>.mth o m ap [a,b] [] p
noncomputable def kJg2 (s:Str) (ks:Nat) (ps:Pos) (m:Str) (ap:Pos) (elt:Expr) (gs:List Comprehension) (sc:Scope) (gp p:Pos) (k:CK gs):EK (.Call (.Attribute (.Constant (.str s) ks ps) m ap) [.GeneratorExp elt gs sc gp] [] p):=match k with
  | .one x xp it ifs=>(match ifs with | []=>.jg s ks ps m ap elt x xp it sc gp p | _=>.other _)
  | .other _=>.other _
noncomputable def kJg1 (c:Const) (ks:Nat) (ps:Pos) (m:Str) (ap:Pos) (elt:Expr) (gs:List Comprehension) (sc:Scope) (gp p:Pos):EK (.Call (.Attribute (.Constant c ks ps) m ap) [.GeneratorExp elt gs sc gp] [] p):=match c with
  | .str s=>kJg2 s ks ps m ap elt gs sc gp p (kClause gs)
  | _=>.other _
noncomputable def kJg (o:Expr) (m:Str) (ap:Pos) (elt:Expr) (gs:List Comprehension) (sc:Scope) (gp p:Pos):EK (.Call (.Attribute o m ap) [.GeneratorExp elt gs sc gp] [] p):=match o with
  | .Constant c ks ps=>kJg1 c ks ps m ap elt gs sc gp p
  | _=>.other _
noncomputable def kMth1 (o:Expr) (m:Str) (ap:Pos) (a:Expr) (p:Pos):EK (.Call (.Attribute o m ap) [a] [] p):=match a with
  | .GeneratorExp elt gs sc gp=>kJg o m ap elt gs sc gp p
  | a=>.mth o m ap [a] [] p
noncomputable def kMth (o:Expr) (m:Str) (ap:Pos) (args:List Expr) (kws:List Keyword) (p:Pos):EK (.Call (.Attribute o m ap) args kws p):=match kws with
  | []=>(match args with
    | [a]=>kMth1 o m ap a p
    | [a,b]=>kRep o m ap a b p
    | args=>.mth o m ap args [] p)
  | kws=>.mth o m ap args kws p
noncomputable def kCall (f:Expr) (args:List Expr) (kws:List Keyword) (p:Pos):EK (.Call f args kws p):=match f with
  | .Name x fp=>(match args with
    | [a]=>kGen x fp a kws p
    | args=>.fn x fp args kws p)
  | .Attribute o m ap=>kMth o m ap args kws p
  | _=>.other _
noncomputable def kindE (e:Expr):EK e:=match e with
  | .Constant c k p=>.cst c k p
  | .Name x p=>.nm x p
  | .BoolOp op vs p=>.bool op vs p
  | .BinOp l op r p=>.bin l op r p
  | .UnaryOp op x p=>kUn op x p
  | .IfExp t b o p=>.ife t b o p
  | .Tuple es k p=>.tup es k p
  | .List es p=>.lst es p
  | .JoinedStr l p=>kFs l p
  | .Compare l ops rs p=>kCmp l ops rs p
  | .Subscript v i p=>kSub v i p
  | .Attribute v a p=>.att v a p
  | .Call f args kws p=>kCall f args kws p
  | e=>.other e
noncomputable def valK {e:Expr} (k:EK e):Bool:=by
  induction k with
  | bool=>exact false
  | not=>exact false
  | ife=>exact false
  | cmp=>exact false
  | other _=>exact false
  | _=>exact true
structure FnV (e:Expr) where
  f:Str
  args:List Expr
  kws:List Keyword
  h:∃ fp pos,e=.Call (.Name f fp) args kws pos
noncomputable def fnK {e:Expr} (k:EK e):Option (FnV e):=by
  induction k with
  | fn f fp args kws p=>exact some ⟨f,args,kws,fp,p,rfl⟩
  | _=>exact none
structure NmV (e:Expr) where
  x:Str
  h:∃ p,e=.Name x p
noncomputable def nmK {e:Expr} (k:EK e):Option (NmV e):=by
  induction k with
  | nm x p=>exact some ⟨x,p,rfl⟩
  | _=>exact none
structure CsV (e:Expr) where
  c:Const
  h:∃ k p,e=.Constant c k p
noncomputable def csK {e:Expr} (k:EK e):Option (CsV e):=by
  induction k with
  | cst c k p=>exact some ⟨c,k,p,rfl⟩
  | _=>exact none
set_option genCtorIdx false in
inductive PK:Expr→Type where
  | con x k p:PK (.Constant (.str x) k p)
  | fv e c p:PK (.FormattedValue e c .none p)
  | other e:PK e
noncomputable def kCon (c:Const) (k:Nat) (p:Pos):PK (.Constant c k p):=match c with
  | .str x=>.con x k p
  | _=>.other _
noncomputable def kFv (e:Expr) (c:Int) (f:Option Expr) (p:Pos):PK (.FormattedValue e c f p):=match f with
  | .none=>.fv e c p
  | .some _=>.other _
noncomputable def kindP (e:Expr):PK e:=match e with
  | .Constant c k p=>kCon c k p
  | .FormattedValue e c f p=>kFv e c f p
  | e=>.other e
structure AtV (e:Expr) where
  o:Expr
  m:Str
  h:∃ p,e=.Attribute o m p
noncomputable def atK {e:Expr} (k:EK e):Option (AtV e):=by
  induction k with
  | att o m p=>exact some ⟨o,m,p,rfl⟩
  | _=>exact none
set_option genCtorIdx false in
inductive YK:FuncBody→Type where
  | mk es kx tp yp pos:YK (.stmts [.Expr (.YieldFrom (.Tuple es kx tp) yp) pos])
  | other b:YK b
noncomputable def kYf3 (v:Expr) (yp pos:Pos):YK (.stmts [.Expr (.YieldFrom v yp) pos]):=match v with
  | .Tuple es kx tp=>.mk es kx tp yp pos
  | _=>.other _
noncomputable def kYf2 (e:Expr) (pos:Pos):YK (.stmts [.Expr e pos]):=match e with
  | .YieldFrom v yp=>kYf3 v yp pos
  | _=>.other _
noncomputable def kYf1 (t:Stmt):YK (.stmts [t]):=match t with
  | .Expr e pos=>kYf2 e pos
  | _=>.other _
noncomputable def kYf (b:FuncBody):YK b:=match b with
  | .stmts ss=>(match ss with | [t]=>kYf1 t | _=>.other _)
  | _=>.other _
noncomputable def isAttr (self m:Str) (e:Expr):Bool:=match atK (kindE e) with
  | some v=>v.m==m&&(match nmK (kindE v.o) with | some u=>u.x==self | none=>false)
  | none=>false
noncomputable def partNs:List Str:=[Str.ofString "major",Str.ofString "minor",Str.ofString "patch",Str.ofString "prerelease",Str.ofString "build"]
noncomputable def attrs (self:Str):List Str→List Expr→Bool
  | [],es=>es.isEmpty
  | m::ms,es=>(match es with | e::r=>isAttr self m e&&attrs self ms r | []=>false)
noncomputable def yfOk {b:FuncBody} (self:Str) (k:YK b):Bool:=match k with
  | .mk es ..=>attrs self partNs es
  | .other _=>false
noncomputable def iterFd (K:Frag) (D f:Addr) (fd:FuncData) (ps:List Str):Bool:=match ps with
  | [self]=>!fd.scope.isCoroutine&&fd.scope.isGenerator&&codeIn K fd.code fd.qualname&&fd.globals==mainGlobals&&fd.builtins==builtinsNs&&fd.closure.isEmpty&&fd.scope.kind==.function&&fd.defaults==.none &&
      (fd.scope.names.all fun p=>p.2 != .cell)&&isFn K (.ref f)&&(fd.scope.names.lookup self==some .local&&self != Str.ofString "__debug__")&&yfOk self (kYf fd.body) &&
      partNs.all (dataIn K D)&&findIn K (.ref D) (Str.ofString "__len__")==some none&&findIn K (.ref D) (Str.ofString "__length_hint__")==some none
  | _=>false
noncomputable def iterOk (K:Frag) (D f:Addr):Bool:=match funOf K f with
  | some fd=>(match paramsOf fd.params with
    | some ps=>iterFd K D f fd ps
    | none=>false)
  | none=>false
inductive BK where
  | len | abs | isi | str | int | tup | lst | other
noncomputable def kindB:PySem.Value→BK
  | .builtin s=>if s=="len" then .len else if s=="abs" then .abs else if s=="isinstance" then .isi else .other
  | .type s=>if s=="str" then .str else if s=="int" then .int else if s=="tuple" then .tup else if s=="list" then .lst else .other
  | _=>.other
noncomputable def iterV (fs:List (Str×PV)):List Str→Option (List PV)
  | []=>some []
  | m::ms=>ask (fs.lookup m) fun a=>grd (handedPV a) (ask (iterV fs ms) fun l=>some (a::l))
noncomputable def iterI (K:Frag) (D:Addr) (fs:List (Str×PV)):R PV:=
  ask (specOf K D (Str.ofString "__iter__")) fun f=>grd (iterOk K D f) (ask (iterV fs partNs) fun l=>rok (.list l))
noncomputable def lenE:PV→Option Nat
  | .list l=>some l.length
  | .str x=>some x.length
  | _=>none
noncomputable def strE (K:Frag) (C:CallSem) (st:Bool) (a:PV):R PV:=match a with
  | .int i=>grd (smallI i) (strR (Str.ofString (toString i)))
  | .inst D fs=>ask (specOf K D (Str.ofString "__str__")) fun f=>ask (strOk (C st f [.inst D fs] [])) fun x=>rok (.str x)
  | _=>none
noncomputable def intE (a:PV):R PV:=match a with
  | .int i=>rok (.int i)
  | .str x=>intOfText x
  | _=>none
noncomputable def tupE (a:PV):R PV:=match a with
  | .tup l=>rok (.tup l)
  | .list l=>rok (.tup l)
  | _=>none
noncomputable def lstE (K:Frag) (st:Bool) (a:PV):R PV:=match a with
  | .inst D fs=>grd (!st) (iterI K D fs)
  | _=>none
noncomputable def callB (K:Frag) (C:CallSem) (st:Bool) (fm:Fm) (v:PySem.Value) (args:List PV):R PV:=match kindB v with
  | .len=>ask (one args) fun a=>ask (lenE (deref fm a)) fun n=>rok (.int (n:Nat))
  | .abs=>ask (one args) fun a=>ask (asInt a) fun i=>rok (.int (if i < 0 then -i else i))
  | .isi=>ask (two args) fun q=>ask (asInst q.1) fun p=>ask (asRef q.2) fun E=>grd (isIn K (.ref p.1) E) (rok (.bool true))
  | .str=>ask (one args) (strE K C st)
  | .int=>ask (one args) intE
  | .tup=>ask (one args) tupE
  | .lst=>ask (one args) (lstE K st)
  | .other=>none
inductive SM where
  | join | split | splitM | isdigit | encode | lstrip | count
noncomputable def smName:SM→String
  | .join=>"join"
  | .split=>"split"
  | .splitM=>"split"
  | .isdigit=>"isdigit"
  | .encode=>"encode"
  | .lstrip=>"lstrip"
  | .count=>"count"
noncomputable def smOf (m:Str):Option SM:=[SM.join,.split,.isdigit,.encode,.lstrip,.count].find? fun k=>m==Str.ofString (smName k)
noncomputable def joinL' (x:Str) (l:List PV):R PV:=ask (strsOf l) fun ys=>grd (decide ((ys.map (·.length)).sum+ys.length≤100000)&&decide (x.length≤16)) (strR (PySem.Txt.join x ys))
noncomputable def joinE (x:Str) (a:PV):R PV:=match a with
  | .list l=>joinL' x l
  | .tup l=>joinL' x l
  | _=>none
noncomputable def splitE (x y:Str):R PV:=grd (!(y.length==0||decide (lenLine≤x.length+2))) (rok (.list ((PySem.Txt.split x y).map .str)))
noncomputable def splitME (x:Str) (q:PV×PV):R PV:=ask (asStr q.1) fun y=>ask (asInt q.2) fun k=>grd (k==1&&!(y.length==0||decide (lenLine≤x.length+2))) (rok (.list ((PySem.Txt.splitMax x y 1).map .str)))
noncomputable def encE (x y:Str):R PV:=grd (x.cps.toList.all (· < 128)&&y==Str.ofString "ascii") (rok .any)
noncomputable def smMeth (x:Str) (k:SM) (args:List PV):R PV:=match k with
  | .join=>ask (one args) (joinE x)
  | .split=>ask (one args) fun a=>ask (asStr a) (splitE x)
  | .splitM=>ask (two args) (splitME x)
  | .isdigit=>grd args.isEmpty (rok (.bool (PySem.Txt.isdigit x)))
  | .encode=>ask (one args) fun a=>ask (asStr a) (encE x)
  | .lstrip=>ask (one args) fun a=>ask (asStr a) fun y=>strR (PySem.Txt.lstripChars x y)
  | .count=>ask (one args) fun a=>ask (asStr a) fun y=>rok (.int (PySem.Txt.count x y))
noncomputable def smArg (k:SM) (args:List PV):SM:=match k with
  | .split=>bif args.length==2 then .splitM else .split
  | k=>k
inductive Tgt where
  | str (x:Str) (k:SM)
  | plain (f D:Addr) (fs:List (Str×PV))
  | ownPlain (f D:Addr) (fs:List (Str×PV))
  | cm (D f:Addr)
  | pat (k:PatK)
  | mat (gs:List (Option Str)) (e:Nat) (b:Bool)
noncomputable def mmName:Bool→String
  | true=>"groups"
  | false=>"end"
noncomputable def mmOf (m:Str):Option Bool:=[true,false].find? fun b=>m==Str.ofString (mmName b)
noncomputable def methT (own:Bool) (D:Addr) (fs:List (Str×PV)) (t:Meth):Tgt:=match t with
  | .plain f=>(match own with | true=>.ownPlain f D fs | false=>.plain f D fs)
  | .ofCls _ f=>.cm D f
noncomputable def instTgt (K:Frag) (own:Bool) (D:Addr) (fs:List (Str×PV)) (m:Str):Option Tgt:=grd (fs.lookup m).isNone (ask (methOf K D m) fun t=>some (methT own D fs t))
noncomputable def moInst (mo:Option MO):Option (Addr×List (Str×PV)):=ask mo fun o=>match o with
  | .inst D fs=>some (D,fs)
  | .list _=>none
noncomputable def refTgt (K:Frag) (m:Str) (a:Addr):Option Tgt:=match patOf a with
  | some k=>grd (m==Str.ofString (patName k)) (some (.pat k))
  | none=>ask (cmethOf K a m) fun q=>some (.cm a q.2)
noncomputable def tgtOf (K:Frag) (fm:Fm) (o:PV) (m:Str):Option Tgt:=match o with
  | .str x=>ask (smOf m) fun k=>some (.str x k)
  | .inst D fs=>instTgt K false D fs m
  | .own=>ask (moInst fm.mu) fun q=>instTgt K true q.1 q.2 m
  | .glob v=>ask (asRef (.glob v)) (refTgt K m)
  | .mat gs e=>ask (mmOf m) fun b=>some (.mat gs e b)
  | _=>none
noncomputable def matPV (x:Str):Option (List (Option Str))→PV
  | some gs=>.mat gs x.length
  | none=>.none
noncomputable def patE (x:Str):R PV:=grd (!x.cps.toList.contains 10) (rok (matPV x (m3 x.cps.toList)))
noncomputable def mat1:Option Nat→PV
  | some e=>.mat [] e
  | none=>.none
noncomputable def subE (q:PV×PV):R PV:=ask (asStr q.1) fun y=>ask (asStr q.2) fun x=>grd (y==Str.ofString "-"&&decide (x.length≤100000)) (rok (.str ⟨(sub2 x.cps.toList).toArray⟩))
noncomputable def patR (k:PatK) (args:List PV):R PV:=match k with
  | .p1=>ask (one args) fun a=>ask (asStr a) fun x=>rok (mat1 (m1 x.cps.toList))
  | .p2=>ask (two args) subE
  | .p3=>ask (one args) fun a=>ask (asStr a) patE
noncomputable def matE (gs:List (Option Str)) (e:Nat):Bool→PV
  | true=>.tup (gs.map grpPV)
  | false=>.int (e:Nat)
noncomputable def runT (C:CallSem) (st:Bool) (_m:Str) (t:Tgt) (args:List PV) (kw:List (Str×PV)):R PV:=match t with
  | .str x k=>grd kw.isEmpty (smMeth x (smArg k args) args)
  | .plain f D fs=>C st f (.inst D fs::args) kw
  | .ownPlain f D fs=>rbind (C st f (.inst D fs::args) kw) fun v=>grd (!hasInst D v) (rok v)
  | .cm D f=>C st f (.glob (.ref D)::args) kw
  | .pat k=>grd kw.isEmpty (patR k args)
  | .mat gs e b=>grd (kw.isEmpty&&args.isEmpty) (rok (matE gs e b))
noncomputable def boolR (o:Option Bool):R PV:=ask o fun p=>rok (.bool p)
noncomputable def isNoneV:PV→Bool
  | .none=>true
  | _=>false
noncomputable def instCmp (K:Frag) (C:CallSem) (st:Bool) (nm:Str) (D:Addr) (fs:List (Str×PV)) (b:PV):R PV:=
  ask (asInst b) fun q=>grd (D==q.1) (ask (specOf K D nm) fun f=>rbind (C st f [.inst D fs,b] []) fun v=>boolR (asBool v))
noncomputable def eqE (K:Frag) (C:CallSem) (st:Bool) (nm:Str) (g:Bool→Bool) (a b:PV):R PV:=match asInst a with
  | some q=>instCmp K C st nm q.1 q.2 b
  | none=>boolR ((eqv a b).map g)
noncomputable def isE (a b:PV):Option Bool:=grd (isNoneV b) (isNone a)
noncomputable def cmpE (K:Frag) (C:CallSem) (st:Bool) (op:PySem.CmpOp) (a b:PV):R PV:=match op with
  | .Eq=>eqE K C st (Str.ofString "__eq__") id a b
  | .NotEq=>eqE K C st (Str.ofString "__ne__") not a b
  | .Lt=>ask (asInt a) fun i=>ask (asInt b) fun j=>rok (.bool (decide (i < j)))
  | .Gt=>ask (asInt a) fun i=>ask (asInt b) fun j=>rok (.bool (decide (i > j)))
  | .Is=>boolR (isE a b)
  | .IsNot=>boolR ((isE a b).map not)
  | .In=>boolR (inE a b)
  | _=>none
structure Ev where
  E:Bool→Fm→Expr→R PV
  BE:Bool→Fm→BoolOp→List Expr→R PV
  T:Bool→Fm→Expr→R Bool
  TS:Bool→Fm→BoolOp→List Expr→R Bool
  O:Bool→Fm→Option Expr→R (Option PV)
  ES:Bool→Fm→List Expr→R (List PV)
  KS:Bool→Fm→List Keyword→R (List (Str×PV))
  PS:Bool→Fm→List Expr→R (List Str)
  IT:Bool→Fm→Expr→R (List PV)
noncomputable def ev0:Ev:=⟨fun Z Z Z=>none,fun Z Z Z Z=>none,fun Z Z Z=>none,fun Z Z Z Z=>none,fun Z Z Z=>none,fun Z Z Z=>none,fun Z Z Z=>none,fun Z Z Z=>none,fun Z Z Z=>none⟩
noncomputable def genFm (sc:Scope) (x:Str) (v:PV):Fm:={ scope:=sc,loc:=[(x,v)],cel:=[],mu:=none }
noncomputable def truthR (v:PV):R Bool:=optR (truth v)
noncomputable def negR (v:PV):R PV:=ask (asInt v) fun i=>rok (.int (-i))
noncomputable def notR (v:PV):R PV:=optR ((truth v).map fun b=>.bool (!b))
noncomputable def lined (mk:List PV→PV) (vs:List PV):R PV:=grd (vs.all solid&&decide (vs.length≤1000)) (rok (mk vs))
noncomputable def attR (K:Frag) (a:Str) (o:PV):R PV:=match o with
  | .inst D fs=>grd (dataIn K D a) (ask (fs.lookup a) fun w=>grd (handedPV w) (rok w))
  | _=>none
noncomputable def isTyp (t:String) (v:Option PV):Bool:=match v with
  | some (.glob (.type u))=>u==t
  | _=>false
noncomputable def allSolid (vs:List PV) (kw:List (Str×PV)):Bool:=vs.all solid&&kw.all fun p=>solid p.2
noncomputable def mthOk (o:Expr) (ap:Pos) (args:List Expr) (kws:List Keyword) (p:Pos):Bool:=notSuper o&&(ap.endLine==p.line)&&decide (args.length+kws.length < 20)&&args.all notStar&&kws.all kwNamed
noncomputable def genOk (K:Frag) (st:Bool) (fm:Fm) (f:Str) (sc:Scope) (x:Str) (it:Expr):Bool:=!st&&isTyp "tuple" (nameE K fm f)&&(genScope sc x&&plainIter it&&codeHere fm&&modIn K)
noncomputable def callR (K:Frag) (C:CallSem) (st:Bool) (fm:Fm) (fv:PV) (vs:List PV) (kw:List (Str×PV)):R PV:=match fv with
  | .glob v=>(match v with
    | .ref a=>grd (allSolid vs kw) (C st a vs kw)
    | v=>grd kw.isEmpty (callB K C st fm v vs))
  | _=>none
noncomputable def rangeV:PV→R (List PV)
  | .int i=>grd (decide (0≤i)&&decide (i≤1000)) (rok (rangeL i))
  | _=>none
noncomputable def itemsR (v:PV):R (List PV):=ask (itemsOf v) fun l=>grd (l.all simple) (rok l)
section
variable (K:Frag) (C:CallSem) (v:Ev) (st:Bool) (fm:Fm)
noncomputable def argsR {α:Type} (args:List Expr) (kws:List Keyword) (f:List PV→List (Str×PV)→R α):R α:=rbind (v.ES st fm args) fun vs=>rbind (v.KS st fm kws) fun kw=>f vs kw
noncomputable def mthR (o:Expr) (m:Str) (args:List Expr) (kws:List Keyword):R PV:=rbind (v.E st fm o) fun ov=>ask (tgtOf K fm ov m) fun t=>argsR v st fm args kws fun vs kw=>grd (allSolid vs kw) (runT C st m t vs kw)
noncomputable def fnR (f:Expr) (args:List Expr) (kws:List Keyword):R PV:=rbind (v.E st fm f) fun fv=>grd (callable K fv) (argsR v st fm args kws (callR K C st fm fv))
noncomputable def jgR (s:Str) (elt:Expr) (x:Str) (it:Expr) (sc:Scope):R PV:=rbind (v.IT st fm it) fun l=>ask (strsM (fun u=>v.E true (genFm sc x u) elt) l) fun ys=>grd (decide ((ys.map (·.length)).sum+ys.length≤100000)&&decide (s.length≤16)) (strR (PySem.Txt.join s ys))
noncomputable def repR (o:Expr) (y z:Str):R PV:=rbind (v.E st fm o) fun ov=>ask (asStr ov) fun x=>grd (y != z&&decide (x.length≤100000)&&decide (z.length≤10)) (strR (PySem.Txt.replace x y z))
noncomputable def genR (elt:Expr) (x:Str) (it:Expr) (sc:Scope):R PV:=rbind (v.IT st fm it) fun l=>grd (l.all fun u=>(okOf (v.E true (genFm sc x u) elt)).isSome) (rok .any)
noncomputable def cmpR (l:Expr) (op:CmpOp) (r:Expr):R PV:=rbind (v.E st fm l) fun a=>rbind (v.E st fm r) fun b=>cmpE K C st op a b
noncomputable def evalK {e:Expr} (k:EK e):R PV:=by
  induction k with
  | cst c _ _=>exact optR (constE c)
  | nm x _=>exact optR (nameE K fm x)
  | bool op vs _=>exact v.BE st fm op vs
  | bin l op r _=>exact rbind (v.E st fm l) fun a=>rbind (v.E st fm r) fun b=>binE fm op a b
  | not x _=>exact rbind (v.E st fm x) notR
  | neg x _=>exact rbind (v.E st fm x) negR
  | ife t b o _=>exact rbind (v.T st fm t) fun p=>v.E st fm (bif p then b else o)
  | tup es _ _=>exact rbind (v.ES st fm es) (lined .tup)
  | lst es _=>exact rbind (v.ES st fm es) (lined .list)
  | fs a b r _=>exact grd (decide (r.length≤8)) (rbind (v.PS st fm (a::b::r)) joinR)
  | cmp l op r _=>exact grd (!behindInMarks op r) (cmpR K C v st fm l op r)
  | slc x l u _ _=>exact rbind (v.E st fm x) fun o=>rbind (v.O st fm l) fun a=>rbind (v.O st fm u) fun b=>sliceE fm o a b
  | idx x i _=>exact rbind (v.E st fm x) fun o=>rbind (v.E st fm i) fun k=>idxE fm o k
  | att x a _=>exact grd (notSuper x) (rbind (v.E st fm x) (attR K a))
  | gen f _ elt x _ it sc _ _=>exact grd (genOk K st fm f sc x it) (genR v st fm elt x it sc)
  | mth o m ap args kws p=>exact grd (mthOk o ap args kws p) (mthR K C v st fm o m args kws)
  | fn f fp args kws _=>exact grd (args.all notStar&&kws.all kwNamed) (fnR K C v st fm (.Name f fp) args kws)
  | rep o m ap y ky py z kz pz p=>exact grd (m==Str.ofString "replace"&&mthOk o ap [.Constant (.str y) ky py,.Constant (.str z) kz pz] [] p&&(!st&&fm.tk)) (repR v st fm o y z)
  | jg s _ _ m ap elt x _ it sc _ p=>exact grd (m==Str.ofString "join"&&(ap.endLine==p.line)&&!st&&(genScope sc x&&plainIter it&&codeHere fm&&modIn K)) (jgR v st fm s elt x it sc)
  | other _=>exact none
noncomputable def stopB:BoolOp→Bool
  | .And=>false
  | .Or=>true
noncomputable def boolK (op:BoolOp) (es:List Expr):R PV:=match es with
  | []=>none
  | [e]=>v.E st fm e
  | e::e2::r=>rbind (v.E st fm e) fun u=>ask (truth u) fun b=>bif b==stopB op then rok u else v.BE st fm op (e2::r)
noncomputable def cmpT (l:Expr) (op:CmpOp) (r:Expr):R Bool:=grd (!behindInMarks op r) (rbind (v.E st fm l) fun a=>rbind (v.E st fm r) fun b=>rbind (cmpE K C st op a b) truthR)
noncomputable def testK {e:Expr} (k:EK e):R Bool:=by
  induction k with
  | not x _=>exact rbind (v.T st fm x) fun p=>rok (!p)
  | bool op vs _=>exact v.TS st fm op vs
  | cmp l op r _=>exact cmpT K C v st fm l op r
  | _=>exact none
noncomputable def testsK (op:BoolOp) (es:List Expr):R Bool:=match es with
  | []=>rok (!stopB op)
  | e::r=>rbind (v.T st fm e) fun p=>bif p==stopB op then rok p else v.TS st fm op r
noncomputable def evalsK (es:List Expr):R (List PV):=match es with
  | []=>rok []
  | e::r=>grd (notStar e) (rbind (v.E st fm e) fun u=>rbind (v.ES st fm r) fun vs=>rok (u::vs))
noncomputable def kwsK (es:List Keyword):R (List (Str×PV)):=match es with
  | []=>rok []
  | ⟨k,e,_⟩::r=>ask k fun k=>rbind (v.E st fm e) fun u=>rbind (v.KS st fm r) fun vs=>rok ((k,u)::vs)
noncomputable def partK (r:List Expr) {e:Expr} (k:PK e):R (List Str):=match k with
  | .con x _ _=>grd (decide (x.length≤1000)) (rbind (v.PS st fm r) fun l=>rok (x::l))
  | .fv e c _=>grd (c==115) (rbind (v.E st fm e) fun u=>ask (asStr u) fun x=>grd (decide (x.length≤100000)) (rbind (v.PS st fm r) fun l=>rok (x::l)))
  | .other _=>none
noncomputable def partsK (es:List Expr):R (List Str):=match es with
  | []=>rok []
  | e::r=>partK v st fm r (kindP e)
noncomputable def iterK (e:Expr):R (List PV):=match fnK (kindE e) with
  | some q=>grd (isTyp "range" (nameE K fm q.f)&&q.kws.isEmpty&&q.args.all notStar) (rbind (v.ES st fm q.args) fun vs=>match vs with
    | [a]=>rangeV a
    | _=>none)
  | none=>rbind (v.E st fm e) itemsR
end
noncomputable def EvN (K:Frag) (C:CallSem):Nat→Ev
  | 0=>ev0
  | n+1=>{
    E:=fun st fm e=>evalK K C (EvN K C n) st fm (kindE e)
    BE:=fun st fm op es=>boolK (EvN K C n) st fm op es
    T:=fun st fm e=>match valK (kindE e) with
      | true=>rbind ((EvN K C n).E st fm e) truthR
      | false=>testK K C (EvN K C n) st fm (kindE e)
    TS:=fun st fm op es=>testsK (EvN K C n) st fm op es
    O:=fun st fm o=>match o with
      | .none=>rok .none
      | .some e=>rbind ((EvN K C n).E st fm e) fun v=>rok (.some v)
    ES:=fun st fm es=>evalsK (EvN K C n) st fm es
    KS:=fun st fm es=>kwsK (EvN K C n) st fm es
    PS:=fun st fm es=>partsK (EvN K C n) st fm es
    IT:=fun st fm e=>iterK K (EvN K C n) st fm e }
section
variable (K:Frag) (C:CallSem) (n:Nat) (st:Bool) (fm:Fm)
noncomputable abbrev evalE (e:Expr):=(EvN K C n).E st fm e
noncomputable abbrev boolEs (op:BoolOp) (e:List Expr):=(EvN K C n).BE st fm op e
noncomputable abbrev testE (e:Expr):=(EvN K C n).T st fm e
noncomputable abbrev testEs (op:BoolOp) (e:List Expr):=(EvN K C n).TS st fm op e
noncomputable abbrev evalO (e:Option Expr):=(EvN K C n).O st fm e
noncomputable abbrev evalEs (e:List Expr):=(EvN K C n).ES st fm e
noncomputable abbrev evalKs (e:List Keyword):=(EvN K C n).KS st fm e
noncomputable abbrev partsE (e:List Expr):=(EvN K C n).PS st fm e
noncomputable abbrev iterE (e:Expr):=(EvN K C n).IT st fm e
end
noncomputable def setN (fm:Fm) (x:PySem.Str) (v:PV):Option Fm:=match fm.scope.names.lookup x with
  | some .local=>some { fm with loc:=put x v fm.loc }
  | some .cell=>grd (solid v) (some { fm with cel:=put x v fm.cel })
  | _=>none
noncomputable def setNs (fm:Fm):List Str→List PV→Option Fm
  | [],vs=>grd vs.isEmpty (some fm)
  | x::r,vs=>ask vs.head? fun v=>ask (setN fm x v) fun fm'=>setNs fm' r vs.tail
noncomputable def tgtNames:List Expr→Option (List Str)
  | []=>some []
  | e::r=>ask (nmK (kindE e)) fun q=>ask (tgtNames r) fun xs=>some (q.x::xs)
noncomputable def sw1 (sc:Scope) (ts vs:List Expr):Bool:=!(ts.length==2||ts.length==3)||vs.length != ts.length||(if sc.kind.isAnnotationScope then ScopeKind.function else sc.kind) != .function
set_option backward.match.sparseCases true in
noncomputable def sw2 (vs:List Expr):Bool:=vs.any fun | .Starred ..=>true | _=>false
set_option backward.match.sparseCases true in
noncomputable def swN (sc:Scope) (ts:List Expr):List Str:=ts.filterMap fun
  | .Name id pos=>if sc.names.lookup id==some .local&&pos.line==(ts.head?.map (·.pos.line)).getD 0 then some id else none
  | _=>none
noncomputable def sw4 (ts:List Expr) (names:List Str):Bool:=names.length != ts.length||names.eraseDups.length != names.length
noncomputable def swapV (names:List Str) (b1 b2 b4 b5 b6:Bool):Option (Option (List Str)):=match b1 with
  | true=>some none
  | false=>match b2 with
    | true=>none
    | false=>match b4 with
      | true=>some none
      | false=>match b5 with
        | true=>some none
        | false=>match b6 with
          | true=>none
          | false=>some (some names)
noncomputable def swapT (sc:Scope) (ts:List Expr) (e:Expr):Option (Option (List Str)):=match e with
  | .Tuple vs _ _=>swapV (swN sc ts) (sw1 sc ts vs) (sw2 vs) (sw4 ts (swN sc ts)) (vs.all (foldedForSure 8)) (vs.all (constantsAlone 8))
  | _=>some none
noncomputable def setT (fm:Fm) (ts:List Expr) (o:Option (List Str)) (vs:List PV):Option Fm:=match o with
  | some ns=>setNs fm ns.reverse vs.reverse
  | none=>ask (tgtNames ts) fun ns=>setNs fm ns vs
noncomputable def notComp:PySem.Expr→Bool
  | .ListComp ..=>false
  | .SetComp ..=>false
  | .DictComp ..=>false
  | _=>true
noncomputable def sbind {α:Type} (x:R α) (fm:Fm) (f:α→S):S:=match x with
  | none=>none
  | some .exc=>some (.ex fm)
  | some (.ok a)=>f a
noncomputable def nx (o:Option Fm):S:=match o with | some f=>some (.nx f) | none=>none
set_option genCtorIdx false in
inductive SK:Stmt→Type where
  | nil x px pl q:SK (.Assign [.Name x px] (.List [] pl) q)
  | pair x px y py kx pt pl e ke pe q:SK (.Assign [.Tuple [.Name x px,.Name y py] kx pt] (.Tuple [.List [] pl,e] ke pe) q)
  | asg x px e q:SK (.Assign [.Name x px] e q)
  | tup ts k p e q:SK (.Assign [.Tuple ts k p] e q)
  | att x px a pa e q:SK (.Assign [.Attribute (.Name x px) a pa] e q)
  | ife t b o p:SK (.If t b o p)
  | for x px it b p:SK (.For (.Name x px) it b [] p)
  | ret0 p:SK (.Return .none p)
  | ret e p:SK (.Return (.some e) p)
  | raise x px e p q:SK (.Raise (some (.Call (.Name x px) [e] [] p)) .none q)
  | try b x px hb p q:SK (.Try b [.ExceptHandler (some (.Name x px)) .none hb p] [] [] q)
  | aug x px e q:SK (.AugAssign (.Name x px) .Add e q)
  | wh l op c k q r b p:SK (.While (.Compare l [op] [.Constant (.int c) k q] r) b [] p)
  | app x p m q e r pos:SK (.Expr (.Call (.Attribute (.Name x p) m q) [e] [] r) pos)
  | expr e p:SK (.Expr e p)
  | other s:SK s
noncomputable def kAsgN (x:Str) (px:Pos) (e:Expr) (q:Pos):SK (.Assign [.Name x px] e q):=match e with
  | .List es pl=>(match es with | []=>.nil x px pl q | a::r=>.asg x px (.List (a::r) pl) q)
  | e=>.asg x px e q
set_option genCtorIdx false in
inductive NK:List Expr→Type where
  | two x px y py:NK [.Name x px,.Name y py]
  | other ts:NK ts
noncomputable def kTwo1 (x:Str) (px:Pos) (u:Expr):NK [.Name x px,u]:=match u with
  | .Name y py=>.two x px y py
  | _=>.other _
noncomputable def kTwo2 (t u:Expr):NK [t,u]:=match t with
  | .Name x px=>kTwo1 x px u
  | _=>.other _
noncomputable def kTwo (ts:List Expr):NK ts:=match ts with
  | [t,u]=>kTwo2 t u
  | _=>.other _
set_option genCtorIdx false in
inductive LK:Expr→Type where
  | pr pl e ke pe:LK (.Tuple [.List [] pl,e] ke pe)
  | other e:LK e
noncomputable def kNil (a e2:Expr) (ke:Nat) (pe:Pos):LK (.Tuple [a,e2] ke pe):=match a with
  | .List l pl=>(match l with | []=>.pr pl e2 ke pe | _=>.other _)
  | _=>.other _
noncomputable def kPair (e:Expr):LK e:=match e with
  | .Tuple es ke pe=>(match es with
    | [a,e2]=>kNil a e2 ke pe
    | _=>.other _)
  | _=>.other _
noncomputable def kAsgT (ts:List Expr) (k:Nat) (p:Pos) (e:Expr) (q:Pos) (a:NK ts) (b:LK e):SK (.Assign [.Tuple ts k p] e q):=match a with
  | .two x px y py=>(match b with
    | .pr pl e2 ke pe=>.pair x px y py k p pl e2 ke pe q
    | .other e=>.tup _ k p e q)
  | .other ts=>.tup ts k p e q
noncomputable def kAsg (t:Expr) (e:Expr) (q:Pos):SK (.Assign [t] e q):=match t with
  | .Name x px=>kAsgN x px e q
  | .Tuple ts k p=>kAsgT ts k p e q (kTwo ts) (kPair e)
  | .Attribute o a pa=>(match o with | .Name x px=>.att x px a pa e q | _=>.other _)
  | _=>.other _
noncomputable def kFor (t it:Expr) (b o:List Stmt) (p:Pos):SK (.For t it b o p):=match t with
  | .Name x px=>(match o with | []=>.for x px it b p | _=>.other _)
  | _=>.other _
noncomputable def kRaise2 (f:Expr) (a:Expr) (p q:Pos):SK (.Raise (some (.Call f [a] [] p)) .none q):=match f with
  | .Name x px=>.raise x px a p q
  | _=>.other _
noncomputable def kRaise1 (e:Expr) (q:Pos):SK (.Raise (some e) .none q):=match e with
  | .Call f args kws p=>(match args with
    | [a]=>(match kws with | []=>kRaise2 f a p q | _=>.other _)
    | _=>.other _)
  | _=>.other _
noncomputable def kRaise (e c:Option Expr) (q:Pos):SK (.Raise e c q):=match c with
  | .none=>(match e with
    | .some e=>kRaise1 e q
    | .none=>.other _)
  | .some _=>.other _
noncomputable def kTry1 (b:List Stmt) (t:Expr) (hb:List Stmt) (p q:Pos):SK (.Try b [.ExceptHandler (some t) .none hb p] [] [] q):=match t with
  | .Name x px=>.try b x px hb p q
  | _=>.other _
noncomputable def kTry (b:List Stmt) (hs:List ExceptHandler) (o f:List Stmt) (q:Pos):SK (.Try b hs o f q):=match hs with
  | [.ExceptHandler t n hb p]=>(match o with
    | []=>(match f with
      | []=>(match t with
        | .some t=>(match n with
          | .none=>kTry1 b t hb p q
          | .some _=>.other _)
        | .none=>.other _)
      | _=>.other _)
    | _=>.other _)
  | _=>.other _
noncomputable def kApp2 (o:Expr) (m:Str) (q:Pos) (a:Expr) (r pos:Pos):SK (.Expr (.Call (.Attribute o m q) [a] [] r) pos):=match o with
  | .Name x p=>.app x p m q a r pos
  | _=>.expr _ pos
noncomputable def kApp1 (f:Expr) (a:Expr) (r pos:Pos):SK (.Expr (.Call f [a] [] r) pos):=match f with
  | .Attribute o m q=>kApp2 o m q a r pos
  | _=>.expr _ pos
noncomputable def kExpr (e:Expr) (pos:Pos):SK (.Expr e pos):=match e with
  | .Call f args kws r=>(match args with
    | [a]=>(match kws with | []=>kApp1 f a r pos | _=>.expr _ pos)
    | _=>.expr _ pos)
  | e=>.expr e pos
noncomputable def kAug2 (x:Str) (px:Pos) (op:Operator) (e:Expr) (q:Pos):SK (.AugAssign (.Name x px) op e q):=match op with
  | .Add=>.aug x px e q
  | _=>.other _
noncomputable def kAug (t:Expr) (op:Operator) (e:Expr) (q:Pos):SK (.AugAssign t op e q):=match t with
  | .Name x px=>kAug2 x px op e q
  | _=>.other _
noncomputable def kWh3 (l:Expr) (op:CmpOp) (c:Const) (k:Nat) (q r:Pos) (b:List Stmt) (p:Pos):SK (.While (.Compare l [op] [.Constant c k q] r) b [] p):=match c with
  | .int c=>.wh l op c k q r b p
  | _=>.other _
noncomputable def kWh2 (l:Expr) (op:CmpOp) (e:Expr) (r:Pos) (b:List Stmt) (p:Pos):SK (.While (.Compare l [op] [e] r) b [] p):=match e with
  | .Constant c k q=>kWh3 l op c k q r b p
  | _=>.other _
noncomputable def kWh (t:Expr) (b:List Stmt) (p:Pos):SK (.While t b [] p):=match t with
  | .Compare l ops es r=>(match ops with
    | [op]=>(match es with | [e]=>kWh2 l op e r b p | _=>.other _)
    | _=>.other _)
  | _=>.other _
noncomputable def kindS (s:Stmt):SK s:=match s with
  | .AugAssign t op e q=>kAug t op e q
  | .While t b o p=>(match o with | []=>kWh t b p | _=>.other _)
  | .Assign ts e q=>(match ts with | [t]=>kAsg t e q | _=>.other _)
  | .If t b o p=>.ife t b o p
  | .For t it b o p=>kFor t it b o p
  | .Return e p=>(match e with | .none=>.ret0 p | .some e=>.ret e p)
  | .Raise e c q=>kRaise e c q
  | .Try b hs o f q=>kTry b hs o f q
  | .Expr e p=>kExpr e p
  | s=>.other s
noncomputable def constOf (e:Expr):Option PV:=ask (csK (kindE e)) fun q=>constE q.c
noncomputable def plainStep (fm:Fm) {s:Stmt} (k:SK s) (f:Fm→S):S:=by
  induction k with
  | asg x _ e _=>exact ask (constOf e) fun v=>ask (setN fm x v) f
  | ret e _=>exact ask (constOf e) fun v=>some (.rt v fm)
  | _=>exact none
noncomputable def plainB:Fm→List Stmt→S
  | fm,[]=>some (.nx fm)
  | fm,s::r=>plainStep fm (kindS s) fun f=>plainB f r
structure Ex where
  X:Bool→Fm→Stmt→S
  XS:Bool→Fm→List Stmt→S
  FO:Bool→Fm→Str→List PV→List Stmt→S
noncomputable def isOwn:Option PV→Bool
  | some .own=>true
  | _=>false
noncomputable def thenS (r:SR) (f:Fm→S):S:=match r with
  | .nx g=>f g
  | r=>some r
noncomputable def augTo (fm:Fm) (x a:Str) (v:PV):S:=ask (asStr v) fun b=>grd (decide (a.length+b.length≤lenLine)) (nx (setN fm x (.str (a++b))))
noncomputable def noMu (fm:Fm):Bool:=fm.mu.isNone
noncomputable def muList (fm:Fm):Option (List PV):=match fm.mu with
  | some (.list l)=>some l
  | _=>none
noncomputable def muInst (fm:Fm):Option (Addr×List (Str×PV)):=match fm.mu with
  | some (.inst D fs)=>some (D,fs)
  | _=>none
noncomputable def tupVs (v:PV):Option (List PV):=match v with
  | .tup vs=>some vs
  | .list vs=>some vs
  | _=>none
noncomputable def setTv (fm:Fm) (ts:List Expr) (o:Option (List Str)) (v:PV):S:=ask (tupVs v) fun vs=>nx (setT fm ts o vs)
noncomputable def ownAttr (K:Frag) (fm:Fm) (x a:Str) (v:PV):S:=grd (isOwn (nameE K fm x)) (ask (muInst fm) fun q=>grd (solid v&&!hasInst q.1 v&&storeIn K q.1 a&&decide (q.2.length≤100)) (some (.nx { fm with mu:=some (.inst q.1 (put a v q.2)) })))
noncomputable def appTo (fm:Fm) (l:List PV) (v:PV):S:=grd (solid v) (some (.nx { fm with mu:=some (.list (l++[v])) }))
noncomputable def handled (K:Frag) (st:Bool) (x:Str) (hb:List Stmt) (f:Fm):S:=grd (isTyp "ValueError" (nameE K f x)&&!(st||hb.isEmpty)) (plainB f hb)
noncomputable def ownList (fm:Fm) (x:Str):S:=grd (noMu fm) (ask (setN fm x .own) fun f=>some (.nx { f with mu:=some (.list []) }))
noncomputable def newPair (fm:Fm) (x y:Str) (e:Expr) (v:PV):S:=grd (solid v&&notStar e) (ask (setN { fm with mu:=some (.list []) } y v) fun f=>nx (setN f x .own))
section
variable (K:Frag) (C:CallSem) (v:Ev) (X:Ex) (st:Bool) (fm:Fm)
noncomputable def execK {s:Stmt} (k:SK s):S:=by
  induction k with
  | nil x _ _ _=>exact bif mutNames.contains x then ownList fm x else nx (setN fm x (.list []))
  | pair x px y py _ _ pl e ke pe _=>exact ask (swapT fm.scope [.Name x px,.Name y py] (.Tuple [.List [] pl,e] ke pe)) fun o=>bif mutNames.contains x then grd (noMu fm&&o==some [x,y]) (sbind (v.E st fm e) fm (newPair fm x y e)) else sbind (v.E st fm (.Tuple [.List [] pl,e] ke pe)) fm (setTv fm [.Name x px,.Name y py] o)
  | asg x _ e _=>exact sbind (v.E st fm e) fm fun u=>nx (setN fm x u)
  | tup ts _ _ e _=>exact ask (swapT fm.scope ts e) fun o=>sbind (v.E st fm e) fm (setTv fm ts o)
  | att x _ a _ e _=>exact sbind (v.E st fm e) fm (ownAttr K fm x a)
  | ife t b o _=>exact sbind (v.T st fm t) fm fun p=>X.XS st fm (bif p then b else o)
  | «for» x _ it b _=>exact grd (plainIter it) (sbind (v.IT st fm it) fm fun l=>X.FO st fm x l b)
  | ret0 _=>exact some (.rt .none fm)
  | ret e _=>exact sbind (v.E st fm e) fm fun u=>some (.rt u fm)
  | raise x _ e _ _=>exact grd (isTyp "ValueError" (nameE K fm x)&&notStar e) (sbind (v.E st fm e) fm fun u=>grd (solid u) (some (.ex fm)))
  | «try» b x _ hb _ _=>exact ask (X.XS st fm b) fun r=>match r with | .ex f=>handled K st x hb f | r=>some r
  | app x p m q e r _=>exact bif isOwn (nameE K fm x) then ask (muList fm) fun l=>grd (m==Str.ofString "append"&&decide (l.length≤1000)&&(q.endLine==r.line)&&notStar e) (sbind (v.E st fm e) fm (appTo fm l)) else sbind (v.E st fm (.Call (.Attribute (.Name x p) m q) [e] [] r)) fm fun Z=>some (.nx fm)
  | aug x _ e _=>exact ask (nameE K fm x) fun a=>ask (asStr a) fun a=>sbind (v.E st fm e) fm (augTo fm x a)
  | wh l op c k q r b p=>exact sbind (cmpT K C v st fm l op (.Constant (.int c) k q)) fm fun c2=>bif c2 then ask (X.XS st fm b) fun q2=>thenS q2 fun f=>X.X st f (.While (.Compare l [op] [.Constant (.int c) k q] r) b [] p) else some (.nx { fm with tk:=true })
  | expr e _=>exact grd (notComp e) (sbind (v.E st fm e) fm fun Z=>some (.nx fm))
  | other _=>exact none
noncomputable def execsK (ss:List Stmt):S:=match ss with
  | []=>some (.nx fm)
  | s::r=>ask (X.X st fm s) fun q=>thenS q fun f=>X.XS st f r
noncomputable def forK (x:Str) (l:List PV) (b:List Stmt):S:=match l with
  | []=>some (.nx fm)
  | u::r=>ask (setN fm x u) fun f=>ask (X.XS st f b) fun q=>thenS q fun g=>X.FO st g x r b
end
noncomputable def ExN (K:Frag) (C:CallSem):Nat→Ex
  | 0=>⟨fun Z Z Z=>none,fun Z Z Z=>none,fun Z Z Z Z Z=>none⟩
  | n+1=>{
    X:=fun st fm s=>execK K C (EvN K C n) (ExN K C n) st fm (kindS s)
    XS:=fun st fm ss=>execsK (ExN K C n) st fm ss
    FO:=fun st fm x l b=>forK (ExN K C n) st fm x l b }
section
variable (K:Frag) (C:CallSem) (n:Nat) (st:Bool) (fm:Fm)
noncomputable abbrev execE (s:Stmt):=(ExN K C n).X st fm s
noncomputable abbrev execEs (s:List Stmt):=(ExN K C n).XS st fm s
noncomputable abbrev forE (x:Str) (l:List PV) (b:List Stmt):=(ExN K C n).FO st fm x l b
end
noncomputable def kwSlots {α:Type} (ps:List PySem.Str):List (PySem.Str×α)→List (PySem.Str×α)→Option (List (PySem.Str×α))
  | sl,[]=>some sl
  | sl,(k,v)::r=>grd (ps.contains k&&(sl.lookup k).isNone) (kwSlots ps (sl++[(k,v)]) r)
noncomputable def dfSlots {α:Type}:List (PySem.Str×α)→List (PySem.Str×α)→List (PySem.Str×α)
  | sl,[]=>sl
  | sl,(k,v)::r=>dfSlots (if (sl.lookup k).isNone then sl++[(k,v)] else sl) r
noncomputable def dfs {α:Type} (ps:List Str) (ds:List α):List α:=ds.drop (ds.length - ps.length)
noncomputable def bindPV {α:Type} (ps:List PySem.Str) (ds:List α) (args:List α) (kw:List (PySem.Str×α)):Option (List (PySem.Str×α)):=
  ask (kwSlots ps (ps.zip args) kw) fun sl=>grd (decide (args.length≤ps.length)&&((ps.take (ps.length - (dfs ps ds).length)).filter fun n=>(sl.lookup n).isNone).isEmpty) (some (ps.filterMap fun n=>((dfSlots sl ((ps.drop (ps.length - (dfs ps ds).length)).zip (dfs ps ds))).lookup n).map (n,·)))
noncomputable def dfltPV:PySem.Value→Option PV
  | .none=>some .none
  | .bool b=>some (.bool b)
  | .str x _=>grd (decide (x.length≤lenLine)) (some (.str x))
  | _=>none
noncomputable def defaultsOf (K:Frag) (v:PySem.Value):Option (List PV):=match v with
  | .none=>some []
  | .ref t=>ask (K.lookup t) fun o=>grd (o.cls==.type "tuple") (ask (seqV o.data) fun vs=>vs.toList.mapM dfltPV)
  | _=>none
noncomputable def frameOf (sc:PySem.Scope) (bs:List (PySem.Str×PV)) (mu:Option MO) (code:PySem.Value):Fm:=
  { code:=code,scope:=sc,loc:=bs.filter (fun p=>sc.names.lookup p.1==some .local),cel:=bs.filter (fun p=>sc.names.lookup p.1==some .cell&&solid p.2),mu:=mu }
noncomputable def retV (f:Fm) (v:PV):R PV:=match v with
  | .own=>ask (muList f) fun l=>rok (.list l)
  | v=>rok v
noncomputable def endOf (s:S):R PV:=ask s fun r=>match r with
  | .nx _=>rok .none
  | .ex _=>some .exc
  | .rt v f=>retV f v
noncomputable def fuel:Nat:=200
noncomputable def bodyV:FuncBody→Option (List Stmt)
  | .stmts b=>some b
  | _=>none
theorem bodyV_of {d:FuncBody} {b:List Stmt} (h:bodyV d=some b):d=.stmts b:=by induction d using PySem.FuncBody.casesOn<;>first | exact congrArg FuncBody.stmts (Option.some.inj h) | exact nov h
noncomputable def runFn (K:Frag) (C:CallSem) (st:Bool) (fd:PySem.FuncData) (args:List PV) (kw:List (PySem.Str×PV)) (mu:Option MO):S:=
  ask (paramsOf fd.params) fun ps=>ask (defaultsOf K fd.defaults) fun ds=>ask (bodyV fd.body) fun b=>ask (bindPV ps ds args kw) fun bs=>grd (!fd.scope.isGenerator&&(!fd.scope.isCoroutine&&parOk fd)) (execEs K C fuel st (frameOf fd.scope bs mu fd.code) b)
noncomputable def isExc {α:Type}:Res α→Bool
  | .exc=>true
  | _=>false
noncomputable def noExc (st:Bool) (x:R PV):R PV:=ask x fun r=>grd (!(st&&isExc r)) (some r)
noncomputable def madeR (a:Addr) (r:SR):R PV:=match r with
  | .nx fm=>ask (muInst fm) fun q=>grd (q.1==a) (rok (.inst a q.2))
  | .ex _=>some .exc
  | .rt ..=>none
noncomputable def initR (K:Frag) (C:CallSem) (st:Bool) (a:Addr) (args:List PV) (kw:List (PySem.Str×PV)) (v:Value):R PV:=match v with
  | .ref f=>ask (funOf K f) fun fd=>grd (fnOk K fd&&isFn K (.ref f)) (ask (runFn K C st fd (.own::args) kw (some (.inst a []))) (madeR a))
  | .builtin g=>grd (g=="object.__init__"&&(args.isEmpty&&kw.isEmpty)) (rok (.inst a []))
  | _=>none
noncomputable def clsR (K:Frag) (C:CallSem) (st:Bool) (a:Addr) (args:List PV) (kw:List (PySem.Str×PV)):R PV:=grd (makesIn K a) (ask (findIn K (.ref a) (Str.ofString "__init__")) fun o=>ask o (initR K C st a args kw))
noncomputable def callD (K:Frag) (C:CallSem) (st:Bool) (a:Addr) (args:List PV) (kw:List (PySem.Str×PV)) (d:Data):R PV:=match d with
  | .func fd=>grd (fnOk K fd) (endOf (runFn K C st fd args kw none))
  | .cls _=>clsR K C st a args kw
  | _=>none
noncomputable def callAt (K:Frag):Nat→CallSem
  | 0,_,_,_,_=>none
  | n+1,st,a,args,kw=>noExc st (ask (K.lookup a) fun o=>callD K (callAt K n) st a args kw o.data)
end Mine
end
section
open PySem PySem.W PyProof.Rows
namespace Mine
set_option maxHeartbeats 0
noncomputable abbrev pr1:Program:=PySem.Challenge.rw_lh0063_02.row.toRowW.1
noncomputable def nthS:List Stmt→Nat→Stmt
  | [],_=>.Pass { line:=0,col:=0,endLine:=0,endCol:=0 }
  | s::_,0=>s
  | _::r,n+1=>nthS r n
noncomputable def clsB:Stmt→List Stmt
  | .ClassDef _ _ _ b ..=>b
  | _=>[]
noncomputable def fArgs:Stmt→Arguments
  | .FunctionDef _ a ..=>a
  | _=>default
noncomputable def fBody:Stmt→List Stmt
  | .FunctionDef _ _ b ..=>b
  | _=>[]
noncomputable def fScope:Stmt→Scope
  | .FunctionDef _ _ _ _ _ _ s ..=>s
  | _=>default
noncomputable abbrev top1 (i:Nat):Stmt:=nthS (Module.body (Program.main pr1)) i
noncomputable abbrev mth (i j:Nat):Stmt:=nthS (clsB (top1 i)) j
noncomputable abbrev so (x:String):PySem.Str:=Str.ofString x
noncomputable abbrev vs (x:String) (t:Nat):Value:=.str (Str.ofString x) t
noncomputable abbrev vi (i:Nat) (t:Nat):Value:=.int (Int.ofNat i) t
noncomputable abbrev vr (a:Nat):Value:=.ref a
noncomputable abbrev vb (x:String):Value:=.builtin x
noncomputable abbrev vt (x:String):Value:=.type x
noncomputable abbrev de (P:Params) (x:String) (t:Nat) (v:Value):DictEntry:=⟨PyData.keyHash P (Str.ofString x),.str (Str.ofString x) t,v⟩
noncomputable abbrev vn:Value:=.none
noncomputable abbrev vT:Value:=.bool true
noncomputable abbrev vF:Value:=.bool false
noncomputable abbrev oS (c:String) (l:List Value) (n:Nat):Obj:=⟨vt c,none,.seq ⟨l⟩ n,⟨[]⟩⟩
noncomputable abbrev oF (c:String) (l:List Value):Obj:=⟨vt c,none,.fields ⟨l⟩,⟨[]⟩⟩
noncomputable abbrev oN (l:List Value):Obj:=⟨.none,none,.fields ⟨l⟩,⟨[]⟩⟩
noncomputable abbrev oD (c:String) (l:List DictEntry) (n:Nat):Obj:=⟨vt c,none,.dict ⟨l⟩ n,⟨[]⟩⟩
noncomputable abbrev oX (c:Value) (f:FuncData):Obj:=⟨c,none,.func f,⟨[]⟩⟩
noncomputable abbrev fd (s:Stmt) (a b:String):=FuncData.mk (so a) (so b) (fArgs s) (.stmts (fBody s)) (fScope s)
noncomputable def oC (n q:String) (a d l e1 e2 e3 e4 r:Nat) (b:Value) (k g:Nat) (x y z:Value):Obj:=oF "code" [vs n a,vs q (a+1),vs "/claim/cut.py" (a+2),vi l 0,vi e1 0,vi e2 0,vi e3 0,vi e4 0,vr r,b,vi k 0,vr g,vn,x,y,z,vi d 0,vi l 0,vs "/claim/cut.py" (d+1)]
noncomputable def o1 (s:Stmt) (a b:String) (n m:Nat):Obj:=oX vn (fd s a b n [] vn vn vn vn none vn vn m)
noncomputable def o2 (s:Stmt) (a b:String) (n:Nat) (w:String) (t r m:Nat):Obj:=oX (vt "function") (fd s a b n [] vn vn vn (vs w t) none (vr r) vn m)
noncomputable def vis:Nat→List Nat→List Value
  | _,[]=>[]
  | k,i::r=>vi i k::vis (k+1) r
noncomputable def vi0 (l:List Nat):List Value:=l.map fun i=>vi i 0
noncomputable def des (P:Params) (f:String→Value):Nat→List String→List DictEntry
  | _,[]=>[]
  | k,x::r=>de P x k (f x)::des P f (k+1) r
noncomputable def q0 (P:Params):Obj:=oD "dict" ([(de P "__name__" 1 (vs "builtins" 160)),(de P "__doc__" 2 (vb "builtins.__doc__:str#opaque")),(de P "__package__" 3 (vb "builtins.__package__:str#opaque")),(de P "__loader__" 4 (vb "builtins.__loader__:shared#opaque")),(de P "__spec__" 5 (vb "builtins.__spec__#opaque"))]++des P vb 6 ["__build_class__","__import__","abs","all","any","ascii","bin","breakpoint","callable","chr","compile","delattr","dir","divmod","eval","exec","format","getattr","globals","hasattr","hash","hex","id","input","isinstance","issubclass","iter","aiter","len","locals","max","min","next","anext","oct","ord","pow","print","repr","round","setattr","sorted","sum","vars"]++[(de P "None" 50 vn),(de P "Ellipsis" 51 Value.ellipsis),(de P "NotImplemented" 52 Value.notImplemented),(de P "False" 53 vF),(de P "True" 54 vT)]++des P vt 55 ["bool","memoryview","bytearray","bytes","classmethod","complex","dict","enumerate","filter","float","frozenset","property","int","list","map","object","range","reversed","set","slice","staticmethod","str","super","tuple","type","zip"]++[(de P "__debug__" 81 vT)]++des P vt 82 ["BaseException","BaseExceptionGroup","Exception","GeneratorExit","KeyboardInterrupt","SystemExit","ArithmeticError","AssertionError","AttributeError","BufferError","EOFError","ImportError","LookupError","MemoryError","NameError","OSError","ReferenceError","RuntimeError","StopAsyncIteration","StopIteration","SyntaxError","SystemError","TypeError","ValueError","Warning","FloatingPointError","OverflowError","ZeroDivisionError","BytesWarning","DeprecationWarning","EncodingWarning","FutureWarning","ImportWarning","PendingDeprecationWarning","ResourceWarning","RuntimeWarning","SyntaxWarning","UnicodeWarning","UserWarning","BlockingIOError","ChildProcessError","ConnectionError","FileExistsError","FileNotFoundError","InterruptedError","IsADirectoryError","NotADirectoryError","PermissionError","ProcessLookupError","TimeoutError","IndentationError","_IncompleteInputError","IndexError","KeyError","ModuleNotFoundError","NotImplementedError","PythonFinalizationError","RecursionError","UnboundLocalError","UnicodeError","BrokenPipeError","ConnectionAbortedError","ConnectionRefusedError","ConnectionResetError","TabError","UnicodeDecodeError","UnicodeEncodeError","UnicodeTranslateError","ExceptionGroup"]++[(de P "EnvironmentError" 151 (vt "OSError")),(de P "IOError" 152 (vt "OSError")),(de P "open" 153 (vb "open")),(de P "quit" 154 (vb "builtins.quit#opaque")),(de P "exit" 155 (vb "builtins.exit#opaque")),(de P "copyright" 156 (vb "builtins.copyright#opaque")),(de P "credits" 157 (vb "builtins.credits#opaque")),(de P "license" 158 (vb "builtins.license#opaque")),(de P "help" 159 (vb "builtins.help#opaque"))]) 159
noncomputable def q1 (P:Params):Obj:=oD "dict" [(de P "builtins" 162 (vr 4)),(de P "__main__" 163 (vr 5)),(de P "_sre" 244 (vr 12))] 3
noncomputable def q2 (P:Params):Obj:=(Obj.mk vn none (Data.dict ⟨[(de P "\x69mport.loaded._sre" 183 vT),(de P "class._frozen_importlib.BuiltinImporter" 185 (vr 14)),(de P "watched.\x69mport" 206 (vr 18)),(de P "class._frozen_importlib.ModuleSpec" 216 (vr 22)),(de P "sys.modules.booked-epoch" 245 (vi 3 0)),(de P "\x69mport.later-laid._sre" 270 vT),(de P "watched.library" 272 (vr 27)),(de P "watched.library-objects" 0 (vs "\x0c" 0)),(de P "watched.library-deep._sre" 273 (vs "\x04\x00\x00\x0b\x04\x00\x00\x0b\x04\x00\x00\x03\x04\x00\x00\x0b\x08\x04dict\x02" 0))]⟩ 9) ⟨[]⟩)
noncomputable def q3 (P:Params):Obj:=oD "dict" [(de P "__name__" 165 (vs "__main__" 164)),(de P "__doc__" 166 vn),(de P "__package__" 167 vn),(de P "__loader__" 168 (vb "__main__.__loader__#opaque")),(de P "__spec__" 169 vn),(de P "__annotations__" 170 (vr 6)),(de P "__builtins__" 171 (vr 4)),(de P "__file__" 173 (vs "/claim/cut.py" 172)),(de P "__cached__" 174 vn),(de P "_sre" 275 (vr 12))] 10
noncomputable def q4 (P:Params):Obj:=(Obj.mk (vt "module") (some 0) Data.plain ⟨[]⟩)
noncomputable def q5 (P:Params):Obj:=(Obj.mk (vt "module") (some 3) Data.plain ⟨[]⟩)
noncomputable def q6 (P:Params):Obj:=oD "dict" [] 0
noncomputable def q7 (P:Params):Obj:=oS "tuple" [] 0
noncomputable def q8 (P:Params):Obj:=oN []
noncomputable def q9 (P:Params):Obj:=oC "<module>" "<module>" 176 179 1 0 0 0 0 7 vF 175 8 vn vn vn
noncomputable def q10 (P:Params):Obj:=(Obj.mk (vt "frame") none Data.plain ⟨[(some (vr 9)),(some (vr 3)),(some (vr 3)),none,(some (vs "__main__" 164)),none,(some (vr 0))]⟩)
noncomputable def q11 (P:Params):Obj:=oD "dict" [(de P "__name__" 247 (vs "_sre" 246)),(de P "__doc__" 248 vn),(de P "__package__" 250 (vs "" 249)),(de P "__loader__" 251 (vb "off-the-table:_sre.__loader__:shared#opaque")),(de P "__spec__" 252 (vb "off-the-table:_sre.__spec__:shared#opaque")),(de P "compile" 253 (vb "_sre.compile")),(de P "template" 254 (vb "off-the-table:_sre.template:shared#opaque")),(de P "getcodesize" 255 (vb "off-the-table:_sre.getcodesize:shared#opaque")),(de P "ascii_iscased" 256 (vb "off-the-table:_sre.ascii_iscased:shared#opaque")),(de P "unicode_iscased" 257 (vb "off-the-table:_sre.unicode_iscased:shared#opaque")),(de P "ascii_tolower" 258 (vb "off-the-table:_sre.ascii_tolower:shared#opaque")),(de P "unicode_tolower" 259 (vb "off-the-table:_sre.unicode_tolower:shared#opaque")),(de P "MAGIC" 261 (vi 20230612 260)),(de P "CODESIZE" 263 (vi 4 262)),(de P "MAXREPEAT" 265 (vi 4294967295 264)),(de P "MAXGROUPS" 267 (vi 1073741823 266)),(de P "copyright" 269 (vs " SRE 2.2.2 Copyright (c) 1997-2002 by Secret Labs AB " 268))] 17
noncomputable def q12 (P:Params):Obj:=(Obj.mk (vt "module") (some 11) Data.plain ⟨[]⟩)
noncomputable def q13 (P:Params):Obj:=oD "dict" [(de P "__module__" 189 (vs "_frozen_importlib" 186)),(de P "__firstlineno__" 190 (vi 971 187)),(de P "__doc__" 191 (vb "_frozen_importlib.BuiltinImporter.__doc__:str#opaque")),(de P "_ORIGIN" 192 (vs "built-in" 188)),(de P "find_spec" 193 (vb "_frozen_importlib.BuiltinImporter.find_spec#opaque")),(de P "create_module" 194 (vb "_frozen_importlib.BuiltinImporter.create_module#opaque")),(de P "exec_module" 195 (vb "_frozen_importlib.BuiltinImporter.exec_module#opaque")),(de P "get_code" 196 (vb "_frozen_importlib.BuiltinImporter.get_code#opaque")),(de P "get_source" 197 (vb "_frozen_importlib.BuiltinImporter.get_source#opaque")),(de P "is_package" 198 (vb "_frozen_importlib.BuiltinImporter.is_package#opaque")),(de P "load_module" 199 (vb "_frozen_importlib.BuiltinImporter.load_module#opaque")),(de P "__static_attributes__" 200 (vr 15)),(de P "__dict__" 202 (vr 16)),(de P "__weakref__" 204 (vr 17))] 14
noncomputable def q14 (P:Params):Obj:=(Obj.mk (vt "type") none (Data.cls (ClassData.mk (so "BuiltinImporter") [(vt "object")] [(vr 14),(vt "object")] 13 (so "BuiltinImporter") true [] [] false none false)) ⟨[]⟩)
noncomputable def q15 (P:Params):Obj:=oS "tuple" [] 0
noncomputable def q16 (P:Params):Obj:=oF "getset_descriptor" [(vs "__dict__" 201),(vr 14),(vb "function.__dict__"),(vb "function.__dict__#set")]
noncomputable def q17 (P:Params):Obj:=oF "getset_descriptor" [(vs "__weakref__" 203),(vr 14),(vb "ExceptionGroup.__weakref__"),vn]
noncomputable def q18 (P:Params):Obj:=(Obj.mk vn none (Data.seq ⟨[(vi 13 0),(vs "\x06½\n__module__\x06º\x11_frozen_importlib\x06¾\x0f__firstlineno__\x04»\x00ϋ\x06¿\x07__doc__\t4_frozen_importlib.BuiltinImporter.__doc__:str#opaque\x06À\x07_ORIGIN\x06¼\x08built-in\x06Á\tfind_spec\t2_frozen_importlib.BuiltinImporter.find_spec#opaque\x06Â\x0dcreate_module\t6_frozen_importlib.BuiltinImporter.create_module#opaque\x06Ã\x0bexec_module\t4_frozen_importlib.BuiltinImporter.exec_module#opaque\x06Ä\x08get_code\t1_frozen_importlib.BuiltinImporter.get_code#opaque\x06Å\nget_source\t3_frozen_importlib.BuiltinImporter.get_source#opaque\x06Æ\nis_package\t3_frozen_importlib.BuiltinImporter.is_package#opaque\x06Ç\x0bload_module\t4_frozen_importlib.BuiltinImporter.load_module#opaque\x06È\x15__static_attributes__\x04\x00\x00\x0f\x06Ê\x08__dict__\x04\x00\x00\x10\x06Ì\x0b__weakref__\x04\x00\x00\x11" 0),vT,vT,(vs "" 205),(vi 21 0),(vs "\x06ã\n__module__\x06Ù\x11_frozen_importlib\x06ä\x0f__firstlineno__\x04Ú\x00Ȳ\x06å\x07__doc__\t/_frozen_importlib.ModuleSpec.__doc__:str#opaque\x06æ\x08__init__\t,_frozen_importlib.ModuleSpec.__init__#opaque\x06ç\x08__repr__\t,_frozen_importlib.ModuleSpec.__repr__#opaque\x06è\x06__eq__\t*_frozen_importlib.ModuleSpec.__eq__#opaque\x06é\x06cached\t*_frozen_importlib.ModuleSpec.cached#opaque\x06ê\x06parent\t*_frozen_importlib.ModuleSpec.parent#opaque\x06ë\x0chas_location\t0_frozen_importlib.ModuleSpec.has_location#opaque\x06ì\x15__static_attributes__\x04\x00\x00\x17\x06î\x08__dict__\x04\x00\x00\x18\x06ð\x0b__weakref__\x04\x00\x00\x19\x06ñ\x08__hash__\x00" 0),vT,vT,(vs "" 242)]⟩ 1) ⟨[]⟩)
noncomputable def q19 (P:Params):Obj:=oS "list" [] 0
noncomputable def q20 (P:Params):Obj:=oD "dict" [(de P "name" 208 (vs "_sre" 207)),(de P "loader" 209 (vr 14)),(de P "origin" 210 (vs "built-in" 184)),(de P "loader_state" 211 vn),(de P "submodule_search_locations" 212 vn),(de P "_uninitialized_submodules" 213 (vr 19)),(de P "_set_fileattr" 214 vF),(de P "_cached" 215 vn),(de P "_initializing" 243 vF)] 9
noncomputable def q21 (P:Params):Obj:=oD "dict" [(de P "__module__" 227 (vs "_frozen_importlib" 217)),(de P "__firstlineno__" 228 (vi 562 218)),(de P "__doc__" 229 (vb "_frozen_importlib.ModuleSpec.__doc__:str#opaque")),(de P "__init__" 230 (vb "_frozen_importlib.ModuleSpec.__init__#opaque")),(de P "__repr__" 231 (vb "_frozen_importlib.ModuleSpec.__repr__#opaque")),(de P "__eq__" 232 (vb "_frozen_importlib.ModuleSpec.__eq__#opaque")),(de P "cached" 233 (vb "_frozen_importlib.ModuleSpec.cached#opaque")),(de P "parent" 234 (vb "_frozen_importlib.ModuleSpec.parent#opaque")),(de P "has_location" 235 (vb "_frozen_importlib.ModuleSpec.has_location#opaque")),(de P "__static_attributes__" 236 (vr 23)),(de P "__dict__" 238 (vr 24)),(de P "__weakref__" 240 (vr 25)),(de P "__hash__" 241 vn)] 13
noncomputable def q22 (P:Params):Obj:=(Obj.mk (vt "type") none (Data.cls (ClassData.mk (so "ModuleSpec") [(vt "object")] [(vr 22),(vt "object")] 21 (so "ModuleSpec") true [] [] false none false)) ⟨[]⟩)
noncomputable def q23 (P:Params):Obj:=oS "tuple" [(vs "_cached" 219),(vs "_set_fileattr" 220),(vs "_uninitialized_submodules" 221),(vs "loader" 222),(vs "loader_state" 223),(vs "name" 224),(vs "origin" 225),(vs "submodule_search_locations" 226)] 0
noncomputable def q24 (P:Params):Obj:=oF "getset_descriptor" [(vs "__dict__" 237),(vr 22),(vb "function.__dict__"),(vb "function.__dict__#set")]
noncomputable def q25 (P:Params):Obj:=oF "getset_descriptor" [(vs "__weakref__" 239),(vr 22),(vb "ExceptionGroup.__weakref__"),vn]
noncomputable def q26 (P:Params):Obj:=(Obj.mk (vr 22) (some 20) Data.plain ⟨[]⟩)
noncomputable def q27 (P:Params):Obj:=(Obj.mk vn none (Data.seq ⟨[(vi 11 0),(Value.str (Str.mk ⟨[6,247,8,95,95,110,97,109,101,95,95,6,246,4,95,115,114,101,6,248,7,95,95,100,111,99,95,95,0,6,250,11,95,95,112,97,99,107,97,103,101,95,95,6,249,0,6,251,10,95,95,108,111,97,100,101,114,95,95,4,0,0,14,6,252,8,95,95,115,112,101,99,95,95,4,0,0,26,6,253,7,99,111,109,112,105,108,101,9,12,95,115,114,101,46,99,111,109,112,105,108,101,6,254,8,116,101,109,112,108,97,116,101,9,13,95,115,114,101,46,116,101,109,112,108,97,116,101,6,255,11,103,101,116,99,111,100,101,115,105,122,101,9,16,95,115,114,101,46,103,101,116,99,111,100,101,115,105,122,101,6,256,13,97,115,99,105,105,95,105,115,99,97,115,101,100,9,18,95,115,114,101,46,97,115,99,105,105,95,105,115,99,97,115,101,100,6,257,15,117,110,105,99,111,100,101,95,105,115,99,97,115,101,100,9,20,95,115,114,101,46,117,110,105,99,111,100,101,95,105,115,99,97,115,101,100,6,258,13,97,115,99,105,105,95,116,111,108,111,119,101,114,9,18,95,115,114,101,46,97,115,99,105,105,95,116,111,108,111,119,101,114,6,259,15,117,110,105,99,111,100,101,95,116,111,108,111,119,101,114,9,20,95,115,114,101,46,117,110,105,99,111,100,101,95,116,111,108,111,119,101,114,6,261,5,77,65,71,73,67,4,260,0,20230612,6,263,8,67,79,68,69,83,73,90,69,4,262,0,4,6,265,9,77,65,88,82,69,80,69,65,84,4,264,0,4294967295,6,267,9,77,65,88,71,82,79,85,80,83,4,266,0,1073741823,6,269,9,99,111,112,121,114,105,103,104,116,6,268,53,32,83,82,69,32,50,46,50,46,50,32,67,111,112,121,114,105,103,104,116,32,40,99,41,32,49,57,57,55,45,50,48,48,50,32,98,121,32,83,101,99,114,101,116,32,76,97,98,115,32,65,66,32]⟩) 0),vT,vF,(vs "_sre" 271)]⟩ 0) ⟨[]⟩)
noncomputable def L28 (P:Params):List Obj:=[q0 P,q1 P,q2 P,q3 P,q4 P,q5 P,q6 P,q7 P,q8 P,q9 P,q10 P,q11 P,q12 P,q13 P,q14 P,q15 P,q16 P,q17 P,q18 P,q19 P,q20 P,q21 P,q22 P,q23 P,q24 P,q25 P,q26 P,q27 P]
noncomputable def q28 (P:Params):Obj:=oS "tuple" [] 0
noncomputable def q29 (P:Params):Obj:=oN []
noncomputable def q30 (P:Params):Obj:=oC "<module>" "<module>" 277 280 1 0 0 0 0 28 vF 276 29 vn vn vn
noncomputable def q31 (P:Params):Obj:=(Obj.mk (vt "frame") none Data.plain ⟨[(some (vr 30)),(some (vr 3)),(some (vr 3)),none,(some (vs "__main__" 164)),none,(some (vr 0))]⟩)
noncomputable def L32 (P:Params):List Obj:=[q0 P,q1 P,q2 P,q3 P,q4 P,q5 P,q6 P,q7 P,q8 P,q9 P,q10 P,q11 P,q12 P,q13 P,q14 P,q15 P,q16 P,q17 P,q18 P,q19 P,q20 P,q21 P,q22 P,q23 P,q24 P,q25 P,q26 P,q27 P,q28 P,q29 P,q30 P,q31 P]
noncomputable def q32 (P:Params):Obj:=oD "dict" [(de P "__name__" 165 (vs "law_lh0063_02" 1181)),(de P "__doc__" 166 vn),(de P "__package__" 167 vn),(de P "__loader__" 168 (vb "__main__.__loader__#opaque")),(de P "__spec__" 169 vn),(de P "__annotations__" 170 (vr 6)),(de P "__builtins__" 171 (vr 4)),(de P "__file__" 173 (vs "/claim/cut.py" 172)),(de P "__cached__" 174 vn),(de P "_sre" 275 (vr 12)),(de P "_wall" 288 (vr 38)),(de P "_twin_re_1" 348 (vr 43)),(de P "_twin_re_2" 384 (vr 48)),(de P "_twin_re_3" 502 (vr 53)),(de P "_twin_re_4" 630 (vr 58)),(de P "_has_leading_zero" 637 (vr 65)),(de P "MaxIdentifier" 705 (vr 117)),(de P "NumericIdentifier" 782 (vr 180)),(de P "AlphaIdentifier" 859 (vr 243)),(de P "warn" 869 (vr 254)),(de P "Version" 1173 (vr 448)),(de P "validate" 1180 (vr 459)),(de P "_law_words" 1188 (vr 466)),(de P "_law_odd" 1194 (vr 473)),(de P "law" 1219 (vr 480))] 25
noncomputable def q33 (P:Params):Obj:=oN [(vi 2 0),(vi 0 0),(vr 37),(vi 10 0),(vi 0 0),(vr 64),(vi 12 0),(vi 0 0),(vr 71),(vi 31 0),(vi 0 0),(vr 127),(vi 62 0),(vi 0 0),(vr 190),(vi 94 0),(vi 0 0),(vr 253),(vi 97 0),(vi 0 0),(vr 260),(vi 305 0),(vi 0 0),(vr 458),(vi 312 0),(vi 0 0),(vr 465),(vi 314 0),(vi 0 0),(vr 472),(vi 316 0),(vi 0 0),(vr 479)]
noncomputable def q44 (P:Params):Obj:=oS "tuple" (vi0 [14,4,0,1,4294967295,6,0,24,9,1,4294967295,13,4,8,10,0,1,23,32,0,1,16,46,24,9,1,4294967295,13,4,8,10,0,1,23,15,0,1,16,46,24,9,1,4294967295,13,4,8,10,0,1,18,18,1]) 0
noncomputable def q45 (P:Params):Obj:=oF "re.Pattern" [(vs "^\\d+(?:\\.\\d+(?:\\.\\d+)?)?" 292),(vi 32 347),(vi 0 0),vn,vn,(vr 42),(vi 0 0)]
noncomputable def q49 (P:Params):Obj:=oS "tuple" (vi0 [14,15,4,1,1,21,9,0,67069952,134217726,134217726,0,0,0,0,0,13,12,21,9,0,67069952,134217726,134217726,0,0,0,0,0,1]) 0
noncomputable def q50 (P:Params):Obj:=oF "re.Pattern" [(vs "[^a-zA-Z0-9+.-]" 350),(vi 32 383),(vi 0 0),vn,vn,(vr 47),(vi 0 0)]
noncomputable def q54 (P:Params):Obj:=oS "tuple" (vi0 [14,4,0,5,4294967295,6,0,17,0,24,9,1,4294967295,13,4,8,10,0,1,17,1,16,46,17,2,24,9,1,4294967295,13,4,8,10,0,1,17,3,16,46,17,4,24,9,1,4294967295,13,4,8,10,0,1,17,5,23,26,0,1,16,45,17,6,24,16,1,4294967295,13,11,9,0,67067904,134217726,134217726,0,0,0,0,0,1,17,7,18,23,26,0,1,16,43,17,8,24,16,1,4294967295,13,11,9,0,67067904,134217726,134217726,0,0,0,0,0,1,17,9,18,6,5,1]) 0
noncomputable def q55 (P:Params):Obj:=oF "re.Pattern" [(vs "^(\\d+)\\.(\\d+)\\.(\\d+)(?:-([0-9a-zA-Z.-]+))?(?:\\+([0-9a-zA-Z.-]+))?$" 386),(vi 32 501),(vi 5 0),vn,vn,(vr 52),(vi 0 0)]
noncomputable def q314 (P:Params):Obj:=oN []
noncomputable def q318 (P:Params):Obj:=oC "coerce" "Version.coerce" 951 963 140 3 0 0 3 311 vT 276 312 (vr 313) (vr 314) (vr 315)
noncomputable def q385 (P:Params):Obj:=oN []
noncomputable def q389 (P:Params):Obj:=oC "_build_precedence_key" "Version._build_precedence_key" 1084 1091 259 2 0 0 3 382 vT 276 383 (vr 384) (vr 385) (vr 386)
noncomputable def l0 (P:Params):List Obj:=[oS "tuple" [] 0,oN [],oS "tuple" [(vs "k" 285)] 0,oS "tuple" [] 0,o1 (top1 1) "_wall" "_wall" 0 0,oC "_wall" "_wall" 282 286 2 1 0 0 3 32 vT 276 33 (vr 34) (vr 35) (vr 36),o2 (top1 1) "_wall" "_wall" 3 "__main__" 164 37 0,oS "list" (vis 294 [14,4,0,1,4294967295,6,0,24,9,1,4294967295,13,4,8,10,0,1,23,32,0,1,16,46,24,9,1,4294967295,13,4,8,10,0,1,23,15,0,1,16,46,24,9,1,4294967295,13,4,8,10,0,1,18,18,1]) 0,oD "dict" [] 0,oS "tuple" [vn] 0]
noncomputable def l1 (P:Params):List Obj:=[oS "list" (vis 352 [14,15,4,1,1,21,9,0,67069952,134217726,134217726,0,0,0,0,0,13,12,21,9,0,67069952,134217726,134217726,0,0,0,0,0,1]) 0,oD "dict" [] 0,oS "tuple" [vn] 0]
noncomputable def l2 (P:Params):List Obj:=[oS "list" (vis 388 [14,4,0,5,4294967295,6,0,17,0,24,9,1,4294967295,13,4,8,10,0,1,17,1,16,46,17,2,24,9,1,4294967295,13,4,8,10,0,1,17,3,16,46,17,4,24,9,1,4294967295,13,4,8,10,0,1,17,5,23,26,0,1,16,45,17,6,24,16,1,4294967295,13,11,9,0,67067904,134217726,134217726,0,0,0,0,0,1,17,7,18,23,26,0,1,16,43,17,8,24,16,1,4294967295,13,11,9,0,67067904,134217726,134217726,0,0,0,0,0,1,17,9,18,6,5,1]) 0,oD "dict" [] 0,oS "tuple" [vn,vn,vn,vn,vn,vn] 0]
noncomputable def l3 (P:Params):List Obj:=[oS "list" (vis 506 [14,4,0,1,4294967295,6,0,17,0,24,9,1,4294967295,13,4,8,10,0,1,17,1,23,40,0,1,16,46,17,2,24,9,1,4294967295,13,4,8,10,0,1,17,3,23,19,0,1,16,46,17,4,24,9,1,4294967295,13,4,8,10,0,1,17,5,18,18,23,26,0,1,16,45,17,6,24,16,0,4294967295,13,11,9,0,67067904,134217726,134217726,0,0,0,0,0,1,17,7,18,23,26,0,1,16,43,17,8,24,16,0,4294967295,13,11,9,0,67067904,134217726,134217726,0,0,0,0,0,1,17,9,18,6,5,1]) 0,oD "dict" [] 0,oS "tuple" [vn,vn,vn,vn,vn,vn] 0,oS "tuple" (vi0 [14,4,0,1,4294967295,6,0,17,0,24,9,1,4294967295,13,4,8,10,0,1,17,1,23,40,0,1,16,46,17,2,24,9,1,4294967295,13,4,8,10,0,1,17,3,23,19,0,1,16,46,17,4,24,9,1,4294967295,13,4,8,10,0,1,17,5,18,18,23,26,0,1,16,45,17,6,24,16,0,4294967295,13,11,9,0,67067904,134217726,134217726,0,0,0,0,0,1,17,7,18,23,26,0,1,16,43,17,8,24,16,0,4294967295,13,11,9,0,67067904,134217726,134217726,0,0,0,0,0,1,17,9,18,6,5,1]) 0,oF "re.Pattern" [(vs "^(\\d+)(?:\\.(\\d+)(?:\\.(\\d+))?)?(?:-([0-9a-zA-Z.-]*))?(?:\\+([0-9a-zA-Z.-]*))?$" 504),(vi 32 629),(vi 5 0),vn,vn,(vr 57),(vi 0 0)],oS "tuple" [] 0,oN [],oS "tuple" [(vs "value" 634)] 0,oS "tuple" [] 0,o1 (top1 7) "_has_leading_zero" "_has_leading_zero" 0 0,oC "_has_leading_zero" "_has_leading_zero" 631 635 10 1 0 0 3 59 vT 276 60 (vr 61) (vr 62) (vr 63),o2 (top1 7) "_has_leading_zero" "_has_leading_zero" 3 "semantic_version.base" 289 64 0,oS "tuple" [(vt "object")] 0,oF "builtin_function_or_method" [(vb "type.__prepare__"),(vt "type")],oD "dict" [(de P "__module__" 645 (vs "semantic_version.base" 289)),(de P "__qualname__" 647 (vs "MaxIdentifier" 646)),(de P "__firstlineno__" 649 (vi 12 648)),(de P "__repr__" 656 (vr 79)),(de P "__eq__" 664 (vr 86)),(de P "__lt__" 672 (vr 93)),(de P "__le__" 680 (vr 100)),(de P "__gt__" 688 (vr 107)),(de P "__ge__" 696 (vr 114)),(de P "__static_attributes__" 697 (vr 115))] 10,oS "tuple" [] 0,oN [(vi 14 0),(vi 4 0),(vr 78),(vi 17 0),(vi 4 0),(vr 85),(vi 20 0),(vi 4 0),(vr 92),(vi 23 0),(vi 4 0),(vr 99),(vi 26 0),(vi 4 0),(vr 106),(vi 29 0),(vi 4 0),(vr 113)],oC "MaxIdentifier" "MaxIdentifier" 640 643 12 0 0 0 0 69 vF 276 70 vn vn vn,(Obj.mk (vt "frame") none Data.plain ⟨[(some (vr 71)),(some (vr 3)),(some (vr 68)),none,(some (vs "semantic_version.base" 289)),none,(some (vr 0))]⟩),oS "tuple" [] 0,oN [],oS "tuple" [(vs "self" 653)] 0,oS "tuple" [] 0,o1 (mth 8 0) "__repr__" "MaxIdentifier.__repr__" 0 0,oC "__repr__" "MaxIdentifier.__repr__" 650 654 14 1 0 0 3 73 vT 276 74 (vr 75) (vr 76) (vr 77),o2 (mth 8 0) "__repr__" "MaxIdentifier.__repr__" 3 "semantic_version.base" 289 78 0,oS "tuple" [] 0,oN [],oS "tuple" [(vs "self" 660),(vs "other" 661)] 0,oS "tuple" [] 0,o1 (mth 8 1) "__eq__" "MaxIdentifier.__eq__" 0 0,oC "__eq__" "MaxIdentifier.__eq__" 657 662 17 2 0 0 3 80 vT 276 81 (vr 82) (vr 83) (vr 84),o2 (mth 8 1) "__eq__" "MaxIdentifier.__eq__" 3 "semantic_version.base" 289 85 0,oS "tuple" [] 0,oN [],oS "tuple" [(vs "self" 668),(vs "other" 669)] 0,oS "tuple" [] 0,o1 (mth 8 2) "__lt__" "MaxIdentifier.__lt__" 0 0,oC "__lt__" "MaxIdentifier.__lt__" 665 670 20 2 0 0 3 87 vT 276 88 (vr 89) (vr 90) (vr 91),o2 (mth 8 2) "__lt__" "MaxIdentifier.__lt__" 3 "semantic_version.base" 289 92 0,oS "tuple" [] 0,oN [],oS "tuple" [(vs "self" 676),(vs "other" 677)] 0,oS "tuple" [] 0,o1 (mth 8 3) "__le__" "MaxIdentifier.__le__" 0 0,oC "__le__" "MaxIdentifier.__le__" 673 678 23 2 0 0 3 94 vT 276 95 (vr 96) (vr 97) (vr 98),o2 (mth 8 3) "__le__" "MaxIdentifier.__le__" 3 "semantic_version.base" 289 99 0,oS "tuple" [] 0,oN [],oS "tuple" [(vs "self" 684),(vs "other" 685)] 0,oS "tuple" [] 0,o1 (mth 8 4) "__gt__" "MaxIdentifier.__gt__" 0 0,oC "__gt__" "MaxIdentifier.__gt__" 681 686 26 2 0 0 3 101 vT 276 102 (vr 103) (vr 104) (vr 105),o2 (mth 8 4) "__gt__" "MaxIdentifier.__gt__" 3 "semantic_version.base" 289 106 0,oS "tuple" [] 0,oN [],oS "tuple" [(vs "self" 692),(vs "other" 693)] 0,oS "tuple" [] 0,o1 (mth 8 5) "__ge__" "MaxIdentifier.__ge__" 0 0,oC "__ge__" "MaxIdentifier.__ge__" 689 694 29 2 0 0 3 108 vT 276 109 (vr 110) (vr 111) (vr 112),o2 (mth 8 5) "__ge__" "MaxIdentifier.__ge__" 3 "semantic_version.base" 289 113 0,oS "tuple" [] 0,oD "dict" [(de P "__module__" 645 (vs "semantic_version.base" 289)),(de P "__firstlineno__" 649 (vi 12 648)),(de P "__repr__" 656 (vr 79)),(de P "__eq__" 664 (vr 86)),(de P "__lt__" 672 (vr 93)),(de P "__le__" 680 (vr 100)),(de P "__gt__" 688 (vr 107)),(de P "__ge__" 696 (vr 114)),(de P "__static_attributes__" 697 (vr 115)),(de P "__dict__" 699 (vr 118)),(de P "__weakref__" 701 (vr 119)),(de P "__doc__" 702 vn),(de P "__hash__" 703 vn)] 5,(Obj.mk (vt "type") none (Data.cls (ClassData.mk (so "MaxIdentifier") [(vt "object")] [(vr 117),(vt "object")] 116 (so "MaxIdentifier") true [] [] false none false)) ⟨[(some (vr 66)),none,(some (vs "MaxIdentifier" 638)),(some (vs "MaxIdentifier" 646)),(some (vb "object.__new__")),(some vT)]⟩)]
noncomputable def l4 (P:Params):List Obj:=[oF "getset_descriptor" [(vs "__dict__" 698),(vr 117),(vb "function.__dict__"),(vb "function.__dict__#set")],oF "getset_descriptor" [(vs "__weakref__" 700),(vr 117),(vb "ExceptionGroup.__weakref__"),vn],oF "super" [(vr 117),(vr 117),(vr 117)],oF "builtin_function_or_method" [(vb "object.__init_subclass__"),(vr 117)],oS "tuple" [(vt "object")] 0,oF "builtin_function_or_method" [(vb "type.__prepare__"),(vt "type")],oD "dict" [(de P "__module__" 713 (vs "semantic_version.base" 289)),(de P "__qualname__" 715 (vs "NumericIdentifier" 714)),(de P "__firstlineno__" 717 (vi 31 716)),(de P "__init__" 725 (vr 135)),(de P "__repr__" 732 (vr 142)),(de P "__eq__" 740 (vr 149)),(de P "__lt__" 748 (vr 156)),(de P "__gt__" 756 (vr 163)),(de P "__le__" 764 (vr 170)),(de P "__ge__" 772 (vr 177)),(de P "__static_attributes__" 774 (vr 178))] 11,oS "tuple" [] 0,oN [(vi 33 0),(vi 4 0),(vr 134),(vi 36 0),(vi 4 0),(vr 141),(vi 39 0),(vi 4 0),(vr 148),(vi 44 0),(vi 4 0),(vr 155),(vi 54 0),(vi 4 0),(vr 162),(vi 57 0),(vi 4 0),(vr 169),(vi 60 0),(vi 4 0),(vr 176)],oC "NumericIdentifier" "NumericIdentifier" 708 711 31 0 0 0 0 125 vF 276 126 vn vn vn,(Obj.mk (vt "frame") none Data.plain ⟨[(some (vr 127)),(some (vr 3)),(some (vr 124)),none,(some (vs "semantic_version.base" 289)),none,(some (vr 0))]⟩),oS "tuple" [] 0,oN [],oS "tuple" [(vs "self" 721),(vs "value" 722)] 0,oS "tuple" [] 0,o1 (mth 9 0) "__init__" "NumericIdentifier.__init__" 0 0,oC "__init__" "NumericIdentifier.__init__" 718 723 33 2 0 0 3 129 vT 276 130 (vr 131) (vr 132) (vr 133),o2 (mth 9 0) "__init__" "NumericIdentifier.__init__" 3 "semantic_version.base" 289 134 0,oS "tuple" [] 0,oN [],oS "tuple" [(vs "self" 729)] 0,oS "tuple" [] 0,o1 (mth 9 1) "__repr__" "NumericIdentifier.__repr__" 0 0,oC "__repr__" "NumericIdentifier.__repr__" 726 730 36 1 0 0 3 136 vT 276 137 (vr 138) (vr 139) (vr 140),o2 (mth 9 1) "__repr__" "NumericIdentifier.__repr__" 3 "semantic_version.base" 289 141 0,oS "tuple" [] 0,oN [],oS "tuple" [(vs "self" 736),(vs "other" 737)] 0,oS "tuple" [] 0,o1 (mth 9 2) "__eq__" "NumericIdentifier.__eq__" 0 0,oC "__eq__" "NumericIdentifier.__eq__" 733 738 39 2 0 0 3 143 vT 276 144 (vr 145) (vr 146) (vr 147),o2 (mth 9 2) "__eq__" "NumericIdentifier.__eq__" 3 "semantic_version.base" 289 148 0,oS "tuple" [] 0,oN [],oS "tuple" [(vs "self" 744),(vs "other" 745)] 0,oS "tuple" [] 0,o1 (mth 9 3) "__lt__" "NumericIdentifier.__lt__" 0 0,oC "__lt__" "NumericIdentifier.__lt__" 741 746 44 2 0 0 3 150 vT 276 151 (vr 152) (vr 153) (vr 154),o2 (mth 9 3) "__lt__" "NumericIdentifier.__lt__" 3 "semantic_version.base" 289 155 0,oS "tuple" [] 0,oN [],oS "tuple" [(vs "self" 752),(vs "other" 753)] 0,oS "tuple" [] 0,o1 (mth 9 4) "__gt__" "NumericIdentifier.__gt__" 0 0,oC "__gt__" "NumericIdentifier.__gt__" 749 754 54 2 0 0 3 157 vT 276 158 (vr 159) (vr 160) (vr 161),o2 (mth 9 4) "__gt__" "NumericIdentifier.__gt__" 3 "semantic_version.base" 289 162 0,oS "tuple" [] 0,oN [],oS "tuple" [(vs "self" 760),(vs "other" 761)] 0,oS "tuple" [] 0,o1 (mth 9 5) "__le__" "NumericIdentifier.__le__" 0 0,oC "__le__" "NumericIdentifier.__le__" 757 762 57 2 0 0 3 164 vT 276 165 (vr 166) (vr 167) (vr 168),o2 (mth 9 5) "__le__" "NumericIdentifier.__le__" 3 "semantic_version.base" 289 169 0,oS "tuple" [] 0,oN [],oS "tuple" [(vs "self" 768),(vs "other" 769)] 0,oS "tuple" [] 0,o1 (mth 9 6) "__ge__" "NumericIdentifier.__ge__" 0 0,oC "__ge__" "NumericIdentifier.__ge__" 765 770 60 2 0 0 3 171 vT 276 172 (vr 173) (vr 174) (vr 175),o2 (mth 9 6) "__ge__" "NumericIdentifier.__ge__" 3 "semantic_version.base" 289 176 0,oS "tuple" [(vs "value" 773)] 0,oD "dict" [(de P "__module__" 713 (vs "semantic_version.base" 289)),(de P "__firstlineno__" 717 (vi 31 716)),(de P "__init__" 725 (vr 135)),(de P "__repr__" 732 (vr 142)),(de P "__eq__" 740 (vr 149)),(de P "__lt__" 748 (vr 156)),(de P "__gt__" 756 (vr 163)),(de P "__le__" 764 (vr 170)),(de P "__ge__" 772 (vr 177)),(de P "__static_attributes__" 774 (vr 178)),(de P "__dict__" 776 (vr 181)),(de P "__weakref__" 778 (vr 182)),(de P "__doc__" 779 vn),(de P "__hash__" 780 vn)] 5,(Obj.mk (vt "type") none (Data.cls (ClassData.mk (so "NumericIdentifier") [(vt "object")] [(vr 180),(vt "object")] 179 (so "NumericIdentifier") true [] [] false none false)) ⟨[(some (vr 122)),none,(some (vs "NumericIdentifier" 706)),(some (vs "NumericIdentifier" 714)),(some (vb "object.__new__")),(some vT)]⟩),oF "getset_descriptor" [(vs "__dict__" 775),(vr 180),(vb "function.__dict__"),(vb "function.__dict__#set")]]
noncomputable def l5 (P:Params):List Obj:=[oF "getset_descriptor" [(vs "__weakref__" 777),(vr 180),(vb "ExceptionGroup.__weakref__"),vn],oF "super" [(vr 180),(vr 180),(vr 180)],oF "builtin_function_or_method" [(vb "object.__init_subclass__"),(vr 180)],oS "tuple" [(vt "object")] 0,oF "builtin_function_or_method" [(vb "type.__prepare__"),(vt "type")],oD "dict" [(de P "__module__" 790 (vs "semantic_version.base" 289)),(de P "__qualname__" 792 (vs "AlphaIdentifier" 791)),(de P "__firstlineno__" 794 (vi 62 793)),(de P "__init__" 802 (vr 198)),(de P "__repr__" 809 (vr 205)),(de P "__eq__" 817 (vr 212)),(de P "__lt__" 825 (vr 219)),(de P "__gt__" 833 (vr 226)),(de P "__le__" 841 (vr 233)),(de P "__ge__" 849 (vr 240)),(de P "__static_attributes__" 851 (vr 241))] 11,oS "tuple" [] 0,oN [(vi 64 0),(vi 4 0),(vr 197),(vi 67 0),(vi 4 0),(vr 204),(vi 70 0),(vi 4 0),(vr 211),(vi 75 0),(vi 4 0),(vr 218),(vi 85 0),(vi 4 0),(vr 225),(vi 88 0),(vi 4 0),(vr 232),(vi 91 0),(vi 4 0),(vr 239)],oC "AlphaIdentifier" "AlphaIdentifier" 785 788 62 0 0 0 0 188 vF 276 189 vn vn vn,(Obj.mk (vt "frame") none Data.plain ⟨[(some (vr 190)),(some (vr 3)),(some (vr 187)),none,(some (vs "semantic_version.base" 289)),none,(some (vr 0))]⟩),oS "tuple" [] 0,oN [],oS "tuple" [(vs "self" 798),(vs "value" 799)] 0,oS "tuple" [] 0,o1 (mth 10 0) "__init__" "AlphaIdentifier.__init__" 0 0,oC "__init__" "AlphaIdentifier.__init__" 795 800 64 2 0 0 3 192 vT 276 193 (vr 194) (vr 195) (vr 196),o2 (mth 10 0) "__init__" "AlphaIdentifier.__init__" 3 "semantic_version.base" 289 197 0,oS "tuple" [] 0,oN [],oS "tuple" [(vs "self" 806)] 0,oS "tuple" [] 0,o1 (mth 10 1) "__repr__" "AlphaIdentifier.__repr__" 0 0,oC "__repr__" "AlphaIdentifier.__repr__" 803 807 67 1 0 0 3 199 vT 276 200 (vr 201) (vr 202) (vr 203),o2 (mth 10 1) "__repr__" "AlphaIdentifier.__repr__" 3 "semantic_version.base" 289 204 0,oS "tuple" [] 0,oN [],oS "tuple" [(vs "self" 813),(vs "other" 814)] 0,oS "tuple" [] 0,o1 (mth 10 2) "__eq__" "AlphaIdentifier.__eq__" 0 0,oC "__eq__" "AlphaIdentifier.__eq__" 810 815 70 2 0 0 3 206 vT 276 207 (vr 208) (vr 209) (vr 210),o2 (mth 10 2) "__eq__" "AlphaIdentifier.__eq__" 3 "semantic_version.base" 289 211 0,oS "tuple" [] 0,oN [],oS "tuple" [(vs "self" 821),(vs "other" 822)] 0,oS "tuple" [] 0,o1 (mth 10 3) "__lt__" "AlphaIdentifier.__lt__" 0 0,oC "__lt__" "AlphaIdentifier.__lt__" 818 823 75 2 0 0 3 213 vT 276 214 (vr 215) (vr 216) (vr 217),o2 (mth 10 3) "__lt__" "AlphaIdentifier.__lt__" 3 "semantic_version.base" 289 218 0,oS "tuple" [] 0,oN [],oS "tuple" [(vs "self" 829),(vs "other" 830)] 0,oS "tuple" [] 0,o1 (mth 10 4) "__gt__" "AlphaIdentifier.__gt__" 0 0,oC "__gt__" "AlphaIdentifier.__gt__" 826 831 85 2 0 0 3 220 vT 276 221 (vr 222) (vr 223) (vr 224),o2 (mth 10 4) "__gt__" "AlphaIdentifier.__gt__" 3 "semantic_version.base" 289 225 0,oS "tuple" [] 0,oN [],oS "tuple" [(vs "self" 837),(vs "other" 838)] 0,oS "tuple" [] 0,o1 (mth 10 5) "__le__" "AlphaIdentifier.__le__" 0 0,oC "__le__" "AlphaIdentifier.__le__" 834 839 88 2 0 0 3 227 vT 276 228 (vr 229) (vr 230) (vr 231),o2 (mth 10 5) "__le__" "AlphaIdentifier.__le__" 3 "semantic_version.base" 289 232 0,oS "tuple" [] 0,oN [],oS "tuple" [(vs "self" 845),(vs "other" 846)] 0,oS "tuple" [] 0,o1 (mth 10 6) "__ge__" "AlphaIdentifier.__ge__" 0 0,oC "__ge__" "AlphaIdentifier.__ge__" 842 847 91 2 0 0 3 234 vT 276 235 (vr 236) (vr 237) (vr 238),o2 (mth 10 6) "__ge__" "AlphaIdentifier.__ge__" 3 "semantic_version.base" 289 239 0,oS "tuple" [(vs "value" 850)] 0,oD "dict" [(de P "__module__" 790 (vs "semantic_version.base" 289)),(de P "__firstlineno__" 794 (vi 62 793)),(de P "__init__" 802 (vr 198)),(de P "__repr__" 809 (vr 205)),(de P "__eq__" 817 (vr 212)),(de P "__lt__" 825 (vr 219)),(de P "__gt__" 833 (vr 226)),(de P "__le__" 841 (vr 233)),(de P "__ge__" 849 (vr 240)),(de P "__static_attributes__" 851 (vr 241)),(de P "__dict__" 853 (vr 244)),(de P "__weakref__" 855 (vr 245)),(de P "__doc__" 856 vn),(de P "__hash__" 857 vn)] 5,(Obj.mk (vt "type") none (Data.cls (ClassData.mk (so "AlphaIdentifier") [(vt "object")] [(vr 243),(vt "object")] 242 (so "AlphaIdentifier") true [] [] false none false)) ⟨[(some (vr 185)),none,(some (vs "AlphaIdentifier" 783)),(some (vs "AlphaIdentifier" 791)),(some (vb "object.__new__")),(some vT)]⟩),oF "getset_descriptor" [(vs "__dict__" 852),(vr 243),(vb "function.__dict__"),(vb "function.__dict__#set")],oF "getset_descriptor" [(vs "__weakref__" 854),(vr 243),(vb "ExceptionGroup.__weakref__"),vn]]
noncomputable def l6 (P:Params):List Obj:=[oF "super" [(vr 243),(vr 243),(vr 243)],oF "builtin_function_or_method" [(vb "object.__init_subclass__"),(vr 243)],oS "tuple" [] 0,oN [],oS "tuple" [(vs "args" 865),(vs "kwargs" 866)] 0,oS "tuple" [] 0,o1 (top1 12) "warn" "warn" 0 0,oC "warn" "warn" 862 867 94 0 0 0 15 248 vT 276 249 (vr 250) (vr 251) (vr 252),o2 (top1 12) "warn" "warn" 3 "warnings" 860 253 0,oS "tuple" [(vt "object")] 0,oF "builtin_function_or_method" [(vb "type.__prepare__"),(vt "type")],oD "dict" [(de P "__module__" 879 (vs "semantic_version.base" 870)),(de P "__qualname__" 881 (vs "Version" 880)),(de P "__firstlineno__" 883 (vi 97 882)),(de P "__init__" 899 (vr 269)),(de P "_coerce" 920 (vr 279)),(de P "next_major" 927 (vr 287)),(de P "next_minor" 934 (vr 294)),(de P "next_patch" 941 (vr 301)),(de P "truncate" 950 (vr 309)),(de P "coerce" 977 (vr 319)),(de P "parse" 1007 (vr 330)),(de P "_validate_identifiers" 1029 (vr 341)),(de P "_validate_kwargs" 1054 (vr 351)),(de P "__iter__" 1061 (vr 359)),(de P "__str__" 1069 (vr 366)),(de P "__repr__" 1076 (vr 373)),(de P "__hash__" 1083 (vr 380)),(de P "_build_precedence_key" 1093 (vr 388)),(de P "precedence_key" 1101 (vr 396)),(de P "_cmp" 1109 (vr 403)),(de P "__eq__" 1117 (vr 410)),(de P "__ne__" 1125 (vr 417)),(de P "__lt__" 1133 (vr 424)),(de P "__le__" 1141 (vr 431)),(de P "__gt__" 1149 (vr 438)),(de P "__ge__" 1157 (vr 445)),(de P "__static_attributes__" 1166 (vr 446))] 27,oS "tuple" [] 0,oN [(vi 99 0),(vi 4 0),(vr 268),(vi 123 0),(vi 4 0),(vr 276),(vi 128 0),(vi 4 0),(vr 286),(vi 131 0),(vi 4 0),(vr 293),(vi 134 0),(vi 4 0),(vr 300),(vi 137 0),(vi 4 0),(vr 308),(vi 141 0),(vi 4 0),(vr 316),(vi 179 0),(vi 4 0),(vr 327),(vi 222 0),(vi 4 0),(vr 338),(vi 230 0),(vi 4 0),(vr 348),(vi 238 0),(vi 4 0),(vr 358),(vi 241 0),(vi 4 0),(vr 365),(vi 253 0),(vi 4 0),(vr 372),(vi 256 0),(vi 4 0),(vr 379),(vi 259 0),(vi 4 0),(vr 387),(vi 270 0),(vi 4 0),(vr 394),(vi 273 0),(vi 4 0),(vr 402),(vi 276 0),(vi 4 0),(vr 409),(vi 281 0),(vi 4 0),(vr 416),(vi 286 0),(vi 4 0),(vr 423),(vi 291 0),(vi 4 0),(vr 430),(vi 296 0),(vi 4 0),(vr 437),(vi 301 0),(vi 4 0),(vr 444)],oC "Version" "Version" 874 877 97 0 0 0 0 258 vF 276 259 vn vn vn,(Obj.mk (vt "frame") none Data.plain ⟨[(some (vr 260)),(some (vr 3)),(some (vr 257)),none,(some (vs "semantic_version.base" 870)),none,(some (vr 0))]⟩),oS "tuple" [vn,vn,vn,vn,vn,vn,vF] 0,oS "tuple" [] 0,oN [],oS "tuple" [(vs "self" 887),(vs "version_string" 888),(vs "major" 889),(vs "minor" 890),(vs "patch" 891),(vs "prerelease" 892),(vs "build" 893),(vs "partial" 894),(vs "has_text" 895),(vs "has_parts" 896)] 0,oS "tuple" [] 0,o1 (mth 14 0) "__init__" "Version.__init__" 0 0,oC "__init__" "Version.__init__" 884 897 99 8 0 0 3 263 vT 276 264 (vr 265) (vr 266) (vr 267),oX (vt "function") (fd (mth 14 0) "__init__" "Version.__init__" 3 [] (vr 262) vn vn (vs "semantic_version.base" 870) none (vr 268) vn 0),oS "tuple" [vF] 0,oS "tuple" [] 0,oN [],oS "tuple" [(vs "cls" 903),(vs "value" 904),(vs "allow_none" 905)] 0,oS "tuple" [] 0,o1 (mth 14 1) "_coerce" "Version._coerce" 0 0,oC "_coerce" "Version._coerce" 900 906 122 3 0 0 3 271 vT 276 272 (vr 273) (vr 274) (vr 275),oX (vt "function") (fd (mth 14 1) "_coerce" "Version._coerce" 3 [] (vr 270) vn vn (vs "semantic_version.base" 870) (some 280) (vr 276) vn 0),oD "dict" [(de P "__module__" 909 (vs "semantic_version.base" 870)),(de P "__name__" 912 (vs "_coerce" 911)),(de P "__qualname__" 915 (vs "Version._coerce" 914)),(de P "__doc__" 917 vn),(de P "__annotations__" 919 (vr 280))] 5,(Obj.mk (vt "classmethod") (some 278) (Data.fields ⟨[(vr 277),vF]⟩) ⟨[]⟩),oD "dict" [] 0,oS "tuple" [] 0,oN [],oS "tuple" [(vs "self" 924)] 0,oS "tuple" [] 0,o1 (mth 14 2) "next_major" "Version.next_major" 0 0,oC "next_major" "Version.next_major" 921 925 128 1 0 0 3 281 vT 276 282 (vr 283) (vr 284) (vr 285),o2 (mth 14 2) "next_major" "Version.next_major" 3 "semantic_version.base" 870 286 0,oS "tuple" [] 0,oN [],oS "tuple" [(vs "self" 931)] 0,oS "tuple" [] 0,o1 (mth 14 3) "next_minor" "Version.next_minor" 0 0,oC "next_minor" "Version.next_minor" 928 932 131 1 0 0 3 288 vT 276 289 (vr 290) (vr 291) (vr 292),o2 (mth 14 3) "next_minor" "Version.next_minor" 3 "semantic_version.base" 870 293 0,oS "tuple" [] 0,oN [],oS "tuple" [(vs "self" 938)] 0,oS "tuple" [] 0,o1 (mth 14 4) "next_patch" "Version.next_patch" 0 0,oC "next_patch" "Version.next_patch" 935 939 134 1 0 0 3 295 vT 276 296 (vr 297) (vr 298) (vr 299),o2 (mth 14 4) "next_patch" "Version.next_patch" 3 "semantic_version.base" 870 300 0,oS "tuple" [(vs "patch" 942)] 0,oS "tuple" [] 0,oN [],oS "tuple" [(vs "self" 946),(vs "level" 947)] 0,oS "tuple" [] 0,o1 (mth 14 5) "truncate" "Version.truncate" 0 0,oC "truncate" "Version.truncate" 943 948 137 2 0 0 3 303 vT 276 304 (vr 305) (vr 306) (vr 307),oX (vt "function") (fd (mth 14 5) "truncate" "Version.truncate" 3 [] (vr 302) vn vn (vs "semantic_version.base" 870) none (vr 308) vn 0)]
noncomputable def l7 (P:Params):List Obj:=[oS "tuple" [vF] 0,oS "tuple" [] 0]
noncomputable def l8 (P:Params):List Obj:=[oS "tuple" [(vs "cls" 954),(vs "version_string" 955),(vs "partial" 956),(vs "base_re" 957),(vs "match" 958),(vs "version" 959),(vs "rest" 960),(vs "prerelease" 961),(vs "build" 962)] 0,oS "tuple" [] 0,o1 (mth 14 6) "coerce" "Version.coerce" 0 0]
noncomputable def l9 (P:Params):List Obj:=[oX (vt "function") (fd (mth 14 6) "coerce" "Version.coerce" 3 [] (vr 310) vn vn (vs "semantic_version.base" 870) (some 320) (vr 316) vn 0),oD "dict" [(de P "__module__" 966 (vs "semantic_version.base" 870)),(de P "__name__" 969 (vs "coerce" 968)),(de P "__qualname__" 972 (vs "Version.coerce" 971)),(de P "__doc__" 974 vn),(de P "__annotations__" 976 (vr 320))] 5,(Obj.mk (vt "classmethod") (some 318) (Data.fields ⟨[(vr 317),vF]⟩) ⟨[]⟩),oD "dict" [] 0,oS "tuple" [vF,vF] 0,oS "tuple" [] 0,oN [],oS "tuple" [(vs "cls" 981),(vs "version_string" 982),(vs "partial" 983),(vs "coerce" 984),(vs "version_re" 985),(vs "partial_version_re" 986),(vs "match" 987),(vs "major" 988),(vs "minor" 989),(vs "patch" 990),(vs "prerelease" 991),(vs "build" 992)] 0,oS "tuple" [] 0,o1 (mth 14 7) "parse" "Version.parse" 0 0,oC "parse" "Version.parse" 978 993 178 4 0 0 3 322 vT 276 323 (vr 324) (vr 325) (vr 326),oX (vt "function") (fd (mth 14 7) "parse" "Version.parse" 3 [] (vr 321) vn vn (vs "semantic_version.base" 870) (some 331) (vr 327) vn 0),oD "dict" [(de P "__module__" 996 (vs "semantic_version.base" 870)),(de P "__name__" 999 (vs "parse" 998)),(de P "__qualname__" 1002 (vs "Version.parse" 1001)),(de P "__doc__" 1004 vn),(de P "__annotations__" 1006 (vr 331))] 5,(Obj.mk (vt "classmethod") (some 329) (Data.fields ⟨[(vr 328),vF]⟩) ⟨[]⟩),oD "dict" [] 0,oS "tuple" [vF] 0,oS "tuple" [] 0,oN [],oS "tuple" [(vs "cls" 1011),(vs "identifiers" 1012),(vs "allow_leading_zeroes" 1013),(vs "item" 1014)] 0,oS "tuple" [] 0,o1 (mth 14 8) "_validate_identifiers" "Version._validate_identifiers" 0 0,oC "_validate_identifiers" "Version._validate_identifiers" 1008 1015 221 3 0 0 3 333 vT 276 334 (vr 335) (vr 336) (vr 337),oX (vt "function") (fd (mth 14 8) "_validate_identifiers" "Version._validate_identifiers" 3 [] (vr 332) vn vn (vs "semantic_version.base" 870) (some 342) (vr 338) vn 0),oD "dict" [(de P "__module__" 1018 (vs "semantic_version.base" 870)),(de P "__name__" 1021 (vs "_validate_identifiers" 1020)),(de P "__qualname__" 1024 (vs "Version._validate_identifiers" 1023)),(de P "__doc__" 1026 vn),(de P "__annotations__" 1028 (vr 342))] 5,(Obj.mk (vt "classmethod") (some 340) (Data.fields ⟨[(vr 339),vF]⟩) ⟨[]⟩),oD "dict" [] 0,oS "tuple" [] 0,oN [],oS "tuple" [(vs "cls" 1033),(vs "major" 1034),(vs "minor" 1035),(vs "patch" 1036),(vs "prerelease" 1037),(vs "build" 1038),(vs "partial" 1039)] 0,oS "tuple" [] 0,o1 (mth 14 9) "_validate_kwargs" "Version._validate_kwargs" 0 0,oC "_validate_kwargs" "Version._validate_kwargs" 1030 1040 229 7 0 0 3 343 vT 276 344 (vr 345) (vr 346) (vr 347),oX (vt "function") (fd (mth 14 9) "_validate_kwargs" "Version._validate_kwargs" 3 [] vn vn vn (vs "semantic_version.base" 870) (some 352) (vr 348) vn 0),oD "dict" [(de P "__module__" 1043 (vs "semantic_version.base" 870)),(de P "__name__" 1046 (vs "_validate_kwargs" 1045)),(de P "__qualname__" 1049 (vs "Version._validate_kwargs" 1048)),(de P "__doc__" 1051 vn),(de P "__annotations__" 1053 (vr 352))] 5,(Obj.mk (vt "classmethod") (some 350) (Data.fields ⟨[(vr 349),vF]⟩) ⟨[]⟩),oD "dict" [] 0,oS "tuple" [] 0,oN [],oS "tuple" [(vs "self" 1058)] 0,oS "tuple" [] 0,o1 (mth 14 10) "__iter__" "Version.__iter__" 0 0,oC "__iter__" "Version.__iter__" 1055 1059 238 1 0 0 35 353 vT 276 354 (vr 355) (vr 356) (vr 357),o2 (mth 14 10) "__iter__" "Version.__iter__" 3 "semantic_version.base" 870 358 0,oS "tuple" [] 0,oN [],oS "tuple" [(vs "self" 1065),(vs "version" 1066)] 0,oS "tuple" [] 0,o1 (mth 14 11) "__str__" "Version.__str__" 0 0,oC "__str__" "Version.__str__" 1062 1067 241 1 0 0 3 360 vT 276 361 (vr 362) (vr 363) (vr 364),o2 (mth 14 11) "__str__" "Version.__str__" 3 "semantic_version.base" 870 365 0,oS "tuple" [] 0,oN [],oS "tuple" [(vs "self" 1073)] 0,oS "tuple" [] 0,o1 (mth 14 12) "__repr__" "Version.__repr__" 0 0,oC "__repr__" "Version.__repr__" 1070 1074 253 1 0 0 3 367 vT 276 368 (vr 369) (vr 370) (vr 371),o2 (mth 14 12) "__repr__" "Version.__repr__" 3 "semantic_version.base" 870 372 0,oS "tuple" [] 0,oN [],oS "tuple" [(vs "self" 1080)] 0,oS "tuple" [] 0,o1 (mth 14 13) "__hash__" "Version.__hash__" 0 0,oC "__hash__" "Version.__hash__" 1077 1081 256 1 0 0 3 374 vT 276 375 (vr 376) (vr 377) (vr 378),o2 (mth 14 13) "__hash__" "Version.__hash__" 3 "semantic_version.base" 870 379 0]
noncomputable def l10 (P:Params):List Obj:=[oS "tuple" [vF] 0,oS "tuple" [] 0]
noncomputable def l11 (P:Params):List Obj:=[oS "tuple" [(vs "self" 1087),(vs "with_build" 1088),(vs "prerelease_key" 1089),(vs "build_key" 1090)] 0,oS "tuple" [] 0,o1 (mth 14 14) "_build_precedence_key" "Version._build_precedence_key" 0 0]
noncomputable def l12 (P:Params):List Obj:=[oX (vt "function") (fd (mth 14 14) "_build_precedence_key" "Version._build_precedence_key" 3 [] (vr 381) vn vn (vs "semantic_version.base" 870) none (vr 387) vn 0),oS "tuple" [] 0,oN [],oS "tuple" [(vs "self" 1097)] 0,oS "tuple" [] 0,o1 (mth 14 15) "precedence_key" "Version.precedence_key" 0 0,oC "precedence_key" "Version.precedence_key" 1094 1098 269 1 0 0 3 389 vT 276 390 (vr 391) (vr 392) (vr 393),o2 (mth 14 15) "precedence_key" "Version.precedence_key" 3 "semantic_version.base" 870 394 0,oF "property" [(vr 395),vn,vn,vn,(vs "precedence_key" 1101),vF],oS "tuple" [] 0,oN [],oS "tuple" [(vs "self" 1105),(vs "other" 1106)] 0,oS "tuple" [] 0,o1 (mth 14 16) "_cmp" "Version._cmp" 0 0,oC "_cmp" "Version._cmp" 1102 1107 273 2 0 0 3 397 vT 276 398 (vr 399) (vr 400) (vr 401),o2 (mth 14 16) "_cmp" "Version._cmp" 3 "semantic_version.base" 870 402 0,oS "tuple" [] 0,oN [],oS "tuple" [(vs "self" 1113),(vs "other" 1114)] 0,oS "tuple" [] 0,o1 (mth 14 17) "__eq__" "Version.__eq__" 0 0,oC "__eq__" "Version.__eq__" 1110 1115 276 2 0 0 3 404 vT 276 405 (vr 406) (vr 407) (vr 408),o2 (mth 14 17) "__eq__" "Version.__eq__" 3 "semantic_version.base" 870 409 0,oS "tuple" [] 0,oN [],oS "tuple" [(vs "self" 1121),(vs "other" 1122)] 0,oS "tuple" [] 0,o1 (mth 14 18) "__ne__" "Version.__ne__" 0 0,oC "__ne__" "Version.__ne__" 1118 1123 281 2 0 0 3 411 vT 276 412 (vr 413) (vr 414) (vr 415),o2 (mth 14 18) "__ne__" "Version.__ne__" 3 "semantic_version.base" 870 416 0,oS "tuple" [] 0,oN [],oS "tuple" [(vs "self" 1129),(vs "other" 1130)] 0,oS "tuple" [] 0,o1 (mth 14 19) "__lt__" "Version.__lt__" 0 0,oC "__lt__" "Version.__lt__" 1126 1131 286 2 0 0 3 418 vT 276 419 (vr 420) (vr 421) (vr 422),o2 (mth 14 19) "__lt__" "Version.__lt__" 3 "semantic_version.base" 870 423 0,oS "tuple" [] 0,oN [],oS "tuple" [(vs "self" 1137),(vs "other" 1138)] 0,oS "tuple" [] 0,o1 (mth 14 20) "__le__" "Version.__le__" 0 0,oC "__le__" "Version.__le__" 1134 1139 291 2 0 0 3 425 vT 276 426 (vr 427) (vr 428) (vr 429),o2 (mth 14 20) "__le__" "Version.__le__" 3 "semantic_version.base" 870 430 0,oS "tuple" [] 0,oN [],oS "tuple" [(vs "self" 1145),(vs "other" 1146)] 0,oS "tuple" [] 0,o1 (mth 14 21) "__gt__" "Version.__gt__" 0 0,oC "__gt__" "Version.__gt__" 1142 1147 296 2 0 0 3 432 vT 276 433 (vr 434) (vr 435) (vr 436),o2 (mth 14 21) "__gt__" "Version.__gt__" 3 "semantic_version.base" 870 437 0,oS "tuple" [] 0,oN [],oS "tuple" [(vs "self" 1153),(vs "other" 1154)] 0,oS "tuple" [] 0,o1 (mth 14 22) "__ge__" "Version.__ge__" 0 0,oC "__ge__" "Version.__ge__" 1150 1155 301 2 0 0 3 439 vT 276 440 (vr 441) (vr 442) (vr 443),o2 (mth 14 22) "__ge__" "Version.__ge__" 3 "semantic_version.base" 870 444 0,oS "tuple" [(vs "_cmp_precedence_key" 1158),(vs "_sort_precedence_key" 1159),(vs "build" 1160),(vs "major" 1161),(vs "minor" 1162),(vs "partial" 1163),(vs "patch" 1164),(vs "prerelease" 1165)] 0,oD "dict" [(de P "__module__" 879 (vs "semantic_version.base" 870)),(de P "__firstlineno__" 883 (vi 97 882)),(de P "__init__" 899 (vr 269)),(de P "_coerce" 920 (vr 279)),(de P "next_major" 927 (vr 287)),(de P "next_minor" 934 (vr 294)),(de P "next_patch" 941 (vr 301)),(de P "truncate" 950 (vr 309)),(de P "coerce" 977 (vr 319)),(de P "parse" 1007 (vr 330)),(de P "_validate_identifiers" 1029 (vr 341)),(de P "_validate_kwargs" 1054 (vr 351)),(de P "__iter__" 1061 (vr 359)),(de P "__str__" 1069 (vr 366)),(de P "__repr__" 1076 (vr 373)),(de P "__hash__" 1083 (vr 380)),(de P "_build_precedence_key" 1093 (vr 388)),(de P "precedence_key" 1101 (vr 396)),(de P "_cmp" 1109 (vr 403)),(de P "__eq__" 1117 (vr 410)),(de P "__ne__" 1125 (vr 417)),(de P "__lt__" 1133 (vr 424)),(de P "__le__" 1141 (vr 431)),(de P "__gt__" 1149 (vr 438)),(de P "__ge__" 1157 (vr 445)),(de P "__static_attributes__" 1166 (vr 446)),(de P "__dict__" 1168 (vr 449)),(de P "__weakref__" 1170 (vr 450)),(de P "__doc__" 1171 vn)] 4,(Obj.mk (vt "type") none (Data.cls (ClassData.mk (so "Version") [(vt "object")] [(vr 448),(vt "object")] 447 (so "Version") true [] [] false none false)) ⟨[(some (vr 255)),none,(some (vs "Version" 872)),(some (vs "Version" 880)),(some (vb "object.__new__")),(some vT)]⟩),oF "getset_descriptor" [(vs "__dict__" 1167),(vr 448),(vb "function.__dict__"),(vb "function.__dict__#set")],oF "getset_descriptor" [(vs "__weakref__" 1169),(vr 448),(vb "ExceptionGroup.__weakref__"),vn],oF "super" [(vr 448),(vr 448),(vr 448)]]
noncomputable def l13 (P:Params):List Obj:=[oF "builtin_function_or_method" [(vb "object.__init_subclass__"),(vr 448)],oS "tuple" [] 0,oN [],oS "tuple" [(vs "version_string" 1177)] 0,oS "tuple" [] 0,o1 (top1 15) "validate" "validate" 0 0,oC "validate" "validate" 1174 1178 305 1 0 0 3 453 vT 276 454 (vr 455) (vr 456) (vr 457),o2 (top1 15) "validate" "validate" 3 "semantic_version.base" 870 458 0,oS "tuple" [] 0,oN [],oS "tuple" [] 0,oS "tuple" [] 0,o1 (top1 17) "_law_words" "_law_words" 0 0,oC "_law_words" "_law_words" 1183 1186 312 0 0 0 3 460 vT 276 461 (vr 462) (vr 463) (vr 464),o2 (top1 17) "_law_words" "_law_words" 3 "law_lh0063_02" 1181 465 0,oS "tuple" [] 0,oN [],oS "tuple" [] 0,oS "tuple" [] 0,o1 (top1 18) "_law_odd" "_law_odd" 0 0,oC "_law_odd" "_law_odd" 1189 1192 314 0 0 0 3 467 vT 276 468 (vr 469) (vr 470) (vr 471),o2 (top1 18) "_law_odd" "_law_odd" 3 "law_lh0063_02" 1181 472 0,oS "tuple" [] 0,oN [],oS "tuple" [(vs "script" 1198),(vs "told" 1199),(vs "numbers" 1200),(vs "text" 1201),(vs "k" 1202),(vs "early" 1203),(vs "built" 1204),(vs "way" 1205),(vs "more" 1206),(vs "word" 1207),(vs "odd" 1208),(vs "times" 1209),(vs "signs" 1210),(vs "hyphens" 1211),(vs "figure" 1212),(vs "due" 1213),(vs "found" 1214),(vs "wrong" 1215),(vs "refused" 1216)] 0,oS "tuple" [] 0,o1 (top1 19) "law" "law" 0 0,oC "law" "law" 1195 1217 316 1 0 0 3 474 vT 276 475 (vr 476) (vr 477) (vr 478),o2 (top1 19) "law" "law" 3 "law_lh0063_02" 1181 479 0]
noncomputable def L481 (P:Params):List Obj:=[q0 P,q1 P,q2 P,q32 P,q4 P,q5 P,q6 P,q7 P,q8 P,q9 P,q10 P,q11 P,q12 P,q13 P,q14 P,q15 P,q16 P,q17 P,q18 P,q19 P,q20 P,q21 P,q22 P,q23 P,q24 P,q25 P,q26 P,q27 P,q28 P,q33 P,q30 P,q31 P]++(l0 P++([q44 P,q45 P]++(l1 P++([q49 P,q50 P]++(l2 P++([q54 P,q55 P]++(l3 P++(l4 P++(l5 P++(l6 P++(l7 P++([q314 P]++(l8 P++([q318 P]++(l9 P++(l10 P++([q385 P]++(l11 P++([q389 P]++(l12 P++(l13 P)))))))))))))))))))))
noncomputable def keysK:List Addr:=[2,3,4,32,34,35,37,38,42,43,47,48,52,53,57,58,59,61,62,64,65,66,73,75,76,78,79,80,82,83,85,86,87,89,90,92,93,94,96,97,99,100,101,103,104,106,107,108,110,111,113,114,115,116,117,118,119,122,129,131,132,134,135,136,138,139,141,142,143,145,146,148,149,150,152,153,155,156,157,159,160,162,163,164,166,167,169,170,171,173,174,176,177,178,179,180,181,182,185,192,194,195,197,198,199,201,202,204,205,206,208,209,211,212,213,215,216,218,219,220,222,223,225,226,227,229,230,232,233,234,236,237,239,240,241,242,243,244,245,248,250,251,253,254,255,262,263,265,266,268,269,270,271,273,274,276,277,278,279,280,281,283,284,286,287,288,290,291,293,294,295,297,298,300,301,302,303,305,306,308,309,310,311,313,314,316,317,318,319,320,321,322,324,325,327,328,329,330,331,332,333,335,336,338,339,340,341,342,343,345,346,348,349,350,351,352,353,355,356,358,359,360,362,363,365,366,367,369,370,372,373,374,376,377,379,380,381,382,384,385,387,388,389,391,392,394,395,396,397,399,400,402,403,404,406,407,409,410,411,413,414,416,417,418,420,421,423,424,425,427,428,430,431,432,434,435,437,438,439,441,442,444,445,446,447,448,449,450,453,455,456,458,459,460,462,463,465,466,467,469,470,472,473,474,476,477,479,480]
noncomputable def envT:Env:=(PySem.Env.mk (PySem.Module.scope (PySem.Program.main pr1)) PySem.mainNs PySem.mainNs [] PySem.Str.empty Option.none (vr 30) (Option.some 31) 0)
noncomputable abbrev hpOf (l:List Obj):Heap:=⟨⟨l⟩,{}⟩
noncomputable def treeOf:List Obj→Nat→BT→BT
  | [],_,t=>t
  | o::r,n,t=>treeOf r (n+1) (t.ins n o)
noncomputable abbrev cE:Code:=Code.body (behindTheImports pr1) envT
noncomputable abbrev tfr:List Frame:=[topFrame { line:=0,col:=0,endLine:=0,endCol:=0 }]
noncomputable abbrev looseL:List PySem.Str:=[so "_twin_re_1",so "_twin_re_2",so "_twin_re_3",so "_twin_re_4",so "Version"]
noncomputable def viewQ:Program:={ pr1 with main:={ pr1.main with body:=([0,1,3,4,5,6,7,8,9,10,12,14,15,17,18,19]:List Nat).map top1 } }
theorem l_open (w:World):(fencedOpening treeTable pr1 w 7760).map (fun s=>(s.heap,s.gens,s.drawn,s.toks))=some (hpOf (L28 w.params),#[],{},276):=by
  unfold fencedOpening
  rw [PySem.W.Fast.te10274390034422433532,PySem.W.Fast.te14364793385576792824]
  kernel_rfl
theorem l_size (w:World):((hpOf (L28 w.params)).isNs mainGlobals&&(#[]:Array GenState).size==0,(hpOf (L28 w.params)).objs.size,(hpOf (L28 w.params)).nsMap mainGlobals "__annotations__")=(true,28,some (Value.ref 6)):=by
  kernel_rfl
theorem l_pre (w:World) (os:OsState):topGo treeTable pr1 w 28 (some (Value.ref 6)) 12 { heap:=hpOf (L28 w.params),toks:=276,os:=os } (topStub pr1) =
    some ({ heap:=hpOf (L32 w.params),toks:=282,os:=os },{ cur:=denote treeTable cE,code:=cE,pos:={ line:=0,col:=0,endLine:=0,endCol:=0 },stack:=tfr }):=by
  rw [PySem.W.Fast.te15667345088766844465,PySem.W.Fast.te14364793385576792824,PySem.W.Fast.te11892475500146522536]
  kernel_rfl
theorem l_block (w:World) (os:OsState):segRun treeTable pr1 w 28 (some (Value.ref 6)) 1 1 { heap:=hpOf (L32 w.params),toks:=282,os:=os }
        (blockOf (behindTheImports pr1) envT cE { line:=0,col:=0,endLine:=0,endCol:=0 } tfr) =
    some (Flow.next,SharedT.abs { tree:=treeOf (L32 w.params) 0 .nil,n:=32,life:={ },gens:={ toList:=[] },drawn:={ },toks:=282,os:=os },cE,{ line:=0,col:=0,endLine:=0,endCol:=0 }):=by
  kernel_rfl
theorem l_fin (w:World) (os:OsState):topRun treeTable pr1 w 28 (some (Value.ref 6)) 2
        (SharedT.abs { tree:=treeOf (L481 w.params) 0 .nil,n:=481,life:={ },gens:={ toList:=[] },drawn:={ },toks:=1220,os:=os })
        { cur:=doneF Flow.next,code:=cE,pos:={ line:=316,col:=0,endLine:=363,endCol:=15 },stack:=tfr } =
    some { heap:=hpOf (L481 w.params),toks:=1220,os:=os }:=by
  kernel_rfl
theorem l_all (w:World):(fun os=>
      segRunT treeTable pr1 w 28 (some (Value.ref 6)) 1 3720
        { tree:=treeOf (L32 w.params) 0 .nil,n:=32,life:={ },gens:={ toList:=[] },drawn:={ },
            toks:=282,os:=os }
        (W.piecesOf (behindTheImports pr1) envT cE { line:=0,col:=0,endLine:=0,endCol:=0 } tfr)) =
    fun os=>
    some
      (Flow.next,
        { tree:=treeOf (L481 w.params) 0 .nil,n:=481,life:={ },gens:={ toList:=[] },drawn:={ },
          toks:=1220,os:=os },cE,{ line:=316,col:=0,endLine:=363,endCol:=15 }):=by
  rw [PySem.W.Fast.te10110043849684766642,PySem.W.Fast.te14364793385576792824]
  kernel_rfl
theorem l_run (w:World) (os:OsState):topRun treeTable pr1 w 28 (some (Value.ref 6)) (12+(1+(3720+2))) { heap:=hpOf (L28 w.params),toks:=276,os:=os } (topStub pr1)=some { heap:=hpOf (L481 w.params),toks:=1220,os:=os }:=by
  refine go_top (l_pre w os) (piece_block (l_block w os) ?_)
  have h:=piece_app (rest:=[]) (segRun_of (congrFun (l_all w) os)) (l_fin w os)
  rw [List.append_nil] at h
  exact h
theorem l_looks1 (w:World) (os:OsState):(staticsOk (importedModules pr1.main.body) (hpOf (L28 w.params)) (hpOf (L481 w.params))&&namesBound pr1 (hpOf (L481 w.params))&&gensDone { heap:=hpOf (L481 w.params),toks:=1220,os:=os }&&laidKept (hpOf (L28 w.params)) (hpOf (L481 w.params)))=true:=by
  kernel_rfl
noncomputable abbrev xtQ (s:Shared):Bool:=xlAt viewQ [] s&&recOk (RowW.records PySem.Challenge.rw_lh0063_02.row.toRowW) s
theorem l_looks2 (w:World) (os:OsState):openSeen viewQ looseL (importedModules pr1.main.body) xtQ true { heap:=hpOf (L481 w.params),toks:=1220,os:=os }=openGood viewQ looseL:=by
  rw [PySem.W.Fast.te4187177175401517315]
  kernel_rfl
noncomputable def objAt (P:Params) (a:Nat):Obj:=(L481 P).getD a ⟨.none,none,.plain,#[]⟩
noncomputable def KF (P:Params):Frag:=keysK.map fun a=>(a,objAt P a)
noncomputable def keysH:List Addr:=keysK++[312,383]
noncomputable def KH (P:Params):Frag:=keysH.map fun a=>(a,objAt P a)
theorem KH_keys (P:Params):keysH=(KH P).map (·.1):=by unfold KH;rw [List.map_map];exact (List.map_id' keysH).symm
noncomputable abbrev HK:Hook:=kHook KH keysH KH_keys
theorem l_looks3 (w:World) (os:OsState):HK.obs { heap:=hpOf (L481 w.params),toks:=1220,os:=os }=HK.val w:=by
  kernel_rfl
theorem l_left:LeftO pr1 viewQ looseL xtQ HK.obs HK.val 7760:=
  LeftO.of_pieces (H₀:=fun P=>hpOf (L28 P)) (H₁:=fun P=>hpOf (L481 P)) (gs₀:=#[]) (gs₁:=#[]) (d₀:={}) (d₁:={}) (k₀:=276) (k₁:=1220) (m₀:=28) (ann:=some (Value.ref 6)) (M:=12+(1+(3720+2)))
    l_open l_size l_run (by decide) fun w=>funext fun os=>by
      show ((staticsOk (importedModules pr1.main.body) (hpOf (L28 w.params)) (hpOf (L481 w.params))&&namesBound pr1 (hpOf (L481 w.params))&&gensDone { heap:=hpOf (L481 w.params),toks:=1220,os:=os }&&laidKept (hpOf (L28 w.params)) (hpOf (L481 w.params))),
        openSeen viewQ looseL (importedModules pr1.main.body) xtQ true { heap:=hpOf (L481 w.params),toks:=1220,os:=os },HK.obs { heap:=hpOf (L481 w.params),toks:=1220,os:=os })=(true,openGood viewQ looseL,HK.val w)
      rw [l_looks1,l_looks2,l_looks3]
end Mine
end
section
open PySem PySem.W PySem.Calls PyProof.Rows
namespace Mine
noncomputable def Claim (w:World):Prop:=∀ (s₁:Shared) (c:ClaimW) (cl:PySem.Str→Option Addr) (mean:ExcName→Option PySem.Value) (args:List WData) (a:Addr) (vs:List PySem.Value) (ns:List Int),(KH w.params).In s₁.heap→(∃ mb,s₁.heap.Ns builtinsNs mb∧∀ x:PySem.Str,x≠"__name__"→mb x=bootBuiltins x)→s₁.heap.NoLimit→(∃ mc,s₁.heap.Ns cStatics mc∧mc "sys.int_max_str_digits"=none) →
  s₁.heap.IsList a vs.toArray→IntsAre vs ns→ns.length≤63→s₁.gens=#[]→(∀ cls,c.raises args cls=false)→c.post args (.bool true) args=true →
  wpAny (model prog w) callerA (call (.ref 480) [.ref a]) (fun v s'=>GoodWG c cl mean args s₁ (.ok (.ret v)) s') (fun e s'=>GoodWG c cl mean args s₁ (.error e) s') s₁
theorem someWorld:Nonempty World:=⟨{ draws:=fun Z Z=>0,params:={ strHash:=fun Z=>0,shareClass:=fun Z=>0,mergeTok:=id,idOf:=fun Z=>0,idOfShared:=fun Z Z=>0,followText:=fun Z=>false,idOfImm:=fun Z=>0 } }⟩
noncomputable def w0:World:=@Classical.epsilon World someWorld fun w=>¬ Claim w
theorem claim_of (h:Claim w0) (w:World):Claim w:=Classical.byContradiction fun n=>@Classical.epsilon_spec World (fun w=>¬ Claim w) ⟨w,n⟩ h
noncomputable def K0:Frag:=KF w0.params
end Mine
end
section
open PySem PySem.W PySem.Calls PyProof.Rows
namespace Mine
noncomputable def grpsOk (txt:PySem.Str):List (Option PySem.Str)→List Int→Prop
  | [],l=>l=[]
  | some x::gs,l=>∃ b c r,l=(b:Int)::(c:Int)::r∧0≤b∧0≤c∧x=⟨txt.cps.extract b.toNat c.toNat⟩∧grpsOk txt gs r
  | none::gs,l=>∃ b c r,l=(b:Int)::(c:Int)::r∧(b < 0∨c < 0)∧grpsOk txt gs r
noncomputable def matOk (txt:PySem.Str) (gs:List (Option PySem.Str)) (l:List Int):Prop:=grpsOk txt gs l∧txt.length≤lenLine∧gs.length≤1000
inductive SeqR (B:Addr→Prop) (is:Addr→Array PySem.Value→Prop) (n:Nat) (Q:List PySem.Value→Prop) (v:PySem.Value):Prop
  | mk (a:Addr) (vs:List PySem.Value) (e:v=.ref a) (nb:¬ B a) (t:is a vs.toArray) (hn:n≤lenLine) (q:Q vs)
inductive InsR (B:Addr→Prop) (h:Heap) (C:Addr) (Q:List DictEntry→Prop) (v:PySem.Value):Prop
  | mk (d:Addr) (es:List DictEntry) (n:Nat) (e:v=.ref (d+1)) (n1:¬ B (d+1)) (n2:¬ B d) (h1:h.get? (d+1)=some (instObj C d)) (h2:h.get? d=some (dictOf es n)) (q:Q es)
inductive MatR (B:Addr→Prop) (h:Heap) (gs:List (Option PySem.Str)) (e:Nat) (v:PySem.Value):Prop
  | mk (a:Addr) (o:Obj) (txt:PySem.Str) (t:Tok) (p l li pat:PySem.Value) (sp:Addr) (b0:Int) (rest:List Int) (eq:v=.ref a) (n1:¬ B a) (n2:¬ B sp) (h1:h.get? a=some o) (h2:o.cls=.type "re.Match") (h3:o.dict=none)
    (h4:o.data=.fields #[.str txt t,pat,p,l,li,.ref sp]) (h5:IsTup h sp ((b0::(e:Int)::rest).map rawInt).toArray) (h6:matOk txt gs rest)
inductive ConsR (X:PySem.Value→Prop) (Y:List PySem.Value→Prop) (vs:List PySem.Value):Prop
  | mk (v:PySem.Value) (r:List PySem.Value) (e:vs=v::r) (h1:X v) (h2:Y r)
inductive EntR (x:PySem.Str) (X:PySem.Value→Prop) (Y:List DictEntry→Prop) (es:List DictEntry):Prop
  | mk (t:Tok) (v:PySem.Value) (r:List DictEntry) (e:es=⟨PyData.keyHash w0.params x,.str x t,v⟩::r) (h1:X v) (h2:Y r)
mutual
noncomputable def VR (B:Addr→Prop) (h:Heap):PV→PySem.Value→Prop
  | .none,v=>v=.none
  | .bool b,v=>v=.bool b
  | .int i,v=>∃ t,v=.int i t
  | .str x,v=>∃ t,v=.str x t∧x.length≤lenLine
  | .tup l,v=>SeqR B (IsTup h) l.length (VRs B h l) v
  | .list l,v=>SeqR B h.IsList l.length (VRs B h l) v
  | .inst C fs,v=>InsR B h C (VRf B h fs) v
  | .glob w,v=>v=w
  | .mat gs e,v=>MatR B h gs e v
  | .any,_=>True
  | .own,_=>False
noncomputable def VRs (B:Addr→Prop) (h:Heap):List PV→List PySem.Value→Prop
  | [],vs=>vs=[]
  | p::l,vs=>ConsR (VR B h p) (VRs B h l) vs
noncomputable def VRf (B:Addr→Prop) (h:Heap):List (PySem.Str×PV)→List DictEntry→Prop
  | [],es=>es=[]
  | p::l,es=>EntR p.1 (VR B h p.2) (VRf B h l) es
end
noncomputable def KeepB (B:Addr→Prop) (h h':Heap):Prop:=∀ b o,h.get? b=some o→¬ B b→h'.get? b=some o
theorem IsTup.keepB {B:Addr→Prop} {h h':Heap} {a items} (x:IsTup h a items) (k:KeepB B h h') (hb:¬ B a):IsTup h' a items:=let ⟨o,ho,r⟩:=x;⟨o,k a o ho hb,r⟩
theorem IsList.keepB {B:Addr→Prop} {h h':Heap} {a items} (x:h.IsList a items) (k:KeepB B h h') (hb:¬ B a):h'.IsList a items:=let ⟨o,ho,r⟩:=x;⟨o,k a o ho hb,r⟩
mutual
theorem VR.keep {B B':Addr→Prop} {h h':Heap} (k:KeepB B h h') (hB:∀ b o,h.get? b=some o→B' b→B b):∀ {p:PV} {v:PySem.Value},VR B h p v→VR B' h' p v
  | .none,_,x=>x
  | .bool _,_,x=>x
  | .int _,_,x=>x
  | .str _,_,x=>x
  | .glob _,_,x=>x
  | .any,_,_=>trivial
  | .own,_,x=>False.elim x
  | .tup l,v,x=>by
    obtain ⟨a,vs,rfl,hb,ht,hn,hv⟩:=x
    obtain ⟨o,ho,r⟩:=id ht
    exact SeqR.mk a vs rfl (fun y=>hb (hB a o ho y)) (IsTup.keepB ht k hb) hn (VRs.keep k hB hv)
  | .list l,v,x=>by
    obtain ⟨a,vs,rfl,hb,ht,hn,hv⟩:=x
    obtain ⟨o,ho,r⟩:=id ht
    exact SeqR.mk a vs rfl (fun y=>hb (hB a o ho y)) (IsList.keepB ht k hb) hn (VRs.keep k hB hv)
  | .inst C fs,v,x=>by
    obtain ⟨d,es,n,rfl,h1,h2,h3,h4,h5⟩:=x
    exact InsR.mk d es n rfl (fun y=>h1 (hB _ _ h3 y)) (fun y=>h2 (hB _ _ h4 y)) (k _ _ h3 h1) (k _ _ h4 h2) (VRf.keep k hB h5)
  | .mat gs e,v,x=>by
    obtain ⟨a,o,txt,t,p,l,li,pat,sp,b0,rest,rfl,h1,h2,h3,h4,h4',h5,h6,h7⟩:=x
    obtain ⟨o',ho',r⟩:=id h6
    exact MatR.mk a o txt t p l li pat sp b0 rest rfl (fun y=>h1 (hB _ _ h3 y)) (fun y=>h2 (hB _ _ ho' y)) (k _ _ h3 h1) h4 h4' h5 (IsTup.keepB h6 k h2) h7
theorem VRs.keep {B B':Addr→Prop} {h h':Heap} (k:KeepB B h h') (hB:∀ b o,h.get? b=some o→B' b→B b):∀ {p:List PV} {v:List PySem.Value},VRs B h p v→VRs B' h' p v
  | [],_,x=>x
  | p::l,_,x=>by
    obtain ⟨v,r,rfl,h1,h2⟩:=x
    exact ConsR.mk v r rfl (VR.keep k hB h1) (VRs.keep k hB h2)
theorem VRf.keep {B B':Addr→Prop} {h h':Heap} (k:KeepB B h h') (hB:∀ b o,h.get? b=some o→B' b→B b):∀ {p:List (PySem.Str×PV)} {v:List DictEntry},VRf B h p v→VRf B' h' p v
  | [],_,x=>x
  | p::l,_,x=>by
    obtain ⟨t,v,r,rfl,h1,h2⟩:=x
    exact EntR.mk t v r rfl (VR.keep k hB h1) (VRf.keep k hB h2)
end
noncomputable def isT (b:Addr):Prop:=∃ p∈T,p.2=b
structure Ext (F:List Addr) (h h':Heap):Prop where
  keep:∀ b o,h.get? b=some o→¬ isT b→b∉F→h'.get? b=some o
  grow:∀ b ps,isT b→h.get? b=some { cls:=.none,data:=.fields ps }→∃ more,h'.get? b=some { cls:=.none,data:=.fields (ps++more) }
  fr:∀ b o,b∈F→h.get? b=some o→(∀ vs,o.data≠.fields vs)→∃ sl,h'.get? b=some { o with slots:=sl }
noncomputable def TabI (h:Heap):Prop:=∀ p∈T,∃ ps,h.IsCode p.1 p.2 ps∧h.TableAt p.1 p.2 ps
theorem isCode_at {h h':Heap} {c P:Addr} {ps:Array Value} (x:h.IsCode c P ps) (kc:∀ o,h.get? c=some o→h'.get? c=some o) (kP:∀ o,h.get? P=some o→h'.get? P=some o):h'.IsCode c P ps:=by
  obtain ⟨o,vs,file,tf,flags,tg,inF,text,tt,op,ho,r1,r2,r3,r4,r5,r6,hop,r⟩:=x
  exact ⟨o,vs,file,tf,flags,tg,inF,text,tt,op,kc _ ho,r1,r2,r3,r4,r5,r6,kP _ hop,r⟩
theorem tableAt_at {h h':Heap} {c P:Addr} {ps:Array Value} (x:h.TableAt c P ps) (kc:∀ o,h.get? c=some o→h'.get? c=some o) (kP:∀ o,h.get? P=some o→h'.get? P=some o):h'.TableAt c P ps:=by
  obtain ⟨⟨o,vs,ho,r⟩,hp⟩:=x
  exact ⟨⟨o,vs,kc _ ho,r⟩,kP _ hp⟩
theorem Ext.refl (F) (h:Heap):Ext F h h:=⟨fun Z Z e Z Z=>e,fun Z ps Z e=>⟨#[],by rw [e];simp⟩,fun Z o Z e Z=>⟨o.slots,e⟩⟩
theorem Ext.trans {F} {h₁ h₂ h₃:Heap} (x:Ext F h₁ h₂) (y:Ext F h₂ h₃):Ext F h₁ h₃:=
  ⟨fun b o e q f=>y.keep b o (x.keep b o e q f) q f,fun b ps q e=>by
    obtain ⟨m,hm⟩:=x.grow b ps q e
    obtain ⟨m',hm'⟩:=y.grow b _ q hm;clear hm
    exact ⟨m++m',by rw [hm',Array.append_assoc]⟩,fun b o f e n=>by
    obtain ⟨sl,h⟩:=x.fr b o f e n
    obtain ⟨sl',h'⟩:=y.fr b _ f h n;clear n
    exact ⟨sl',h'⟩⟩
theorem Ext.of_keeps {F} {h h':Heap} (k:∀ b o,h.get? b=some o→h'.get? b=some o):Ext F h h':=
  ⟨fun b o e Z Z=>k b o e,fun b ps Z e=>⟨#[],by rw [k _ _ e];simp⟩,fun b o Z e Z=>⟨o.slots,k _ _ e⟩⟩
theorem TabI.of_keeps  {h h':Heap} (x:TabI h) (k:∀ b o,h.get? b=some o→h'.get? b=some o):TabI h':=fun p hp=>
  let ⟨ps,a,b⟩:=x p hp;⟨ps,a.keeps k,b.keeps k⟩
structure Go (F:List Addr) (s s':Shared):Prop where
  ext:Ext F s.heap s'.heap
  tab:TabI s.heap→TabI s'.heap
  os:s'.os=s.os
  gens:∀ (i:Nat) gs,s.gens[i]?=some gs→s'.gens[i]?=some gs
  bare:AllBare s.gens→AllBare s'.gens
theorem Go.refl (F) (s:Shared):Go F s s:=⟨Ext.refl F _,id,rfl,fun Z Z e=>e,id⟩
theorem Go.trans {F} {s₁ s₂ s₃:Shared} (x:Go F s₁ s₂) (y:Go F s₂ s₃):Go F s₁ s₃:=
  ⟨x.ext.trans y.ext,fun t=>y.tab (x.tab t),y.os.trans x.os,fun i gs e=>y.gens i gs (x.gens i gs e),fun b=>y.bare (x.bare b)⟩
theorem Go.of_keeps {F} {s s':Shared} (k:Keeps s s'):Go F s s':=by
  obtain ⟨h',tk,rfl,k⟩:=k
  exact ⟨Ext.of_keeps k,fun t=>t.of_keeps k,rfl,fun Z Z e=>e,id⟩
theorem Keeps.refl (s:Shared):Keeps s s:=⟨s.heap,s.toks,rfl,fun Z Z e=>e⟩
theorem Keeps.trans {s₁ s₂ s₃:Shared} (x:Keeps s₁ s₂) (y:Keeps s₂ s₃):Keeps s₁ s₃:=by
  obtain ⟨h',tk,rfl,k⟩:=x
  obtain ⟨h'',tk',rfl,k'⟩:=y
  exact ⟨h'',tk',rfl,fun b o e=>k' b o (k b o e)⟩
noncomputable def GoS (F:List Addr) (st:Bool) (s s':Shared):Prop:=match st with
  | true=>Keeps s s'
  | false=>Go F s s'
theorem GoS.refl (F st) (s:Shared):GoS F st s s:=by induction st<;>first | exact Keeps.refl s | exact Go.refl F s
theorem GoS.trans {F st} {s₁ s₂ s₃:Shared} (x:GoS F st s₁ s₂) (y:GoS F st s₂ s₃):GoS F st s₁ s₃:=by
  induction st<;>first | exact Keeps.trans x y | exact Go.trans x y
theorem GoS.go {F st} {s s':Shared} (x:GoS F st s s'):Go F s s':=by induction st<;>first | exact x | exact Go.of_keeps x
theorem GoS.of_keeps {F st} {s s':Shared} (k:Keeps s s'):GoS F st s s':=by induction st<;>first | exact k | exact Go.of_keeps k
theorem GoS.heap {F st} {s:Shared} {h':Heap} {tk:Tok} (k:∀ b o,s.heap.get? b=some o→h'.get? b=some o):GoS F st s { s with heap:=h',toks:=tk }:=GoS.of_keeps ⟨h',tk,rfl,k⟩
theorem GoS.toks {F st} {s:Shared} {tk:Tok}:GoS F st s { s with toks:=tk }:=GoS.of_keeps ⟨s.heap,tk,rfl,fun Z Z e=>e⟩
structure ApF (h:Heap) (b:Addr):Prop where
  k:K0.lookup b=none
  nb:b≠builtinsNs
  nc:b≠cStatics
  nt:¬ isT b
  ex:∃ o,h.get? b=some o∧∀ vs,o.data≠.fields vs
structure GI (F:List Addr) (h:Heap):Prop where
  k:K0.In h
  apart:∀ b,isT b→K0.lookup b=none∧b≠builtinsNs∧b≠cStatics
  apartF:∀ b,b∈F→ApF h b
  b:∃ mb,h.Ns builtinsNs mb∧∀ x:PySem.Str,x≠"__name__"→mb x=bootBuiltins x
  lim:h.NoLimit
  dig:∃ mc,h.Ns cStatics mc∧mc "sys.int_max_str_digits"=none
  tab:TabI h
  codes:∀ c∈gcodes,∃ P,(c,P)∈T
theorem GI.ext {F} {h h':Heap} (x:GI F h) (e:Ext F h h') (t:TabI h'):GI F h' where
  k:=fun a o q=>e.keep a o (x.k a o q) (fun y=>by have:=(x.apart a y).1;rw [this] at q;cases q) (fun y=>by have:=(x.apartF a y).k;rw [this] at q;cases q)
  apart:=x.apart
  apartF:=fun b hb=>by
    obtain ⟨h1,h2,h3,h4,o,ho,n⟩:=x.apartF b hb
    obtain ⟨sl,q⟩:=e.fr b o hb ho n
    exact ⟨h1,h2,h3,h4,_,q,n⟩
  b:=let ⟨mb,a,r⟩:=x.b;⟨mb,a.at fun o q=>e.keep _ o q (fun y=>(x.apart _ y).2.1 rfl) fun y=>(x.apartF _ y).nb rfl,r⟩
  lim:=x.lim.at fun o q=>e.keep _ o q (fun y=>(x.apart _ y).2.2 rfl) fun y=>(x.apartF _ y).nc rfl
  dig:=let ⟨mc,a,r⟩:=x.dig;⟨mc,a.at fun o q=>e.keep _ o q (fun y=>(x.apart _ y).2.2 rfl) fun y=>(x.apartF _ y).nc rfl,r⟩
  tab:=t
  codes:=x.codes
theorem GI.go {F} {s s':Shared} (x:GI F s.heap) (g:Go F s s'):GI F s'.heap:=x.ext g.ext (g.tab x.tab)
theorem GI.keeps {F} {h h':Heap} (x:GI F h) (k:∀ b o,h.get? b=some o→h'.get? b=some o):GI F h':=x.ext (Ext.of_keeps k) (x.tab.of_keeps k)
structure Bd (F:List Addr) (B:Addr→Prop) (h:Heap):Prop where
  t:∀ b,isT b→B b
  f:∀ b,b∈F→B b
  ex:∀ b,B b→∃ o,h.get? b=some o
theorem Bd.lt {F B} {h:Heap} (x:Bd F B h) {b:Addr} (hb:B b):b < h.objs.size:=let ⟨_,e⟩:=x.ex b hb;Heap.lt_size e
theorem Ext.there {F} {h h':Heap} (e:Ext F h h') (t:TabI h') (f:∀ b∈F,∃ o,h.get? b=some o∧∀ vs,o.data≠.fields vs) {b:Addr} (q:∃ o,h.get? b=some o):∃ o,h'.get? b=some o:=by
  obtain ⟨o,q⟩:=q
  by_cases hF:b∈F
  · obtain ⟨o',q',n⟩:=f b hF
    obtain ⟨sl,z⟩:=e.fr b o' hF q' n;clear n
    exact ⟨_,z⟩
  · by_cases hT:isT b
    · obtain ⟨p,hp,rfl⟩:=hT
      obtain ⟨ps,Z,tt⟩:=t p hp;clear hp
      exact ⟨_,tt.2⟩
    · exact ⟨o,e.keep b o q hT hF⟩
theorem Bd.go {F B} {s s':Shared} (x:Bd F B s.heap) (g:Go F s s') (G:GI F s.heap):Bd F B s'.heap:=
  ⟨x.t,x.f,fun b hb=>g.ext.there (g.tab G.tab) (fun b hb=>(G.apartF b hb).ex) (x.ex b hb)⟩
theorem KeepB.of_ext {F} {B:Addr→Prop} {h h':Heap} (e:Ext F h h') (ht:∀ b,isT b→B b) (hf:∀ b,b∈F→B b):KeepB B h h':=fun b o q nb=>e.keep b o q (fun t=>nb (ht b t)) fun f=>nb (hf b f)
theorem VR.go {F} {B:Addr→Prop} {s s':Shared} {p:PV} {v:PySem.Value} (x:VR B s.heap p v) (g:Go F s s') (D:Bd F B s.heap):VR B s'.heap p v:=x.keep (KeepB.of_ext g.ext D.t D.f) fun Z Z Z q=>q
theorem VRs.go {F} {B:Addr→Prop} {s s':Shared} {p:List PV} {v:List PySem.Value} (x:VRs B s.heap p v) (g:Go F s s') (D:Bd F B s.heap):VRs B s'.heap p v:=x.keep (KeepB.of_ext g.ext D.t D.f) fun Z Z Z q=>q
theorem VRf.go {F} {B:Addr→Prop} {s s':Shared} {p:List (PySem.Str×PV)} {v:List DictEntry} (x:VRf B s.heap p v) (g:Go F s s') (D:Bd F B s.heap):VRf B s'.heap p v:=x.keep (KeepB.of_ext g.ext D.t D.f) fun Z Z Z q=>q
noncomputable def VV (B:Addr→Prop) (h:Heap) (μ:Option Addr) (p:PV) (v:PySem.Value):Prop:=match p with
  | .own=>∃ a,μ=some a∧v=.ref a
  | p=>VR B h p v
theorem VV.of {B h μ p v} (x:VR B h p v):VV B h μ p v:=by
  induction p using PV.casesOn<;>first | exact x | (exact False.elim x)
theorem VV.solid {B h μ p v} (x:VV B h μ p v) (s:solid p=true):VR B h p v:=by
  induction p using PV.casesOn<;>first | exact x | cases s
theorem VV.go {F} {B:Addr→Prop} {s s':Shared} {μ} {p:PV} {v:PySem.Value} (x:VV B s.heap μ p v) (g:Go F s s') (D:Bd F B s.heap):VV B s'.heap μ p v:=by
  induction p using PV.casesOn<;>first | exact VR.go x g D | exact x
inductive MuL (F:List Addr) (B:Addr→Prop) (h:Heap) (n:Nat) (Q:List PySem.Value→Prop) (μ:Option Addr):Prop
  | mk (a:Addr) (vs:List PySem.Value) (n':Nat) (e:μ=some a) (b:B a) (nt:¬ isT a) (nf:a∉F) (h1:h.get? a=some (listOf vs.toArray n')) (hn:n≤lenLine) (q:Q vs)
inductive MuO (F:List Addr) (B:Addr→Prop) (h:Heap) (C:Addr) (Q:List DictEntry→Prop) (μ:Option Addr):Prop
  | mk (d:Addr) (es:List DictEntry) (n:Nat) (e:μ=some (d+1)) (b1:B (d+1)) (b2:B d) (t1:¬ isT (d+1)) (t2:¬ isT d) (f1:d+1∉F) (f2:d∉F) (h1:h.get? (d+1)=some (instObj C d)) (h2:h.get? d=some (dictOf es n)) (q:Q es)
noncomputable def MuI (F:List Addr) (B:Addr→Prop) (h:Heap):Option MO→Option Addr→Prop
  | none,μ=>μ=none
  | some (.list l),μ=>MuL F B h l.length (VRs B h l) μ
  | some (.inst C fs),μ=>MuO F B h C (VRf B h fs) μ
theorem MuI.go {F} {B:Addr→Prop} {s s':Shared} {mo μ} (x:MuI F B s.heap mo μ) (g:Go F s s') (D:Bd F B s.heap):MuI F B s'.heap mo μ:=by
  rcases mo with Z | (l | ⟨C,fs⟩)
  · exact x
  · obtain ⟨a,vs,n,h1,h2,h3,h4,h5,h5',h6⟩:=x
    exact ⟨a,vs,n,h1,h2,h3,h4,g.ext.keep _ _ h5 h3 h4,h5',h6.go g D⟩
  · obtain ⟨d,es,n,h1,h2,h3,h4,h5,h6,h7,h8,h9,h10⟩:=x
    exact ⟨d,es,n,h1,h2,h3,h4,h5,h6,h7,g.ext.keep _ _ h8 h4 h6,g.ext.keep _ _ h9 h5 h7,h10.go g D⟩
theorem Ns_slots {h h':Heap} {a:Addr} {m} (x:h.Ns a m) (k:∀ o,h.get? a=some o→∃ sl,h'.get? a=some { o with slots:=sl }):h'.Ns a m:=by
  obtain ⟨o,es,ep,ho,hd,r⟩:=x
  obtain ⟨sl,q⟩:=k o ho;clear ho
  exact ⟨_,es,ep,q,hd,r⟩
noncomputable def TkOk (s:Shared):Prop:=s.toks≠0
theorem TkOk.up {s s':Shared} (h:TkOk s) (k:s.toks≤s'.toks):TkOk s':=Nat.pos_iff_ne_zero.mp (Nat.lt_of_lt_of_le (Nat.pos_iff_ne_zero.mpr h) k)
inductive CelR (F:List Addr) (env:Env) (B:Addr→Prop) (h:Heap) (x:PySem.Str) (Q:PySem.Value→Prop):Prop
  | mk (c:Addr) (o:Obj) (w:PySem.Value) (e:env.cells.lookup x=some c) (h1:h.get? c=some o) (h2:o.data=.cell (some w)) (b:B c) (nt:¬ isT c) (nf:c∉F) (q:Q w)
inductive NsR (env:Env) (B:Addr→Prop) (h:Heap) (μ:Option Addr) (l:List (Str×PV)):Prop
  | mk (m:Str→Option Value) (hn:h.Ns env.locals m) (hm:∀ x v,l.lookup x=some v→∃ w,m x=some w∧VV B h μ v w)
structure FI (F:List Addr) (st:Bool) (env:Env) (B:Addr→Prop) (μ:Option Addr) (fm:Fm) (s:Shared):Prop where
  gi:GI F s.heap
  bd:Bd F B s.heap
  sc:env.scope=fm.scope
  kind:fm.scope.kind=.function
  glo:env.globals=mainGlobals
  bui:env.builtins=builtinsNs
  nt:¬ isT env.locals
  bl:B env.locals
  ns:NsR env B s.heap μ fm.loc
  cel:∀ x v,fm.cel.lookup x=some v→CelR F env B s.heap x (VR B s.heap v)
  mu:MuI F B s.heap fm.mu μ
  tk:st=false→fm.tk=true→TkOk s
  code:st=false→env.code=fm.code
theorem FI.go {F st env B μ fm} {s s':Shared} (x:FI F st env B μ fm s) (g:Go F s s') (hk:s.toks≤s'.toks):FI F st env B μ fm s' where
  gi:=x.gi.go g
  bd:=x.bd.go g x.gi
  sc:=x.sc
  kind:=x.kind
  glo:=x.glo
  bui:=x.bui
  nt:=x.nt
  bl:=x.bl
  ns:=by
    obtain ⟨m,hn,hv⟩:=x.ns
    refine ⟨m,?_,fun y v e=>let ⟨w,a,b⟩:=hv y v e;⟨w,a,b.go g x.bd⟩⟩
    refine Ns_slots hn fun o ho=>?_
    by_cases hF:env.locals∈F
    · obtain ⟨Z,Z,Z,Z,o',ho',n⟩:=x.gi.apartF _ hF
      rw [ho] at ho';cases ho'
      exact g.ext.fr _ _ hF ho n
    · exact ⟨o.slots,g.ext.keep _ _ ho x.nt hF⟩
  cel:=fun y v e=>by
    obtain ⟨c,o,w,h1,h2,h3,h4,h5,h6,h7⟩:=x.cel y v e;clear e
    exact ⟨c,o,w,h1,g.ext.keep _ _ h2 h5 h6,h3,h4,h5,h6,h7.go g x.bd⟩
  mu:=x.mu.go g x.bd
  tk:=fun e k=>(x.tk e k).up hk
  code:=x.code
structure BaseOf (F:List Addr) (h base:Heap):Prop where
  keep:∀ b o,h.get? b=some o→¬ isT b→b∉F→base.get? b=some o
  grow:∀ b ps,isT b→h.get? b=some { cls:=.none,data:=.fields ps }→∃ more,base.get? b=some { cls:=.none,data:=.fields (ps++more) }
  tab:TabI base
inductive ExcE (F:List Addr) (fr:List Env) (h h':Heap) (e:Addr):Prop
  | new (h0:Heap) (x:Ext F h h0) (t:TabI h0) (n:Heap.NewExc h0 h' e "ValueError")
  | fly (base:Heap) (a0:PySem.Value) (b:BaseOf F h base) (f:Heap.FlyingW base fr e (.type "ValueError") a0 h')
inductive ExcR (F:List Addr) (fr:List Env) (s s':Shared) (x:PySem.Value):Prop
  | mk (g:Go F s s') (e:Addr) (he:x=.ref e) (q:ExcE F fr s.heap s'.heap e)
theorem BaseOf.after {F} {h₀ h base:Heap} (g:Ext F h₀ h) (x:BaseOf F h base):BaseOf F h₀ base:=
  ⟨fun b o q t f=>x.keep b o (g.keep b o q t f) t f,fun b ps t q=>by
    obtain ⟨m,hm⟩:=g.grow b ps t q;clear q
    obtain ⟨m',hm'⟩:=x.grow b _ t hm;clear hm
    exact ⟨m++m',by rw [hm',Array.append_assoc]⟩,x.tab⟩
theorem ExcE.after {F fr} {h₀ h h':Heap} {e:Addr} (g:Ext F h₀ h) (y:ExcE F fr h h' e):ExcE F fr h₀ h' e:=
  match y with
  | .new h0 x t n=>.new h0 (g.trans x) t n
  | .fly base a0 b f=>.fly base a0 (b.after g) f
theorem ExcR.after {F fr} {s₀ s s':Shared} {x:PySem.Value} (g:Go F s₀ s) (y:ExcR F fr s s' x):ExcR F fr s₀ s' x:=
  let ⟨g',e,he,q⟩:=y;⟨g.trans g',e,he,q.after g.ext⟩
end Mine
end
section
open PySem PySem.W PySem.Calls PyProof.Rows
namespace Mine
structure CxC (d:Nat) (st:Bool) (A:Around) (F:List Addr) (fr:List Env):Prop where
  handled:A.handled=none
  depth:A.depth+20*d≤900
  units:A.units+100*d≤9000
  frames:st=false→A.frames=some fr
  fk:∀ env∈fr,env.scope.kind≠.module∧∃ L,env.frame=some L∧L∈F
  fa:∀ b∈F,∃ env∈fr,env.frame=some b
structure Cx (d:Nat) (st:Bool) (A:Around) (F:List Addr) (fr:List Env):Prop extends CxC d st A F fr where
  depth':A.depth+20*d+(if st then 0 else 10)≤900
  units':A.units+100*d+(if st then 20 else 60)≤9000
theorem Cx.units20 {d st A F fr} (x:Cx d st A F fr):A.units+100*d+20≤9000:=by have:=x.units';cases st<;>simp at this<;>lia
theorem Cx.more {d st A F fr} (x:Cx d st A F fr) (k:Nat) (hk:k≤20):CxC d st { A with units:=A.units+k } F fr:=
  ⟨x.handled,x.depth,by have:=x.units20;show A.units+k+100*d≤9000;lia,x.frames,x.fk,x.fa⟩
theorem Cx.room {d st A F fr} (x:Cx d st A F fr):A.depth < recursionLimit:=by have:=x.depth;unfold recursionLimit;lia
theorem Cx.cline {d st A F fr} (x:Cx d st A F fr):A.units < cLine:=by have:=x.units;unfold cLine;lia
section
variable {α β:Type} {F:List Addr} {fr:List Env} {st:Bool}
inductive Post (F:List Addr) (st:Bool) (s:Shared) (r:Res α) (Φ:α→β→Shared→Prop) (v:β) (s':Shared):Prop
  | mk (g:GoS F st s s') (p:α) (e:r=.ok p) (h:Φ p v s')
structure PostX (F:List Addr) (fr:List Env) (s:Shared) (r:Res α) (x:PySem.Value) (s':Shared):Prop where
  e:r=.exc
  x:ExcR F fr s s' x
theorem Post.ok {s s':Shared} {p:α} {v:β} {Φ:α→β→Shared→Prop} (g:GoS F st s s') (h:Φ p v s'):Post F st s (.ok p) Φ v s':=⟨g,p,rfl,h⟩
theorem Post.after {s₀ s:Shared} {r:Res α} {Φ:α→β→Shared→Prop} (g:GoS F st s₀ s) {v:β} {s':Shared} (x:Post F st s r Φ v s'):Post F st s₀ r Φ v s':=let ⟨g',p,e,h⟩:=x;⟨g.trans g',p,e,h⟩
theorem PostX.after {s₀ s:Shared} {r:Res α} (g:GoS F st s₀ s) {x:PySem.Value} {s':Shared} (y:PostX F fr s r x s'):PostX F fr s₀ r x s':=⟨y.e,y.x.after g.go⟩
end
section
variable {M:Model} {A:Around} {α β γ δ:Type} {F:List Addr} {fr:List Env} {st:Bool}
theorem seqP {t:Sem β} {k:β→Sem δ} {s:Shared} {r₁:Res α} {r:Res γ} {Φ:α→β→Shared→Prop} {Ψ:γ→δ→Shared→Prop}
    (h:wpAny M A t (Post F st s r₁ Φ) (PostX F fr s r₁) s) (hx:r₁=.exc→r=.exc)
    (hk:∀ p v s',r₁=.ok p→GoS F st s s'→s.toks≤s'.toks→Φ p v s'→wpAny M A (k v) (Post F st s' r Ψ) (PostX F fr s' r) s'):
    wpAny M A t (fun v s'=>wpAny M A (k v) (Post F st s r Ψ) (PostX F fr s r) s') (PostX F fr s r) s:=
  wpAny_mono (wpAny_toks h) (fun v s' z1=>by obtain ⟨tk,g,p,e,hp⟩:=z1;exact wpAny_mono (hk p v s' e g tk hp) (fun Z Z y=>y.after g) fun Z Z y=>y.after g) fun x s' y=>⟨hx y.2.e,y.2.x⟩
end
section
variable {A:Around} {F:List Addr} {fr:List Env} {st:Bool} {B:Addr→Prop} {μ:Option Addr} {s:Shared}
noncomputable abbrev EP (F:List Addr) (st:Bool) (B:Addr→Prop) (μ:Option Addr) (s:Shared) (r:Res PV):PySem.Value→Shared→Prop:=Post F st s r (fun p v s'=>VV B s'.heap μ p v)
noncomputable abbrev EPs (F:List Addr) (st:Bool) (B:Addr→Prop) (s:Shared) (r:Res PV):PySem.Value→Shared→Prop:=Post F st s r (fun p v s'=>VR B s'.heap p v)
theorem EP.of {r:Res PV} {v:PySem.Value} {s':Shared} (x:EPs F st B s r v s'):EP F st B μ s r v s':=let ⟨g,p,e,h⟩:=x;⟨g,p,e,VV.of h⟩
theorem ep_int {i:Int} {t:Tok} {h':Heap} {k:Tok} (hk:∀ b o,s.heap.get? b=some o→h'.get? b=some o):EPs F st B s (.ok (.int i)) (.int i t) { s with heap:=h',toks:=k }:=Post.ok (GoS.heap hk) (Exists.intro t rfl)
theorem ep_str {x:PySem.Str} {t:Tok} {h':Heap} {k:Tok} (hx:x.length≤lenLine) (hk:∀ b o,s.heap.get? b=some o→h'.get? b=some o):EPs F st B s (.ok (.str x)) (.str x t) { s with heap:=h',toks:=k }:=Post.ok (GoS.heap hk) (by exact ⟨t,rfl,hx⟩)
theorem ep_any {v:PySem.Value} {h':Heap} {k:Tok} (hk:∀ b o,s.heap.get? b=some o→h'.get? b=some o):EPs F st B s (.ok .any) v { s with heap:=h',toks:=k }:=Post.ok (GoS.heap hk) (trivial)
theorem vr_newTup {vs:List PySem.Value} {l:List PV} (D:Bd F B s.heap) (hn:l.length≤lenLine) (h:VRs B s.heap l vs):VR B (s.heap.push { cls:=.type "tuple",data:=.seq vs.toArray }) (.tup l) (.ref s.heap.objs.size):=by
  refine ⟨_,vs,rfl,fun b=>Nat.lt_irrefl _ (D.lt b),IsTup.new _ _,hn,?_⟩
  exact VRs.keep (fun b o q Z=>Heap.get?_push_of_some _ q) (fun Z Z Z q=>q) h
theorem vr_newList {vs:List PySem.Value} {l:List PV} (D:Bd F B s.heap) (hn:l.length≤lenLine) (h:VRs B s.heap l vs):VR B (s.heap.push { cls:=.type "list",data:=.seq vs.toArray }) (.list l) (.ref s.heap.objs.size):=by
  refine ⟨_,vs,rfl,fun b=>Nat.lt_irrefl _ (D.lt b),⟨_,Heap.get?_push_size _ rfl,rfl,_,rfl⟩,hn,?_⟩
  exact VRs.keep (fun b o q Z=>Heap.get?_push_of_some _ q) (fun Z Z Z q=>q) h
theorem keep_push (o:PySem.Obj):∀ b o',s.heap.get? b=some o'→(s.heap.push o).get? b=some o':=fun Z Z q=>Heap.get?_push_of_some _ q
theorem VRs.length {h:Heap}:∀ {l:List PV} {vs:List PySem.Value},VRs B h l vs→vs.length=l.length
  | [],_,x=>by obtain rfl:_=[]:=x;rfl
  | p::l,_,x=>by obtain ⟨v,r,rfl,Z,h⟩:=x;simp [VRs.length h]
theorem ep_newTup {vs:List PySem.Value} {l:List PV} (D:Bd F B s.heap) (hn:l.length≤lenLine) (h:VRs B s.heap l vs):EPs F st B s (.ok (.tup l)) (.ref s.heap.objs.size) { s with heap:=s.heap.push { cls:=.type "tuple",data:=.seq vs.toArray } }:=
  Post.ok (GoS.heap (tk:=s.toks) (keep_push _)) (vr_newTup D hn h)
theorem ep_newList {vs:List PySem.Value} {l:List PV} {k:Tok} (D:Bd F B s.heap) (hn:l.length≤lenLine) (h:VRs B s.heap l vs):EPs F st B s (.ok (.list l)) (.ref s.heap.objs.size) { s with heap:=s.heap.push { cls:=.type "list",data:=.seq vs.toArray },toks:=k }:=
  Post.ok (GoS.heap (keep_push _)) (vr_newList D hn h)
end
section
variable {A:Around} {F:List Addr} {fr:List Env} {st:Bool} {B:Addr→Prop} {μ:Option Addr} {s:Shared} {env:Env} {fm:Fm} {E:PySem.Value→Shared→Prop}
theorem const_ok {c:PySem.Const} {k:Nat} {pos:Pos} {p:PV} (h:constE c=some p):wpAny (model prog w0) A (eval (.Constant c k pos) env) (EPs F st B s (.ok p)) E s:=by
  cases c with
  | none=>cases h;exact wpAny_pure (Post.ok (GoS.refl F st s) (rfl))
  | bool b=>cases h;exact wpAny_pure (Post.ok (GoS.refl F st s) (rfl))
  | int i=>cases h;exact wpAny_Constant_int (ep_int fun Z Z e=>e)
  | str x=>
    obtain ⟨hl,e⟩:=grd_some h;clear h
    obtain rfl:=Option.some.inj e;exact wpAny_Constant_str (ep_str (of_decide_eq_true hl) fun Z Z e=>e)
  | _=>cases h
theorem loadGlobal_K {x:PySem.Str} {v:PySem.Value} {Q:PySem.Value→Shared→Prop} (G:GI F s.heap) (hg:env.globals=mainGlobals) (h:nsIn K0 mainGlobals x=some (some v)) (q:Q v s):
    wpAny (model prog w0) A (loadGlobal env x) Q E s:=by
  unfold loadGlobal
  rw [hg]
  exact wpAny_bind ((looks_nsIn G.k h).here (wpAny_pure q))
theorem loadGlobal_B {x:PySem.Str} {v:PySem.Value} {Q:PySem.Value→Shared→Prop} (G:GI F s.heap) (hg:env.globals=mainGlobals) (hb:env.builtins=builtinsNs) (h:nsIn K0 mainGlobals x=some none) (hv:bootBuiltins x=some v) (hn:x≠"__name__") (q:Q v s):
    wpAny (model prog w0) A (loadGlobal env x) Q E s:=by
  unfold loadGlobal
  rw [hg,hb]
  obtain ⟨mb,n,e⟩:=G.b
  refine wpAny_bind ((looks_nsIn G.k h).here (wpAny_bind (wpAny_nsGet n ?_)))
  rw [e x hn,hv]
  exact wpAny_pure q
end
end Mine
end
section
set_option tactic.hygienic true
open PySem PySem.W PySem.Calls PyProof.Rows
namespace Mine
section
variable {A:Around} {F:List Addr} {fr:List Env} {st:Bool} {B:Addr→Prop} {μ:Option Addr} {s:Shared} {env:Env} {fm:Fm} {E:PySem.Value→Shared→Prop}
theorem or_ff {a b:Bool} (h:(a||b)=false):a=false∧b=false:=Bool.or_eq_false_iff.mp h
theorem glob_vr {h:Heap} (v:Value):VR B h (globPV v) v:=by
  cases v with
  | str y t=>
    by_cases hl:y.length≤lenLine
    · rw [show globPV (.str y t)=.str y from if_pos hl];exact Exists.intro t ⟨rfl,hl⟩
    · rw [show globPV (.str y t)=.glob (.str y t) from if_neg hl];exact rfl
  | _=>show VR B h (.glob _) _;exact rfl
theorem load_glob {x:PySem.Str} {Q:PySem.Value→Shared→Prop} (hk:env.scope.kind=.function) (hl:env.kindOf x=some .globalImplicit) (q:wpAny (model prog w0) A (loadGlobal env x) Q E s):wpAny (model prog w0) A (loadName env x) Q E s:=by
  unfold loadName Env.blockKind
  rw [hk,if_neg (fun h=>nomatch h),hl]
  exact q
theorem load_eq {x:PySem.Str} {p:PV} (I:FI F st env B μ fm s) (h:nameE K0 fm x=some p):wpAny (model prog w0) A (loadName env x) (fun v s'=>s'=s∧VV B s.heap μ p v) E s:=by
  obtain ⟨hx,h1⟩:=grd_some h;clear h
  obtain ⟨k,hl,h2⟩:=ask_some h1
  obtain ⟨hn,hc⟩:=or_ff (or_ff (not_tt hx)).2
  have hk:env.scope.kind=.function:=by rw [I.sc];exact I.kind
  have kindOf:env.kindOf x=some k:=by unfold Env.kindOf;rw [I.sc];exact hl
  induction k with
  | «local»=>
    obtain ⟨m,hns,hm⟩:=I.ns
    obtain ⟨v,hv,q⟩:=hm x p h2;clear h2
    exact wpAny_loadName_local hk kindOf hns hv ⟨rfl,q⟩
  | cell=>
    obtain ⟨c,o,v,h1,h4,h3,Z,Z,Z,q⟩:=I.cel x p h2;clear h2
    exact wpAny_loadName_cell hk kindOf h1 ⟨o,h4,h3⟩ ⟨rfl,VV.of q⟩
  | free=>
    obtain ⟨c,o,v,h1,h5,h3,Z,Z,Z,q⟩:=I.cel x p h2;clear h2
    exact wpAny_loadName_free hk kindOf h1 ⟨o,h5,h3⟩ ⟨rfl,VV.of q⟩ hc
  | globalImplicit=>
    obtain ⟨o,hv,h3⟩:=ask_some (show ask (nsIn K0 mainGlobals x) (gvalO x)=some p from h2);clear h2
    induction o with
    | some v=>
      cases h3
      exact load_glob hk kindOf (loadGlobal_K I.gi I.glo hv ⟨rfl,VV.of (glob_vr v)⟩)
    | none=>
      obtain ⟨v,hb,rfl⟩:=Option.map_eq_some_iff.mp h3;clear h3
      exact load_glob hk kindOf (loadGlobal_B I.gi I.glo I.bui hv hb (fun e=>by rw [e] at hn;exact nof (hn.symm.trans (beq_self_eq_true _))) ⟨rfl,VV.of (glob_vr v)⟩)
  | globalExplicit=>exact nov h2
theorem name_eq {x:PySem.Str} {pos:Pos} {p:PV} (I:FI F st env B μ fm s) (h:nameE K0 fm x=some p):wpAny (model prog w0) A (eval (.Name x pos) env) (fun v s'=>s'=s∧VV B s.heap μ p v) E s:=
  wpAny_Name (load_eq I h) (or_ff (not_tt (grd_some h).1)).1
theorem name_ok {x:PySem.Str} {pos:Pos} {p:PV} (I:FI F st env B μ fm s) (h:nameE K0 fm x=some p):wpAny (model prog w0) A (eval (.Name x pos) env) (EP F st B μ s (.ok p)) E s:=
  wpAny_mono (name_eq I h) (fun v s' z1=>by obtain ⟨e,q⟩:=z1;subst e;exact ⟨GoS.refl F st _,p,rfl,q⟩) fun Z Z y=>y
theorem mat_noBool:typeLookup (.type "re.Match") "__bool__"=pure none:=by rw [typeLookup_type,builtinLookup_eq_fast];kernel_rfl
theorem mat_noLen:typeLookup (.type "re.Match") "__len__"=pure none:=by rw [typeLookup_type,builtinLookup_eq_fast];kernel_rfl
theorem isEmpty_of {l:List PV} {vs:List PySem.Value} (e:vs.length=l.length):vs.toArray.isEmpty=l.isEmpty:=by
  cases l<;>cases vs<;>simp_all
theorem truthy_ok {p:PV} {v:PySem.Value} {b:Bool} (h:truth p=some b) (q:VV B s.heap μ p v):
    wpAny (model prog w0) A (truthy v) (Post F st s (.ok b) (fun p v Z=>p=v)) E s:=by
  induction p using PV.casesOn with
  | none=>cases h;cases (id q:_=_);exact truthy_none (Post.ok (GoS.refl ..) rfl)
  | bool b=>cases h;cases (id q:_=_);exact wpAny_truthy_bool (Post.ok (GoS.refl ..) rfl)
  | int i=>cases h;obtain ⟨t,rfl⟩:=q;exact truthy_int (Post.ok (GoS.refl ..) rfl)
  | str x=>
    cases h;obtain ⟨t,rfl,hl⟩:=q
    unfold lenLine at hl
    refine PySem.P.truthy_str (by lia) ?_
    refine Post.ok (GoS.toks) ?_
    generalize x.length=n
    cases n<;>rfl
  | tup l=>
    cases h;obtain ⟨a,vs,rfl,Z,ht,hl,hv⟩:=q
    have e:=hv.length
    unfold lenLine at hl
    refine truthy_tuple ht (by rw [List.size_toArray];lia) ?_
    exact Post.ok (GoS.toks) (by rw [isEmpty_of e])
  | list l=>
    cases h;obtain ⟨a,vs,rfl,Z,ht,hl,hv⟩:=q
    have e:=hv.length
    unfold lenLine at hl
    refine wpAny_truthy_list ht (by rw [List.size_toArray];lia) ?_
    exact Post.ok (GoS.toks) (by rw [isEmpty_of e])
  | mat gs e=>
    cases h;obtain ⟨a,o,txt,t,p,l,li,pat,sp,b0,rest,rfl,h1,h2,h3,h4,h4',h5,h6,h7⟩:=q
    have hT:s.TypeIs (.ref a) "re.Match":=⟨o,h3,h4⟩
    unfold truthy
    refine wpAny_bind (wpAny_callSpecial?_none hT mat_noBool ?_)
    exact wpAny_bind (wpAny_specialOf hT mat_noLen (wpAny_pure (Post.ok (GoS.refl ..) rfl)))
  | _=>cases h
theorem strR_some {x:Str} {r:Res PV} (h:strR x=some r):x.length≤lenLine∧r=.ok (.str x):=⟨of_decide_eq_true (grd_some h).1,rok_some (grd_some h).2⟩
theorem listR_some {l:List PV} {r:Res PV} (h:listR l=some r):l.length≤lenLine∧r=.ok (.list l):=⟨of_decide_eq_true (grd_some h).1,rok_some (grd_some h).2⟩
inductive LstR (B:Addr→Prop) (h:Heap) (l:List PV) (v:Value):Prop
  | mk (a:Addr) (vs:List Value) (e:v=.ref a) (t:h.IsList a vs.toArray) (hn:l.length≤lenLine) (q:VRs B h l vs)
noncomputable def DV (B:Addr→Prop) (h:Heap) (p:PV) (v:Value):Prop:=match p with
  | .list l=>LstR B h l v
  | .own=>True
  | p=>VR B h p v
theorem VR.dv {h:Heap} {p:PV} {v:Value} (q:VR B h p v):DV B h p v:=by
  induction p using PV.casesOn with
  | list l=>obtain ⟨a,vs,e,Z,t,hn,q⟩:=q;exact ⟨a,vs,e,t,hn,q⟩
  | own=>trivial
  | _=>exact q
theorem deref_dv {p:PV} {v:Value} (I:FI F st env B μ fm s) (q:VV B s.heap μ p v):DV B s.heap (deref fm p) v:=by
  induction p using PV.casesOn with
  | own=>
    have hm:=I.mu
    show DV B s.heap (match fm.mu with | some (.list l)=>.list l | _=>.own) v
    generalize fm.mu=mo at hm ⊢
    induction mo with
    | none=>trivial
    | some mo=>
      induction mo with
      | inst=>trivial
      | list l=>
        obtain ⟨a,vs,n,h1,Z,Z,Z,h5,h6,h7⟩:=hm
        obtain ⟨a',h1',e⟩:=q
        rw [h1] at h1';cases h1'
        exact ⟨a,vs,e,⟨_,h5,rfl,_,rfl⟩,h6,h7⟩
  | list l=>exact VR.dv (p:=.list l) q
  | _=>exact q
theorem VRs.append {h:Heap}:∀ {l m:List PV} {vs ws:List PySem.Value},VRs B h l vs→VRs B h m ws→VRs B h (l++m) (vs++ws)
  | [],_,_,_,x,y=>by obtain rfl:_=[]:=x;exact y
  | p::l,m,_,ws,x,y=>by
    obtain ⟨v,r,rfl,h1,h2⟩:=x
    show VRs B h (p::(l++m)) (v::(r++ws))
    exact ⟨v,_,rfl,h1,VRs.append h2 y⟩
theorem add_list_ok {a b:Addr} {vs ws:List PySem.Value} {Q:PySem.Value→Shared→Prop} (hl:s.heap.IsList a vs.toArray) (hb:s.heap.IsList b ws.toArray)
    (h:Q (.ref s.heap.objs.size) { s with heap:=s.heap.push { cls:=.type "list",data:=.seq (vs++ws).toArray } }) (hsz:vs.length+ws.length≤sizeLine):
    wpAny (model prog w0) A (binaryOp .Add (.ref a) (.ref b)) Q E s:=by
  obtain ⟨⟨cls,dd,data,sl⟩,ho,hc,n,hd⟩:=id hl;clear hl
  obtain ⟨⟨cls2,dd2,data2,sl2⟩,ho2,hc2,n2,hd2⟩:=id hb;clear hb
  simp only at hc hd hc2 hd2
  subst hc hd hc2 hd2
  have e:vs.toArray++ws.toArray=(vs++ws).toArray:=by simp
  refine concat_meets ⟨_,ho,rfl⟩ ⟨_,ho2,rfl⟩ noFill_list_add seq_list_add PySem.F.slot_list_add PySem.F.entry_list_add (PySem.F.args_list_add_2 _ _) (list_addW a b vs.toArray ws.toArray n n2 dd dd2 sl sl2 (by simpa using hsz)) ⟨ho,ho2,?_⟩
  rw [e]
  exact h
end
end Mine
end
section
open PySem PySem.W PySem.Calls PyProof.Rows
namespace Mine
open Builtin Builtin.Str PySem.W.KPc
section
variable {M:Model} {A:Around} {E:PySem.Value→Shared→Prop} {s:Shared} {l:List Nat} {p:List PySem.Value} {r:List Nat}
  {f:Nat→List PySem.Value×Writer×List Nat→Sem (ForInStep (List PySem.Value×Writer×List Nat))} {Q:List PySem.Value×Writer×List Nat→Shared→Prop}
  {w:Writer} {T:PySem.Str} {N:Nat} {o:Option PySem.Value}
theorem intL {c:Percent} {n:Int} {d:List Nat} (g:Good w T N) (h1:c.alt=false) (h2:c.type=100∨c.type=105∨c.type=117) (h3:c.prec=none) (hn:0≤n) (hm:n < 10 ^ 250)
    (hd:d=(PySem.Str.ofString (toString ((n.natAbs:Nat):Int))).cps.toList) (ho:o=none) (h:∀ w',Good w' (T++PySem.Str.ofString (toString n)) (N+250)→wpAny M A (forIn l (p,w',r) f) Q E s):
    wpAny M A (forIn l (p,w.add ⟨(percentInt c (decide (n < 0)) d).toArray⟩ o,r) f) Q E s:=by
  have en:((n.natAbs:Nat):Int)=n:=Int.natAbs_of_nonneg hn
  rw [int_text c h1 h2 h3 hn,hd,en]
  exact after_str g (toString_length_le hn (by decide) hm) (obj_none ho) h
theorem intL0 {c:Percent} {n:Int} {d:List Nat} (g:Good w PySem.Str.empty N) (h1:c.alt=false) (h2:c.type=100∨c.type=105∨c.type=117) (h3:c.prec=none) (hn:0≤n) (hm:n < 10 ^ 250)
    (hd:d=(PySem.Str.ofString (toString ((n.natAbs:Nat):Int))).cps.toList) (ho:o=none) (h:∀ w',Good w' (PySem.Str.ofString (toString n)) (N+250)→wpAny M A (forIn l (p,w',r) f) Q E s):
    wpAny M A (forIn l (p,w.add ⟨(percentInt c (decide (n < 0)) d).toArray⟩ o,r) f) Q E s:=
  intL g h1 h2 h3 hn hm hd ho fun w' g'=>h w' (by rw [empty_app] at g';exact g')
end
theorem log2_small {n:Int} (hn:0≤n) (hm:n < 10 ^ 250):n.natAbs.log2 < 1920:=by
  by_cases h0:n.natAbs=0
  · rw [h0];decide
  · rw [Nat.log2_lt h0]
    have:n.natAbs < 10 ^ 250:=by lia
    exact Nat.lt_trans this (by decide)
theorem meets_d {n:Int} {t u:Tok} (hn:0≤n) (hm:n < 10 ^ 250) (hd:n.natAbs.log2 < 1920) (hd':((n.natAbs:Nat):Int).natAbs.log2 < 1920):
    Meets («str.__mod__» ⟨[.str (PySem.Str.mk #[37,100]) t,.int n u],[]⟩) (fun Z R s=>∀ t' k,R (.ok (.ret (.str (PySem.Str.ofString (toString n)) t'))) { s with toks:=k }):=by
  apply KPc.meets_of
  intro Z Z Z Z Z Z hQ
  rw [KPc.entry_is]
  unfold Builtin.Str.percentFormat
  refine wpAny_bind (wpAny_isInstance (typeIs_int _ _ _) F.sub_int_tuple ?_)
  refine wpAny_bind (wpAny_of_eq (a:=none) rfl ?_)
  refine wpAny_bind (wpAny_of_eq (KPc.fills _ _) ?_)
  kpc_if
  refine wpAny_bind (wpAny_pure ?_)
  refine wpAny_bind ?_
  rw [KPc.range_list]
  refine KPc.start ?_
  intro Z Z
  refine KPc.turn ?_;kpc_check;(repeat kpc_if)
  refine wpAny_bind ?_;refine wpAny_holding ?_;(repeat kpc_if);kpc_conv;refine wpAny_pure ?_;refine wpAny_pure ?_
  refine intL0 (by kpc_g) rfl (by kpc_kind) rfl (by with_reducible assumption) (by with_reducible assumption) rfl (by kpc_none) ?_
  intro Z Z
  refine KPc.turn ?_;kpc_check;(repeat kpc_if)
  kpc_close
theorem reprUnder_str {A:Around} {E:PySem.Value→Shared→Prop} {s:Shared} {n:Nat} {x:PySem.Str} {t:Tok} {Q:PySem.Value→Shared→Prop} (h:Q (.str (reprText x) s.toks) { s with toks:=s.toks+1 }) (hx:(reprText x).length≤sizeLine):
    wpAny (model pr wz) A (pyReprObjUnder n (.str x t)) Q E s:=by
  have hT:=typeIs_str s x t
  unfold pyReprObjUnder pyReprObjBy
  refine wpAny_bind (m:=cRoomFor _ _) (wpAny_pure (a:=()) ?_)
  refine wpAny_bind (wpAny_specialOf (name:=Str.ofString "__repr__") hT PySem.F.slot_str_repr.lookup ?_)
  refine wpAny_bind (wpAny_callSpecialIfBoundBy?_slotG (name:=Str.ofString "__repr__") hT PySem.F.slot_str_repr.toG ?_)
  show wpAny _ _ (call (.builtin "str.__repr__") [.str x t]) _ _ _
  refine call_gives PySem.F.slot_str_repr hT PySem.F.entry_str_repr (PySem.F.args_str_repr_1 _) (gives_str_repr x t) ⟨hx,?_⟩
  exact wpAny_bind (wpAny_isInstance (b:=true) rfl isSubtype_str_str (wpAny_pure h))
theorem asciiRepr {x:PySem.Str} (ha:x.cps.toList.all (· < 128)=true) (hl:x.length≤100000):(reprText x).length≤1000002:=by
  have:=StrLaws.reprText_len x (fun c hc=>by have:=of_decide_eq_true (List.all_eq_true.mp ha c hc);lia)
  lia
theorem span_loop (r:List Nat):∀ (pre acc:List Nat),(pre.all (· != 37))=true→List.span.loop (· != 37) (pre++37::r) acc=(acc.reverse++pre,37::r)
  | [],acc,_=>by rw [List.append_nil];rfl
  | a::l,acc,h=>by
    rw [List.all_cons,Bool.and_eq_true] at h
    have:=span_loop r l (a::acc) h.2
    rw [List.cons_append]
    unfold List.span.loop
    rw [h.1]
    show List.span.loop (· != 37) (l++37::r) (a::acc)=_
    rw [this,List.reverse_cons,List.append_assoc];rfl
theorem span_pre (pre r:List Nat) (h:(pre.all (· != 37))=true):(pre++37::r).span (· != 37)=(pre,37::r):=span_loop r pre [] h
set_option maxHeartbeats 4000000 in
theorem meets_r {a:Nat} {pre:List Nat} {x:PySem.Str} {t u:Tok} (hp:((a::pre).all (· != 37))=true) (hl:pre.length≤1000) (hx:(reprText x).length≤1000002):
    ∃ T,Meets («str.__mod__» ⟨[.str ⟨((a::pre)++[37,114]).toArray⟩ t,.str x u],[]⟩) (fun Z R s=>∀ t' k,R (.ok (.ret (.str T t'))) { s with toks:=k }):=by
  have hx':(reprText x).length≤sizeLine:=by rw [sizeLine_eq];lia
  refine ⟨PySem.Str.mk (a::pre).toArray++reprText x,?_⟩
  apply KPc.meets_of
  intro Z Z Z Z Z Z hQ
  rw [KPc.entry_is_s]
  unfold Builtin.Str.percentFormat
  refine wpAny_bind (wpAny_isInstance (typeIs_str _ _ _) F.sub_str_tuple ?_)
  refine wpAny_bind (wpAny_of_eq (a:=some _) rfl ?_)
  refine wpAny_bind (KPc.wp_fills_str ?_)
  intro Z
  kpc_if
  refine wpAny_bind (wpAny_pure ?_)
  refine wpAny_bind ?_
  rw [KPc.range_list]
  have hL:(PySem.Str.mk ((a::pre)++[37,114]).toArray).length=pre.length+3:=by show (List.toArray _).size=_;simp
  have hr:(PySem.Str.mk ((a::pre)++[37,114]).toArray).cps.toList=(a::pre)++37::[114]:=rfl
  generalize PySem.Str.mk ((a::pre)++[37,114]).toArray=X at *
  rw [hL,hr]
  show wpAny _ _ (forIn (0::1::2::List.range' 3 pre.length 1) _ _) _ _ _
  refine KPc.start ?_
  intro w1 g1
  refine KPc.turn ?_;kpc_check;kpc_if
  have hs:List.span (fun x=>x != 37) ([PySem.Value.str x u],w1,(a::pre)++37::[114]).2.2=(a::pre,[37,114]):=span_pre (a::pre) [114] hp
  generalize List.span (fun x=>x != 37) ([PySem.Value.str x u],w1,(a::pre)++37::[114]).2.2=q at hs ⊢
  subst hs
  refine wpAny_ite (KPc.ite_yes rfl ?_)
  refine wpAny_pure ?_
  refine KPc.after_add0 (by kpc_g) rfl (KPc.obj_none (if_neg (by simp))) ?_
  intro Z g2
  have hT:(PySem.Str.mk (a::pre).toArray).length≤1001:=by show (List.toArray _).size≤_;simp;lia
  have g2:=KPc.good_mono g2 (Nat.add_le_add_left hT 0)
  refine KPc.turn ?_;kpc_check;(repeat kpc_if)
  refine wpAny_bind ?_;refine wpAny_holding ?_;(repeat kpc_if)
  refine wpAny_bind ?_
  (repeat kpc_if)
  refine reprUnder_str ?_ hx'
  refine wpAny_bind (wpAny_of_eq (a:=some _) rfl ?_)
  refine wpAny_pure ?_;refine wpAny_pure ?_
  refine KPc.after_str (by kpc_g) hx (by kpc_obj) ?_
  intro Z Z
  refine KPc.turn ?_;kpc_check;(repeat kpc_if)
  kpc_close
open PySem.W.KPt in
theorem meets_sd {x:PySem.Str} {n:Int} {t u v:Tok} {b:Addr} (hx:x.length≤1000000) (hn:0≤n) (hm:n < 10 ^ 250) (hd:n.natAbs.log2 < 1920) (hd':((n.natAbs:Nat):Int).natAbs.log2 < 1920):
    Meets («str.__mod__» ⟨[.str (PySem.Str.mk #[37,115,46,37,100]) t,.ref b],[]⟩) (fun Z R s=>IsTup s.heap b #[.str x u,.int n v]∧∀ t' k,R (.ok (.ret (.str (x++PySem.Str.ofString "."++PySem.Str.ofString (toString n)) t'))) { s with toks:=k }):=by
  apply KPt.meets_tup
  intro Z Z Z Z Z Z kptH hQ
  obtain ⟨kptO,kptG,kptC,kptN,kptD⟩:=kptH
  rw [KPt.entry_is_r]
  unfold Builtin.Str.percentFormat
  refine wpAny_bind (wpAny_isInstance ⟨kptO,kptG,kptC⟩ KPt.sub_tt ?_)
  refine wpAny_bind (KPt.asStr_ref kptG kptD ?_)
  refine wpAny_bind (KPt.fills_ref ⟨kptO,kptG,kptC⟩ ?_)
  intro Z
  kpc_if
  refine wpAny_bind (wpAny_seqItems kptG kptD ?_)
  refine wpAny_bind (wpAny_pure ?_)
  refine wpAny_bind ?_
  rw [KPc.range_list]
  refine KPc.start ?_
  intro Z Z
  refine KPc.turn ?_;kpc_check;(repeat kpc_if)
  refine wpAny_bind ?_;refine wpAny_holding ?_;(repeat kpc_if);kpt_conv;refine wpAny_pure ?_;refine wpAny_pure ?_
  refine KPc.after_str0 (by kpc_g) hx (by kpc_obj) ?_;intro Z Z
  refine KPc.turn ?_;kpc_check;(repeat kpc_if)
  refine wpAny_pure ?_
  kpc_piece
  refine KPc.turn ?_;kpc_check;(repeat kpc_if)
  refine wpAny_bind ?_;refine wpAny_holding ?_;(repeat kpc_if);kpc_conv;refine wpAny_pure ?_;refine wpAny_pure ?_
  refine intL (by kpc_g) rfl (by kpc_kind) rfl (by with_reducible assumption) (by with_reducible assumption) rfl (by kpc_none) ?_;intro Z Z
  refine KPc.turn ?_;kpc_check;(repeat kpc_if)
  kpc_close
theorem mod_d {A:Around} {E:PySem.Value→Shared→Prop} {s:Shared} {n:Int} {t u:Tok} {Q:PySem.Value→Shared→Prop} (hn:0≤n) (hm:n < 10 ^ 250)
    (h:∀ t' k,Q (.str (PySem.Str.ofString (toString n)) t') { s with toks:=k }):wpAny (model prog w0) A (binaryOp .Mod (.str (PySem.Str.ofString "%d") t) (.int n u)) Q E s:=
  KPc.mod_lit (by decide) (log2_small hn hm) (fun h1 h2=>meets_d hn hm h1 h2) h
theorem errF_of {f:Str} (h:errF f=true):∃ a pre,f=⟨((a::pre)++[37,114]).toArray⟩∧((a::pre).all (· != 37))=true∧pre.length≤1000:=by
  obtain ⟨h1,h2⟩:=and_tt h;clear h
  obtain ⟨h5,h3⟩:=and_tt h2;clear h2
  obtain ⟨h6,h4⟩:=and_tt h3;clear h3
  obtain ⟨c⟩:=f
  generalize c.toList.dropLast.dropLast=l at *
  induction l using List.casesOn with
  | nil=>cases h5
  | cons a pre=>exact ⟨a,pre,congrArg Str.mk (Array.ext' (eq_of_beq h1)),h6,Nat.le_of_succ_le (of_decide_eq_true h4)⟩
theorem mod_r {A:Around} {E:PySem.Value→Shared→Prop} {s:Shared} {f x:PySem.Str} {t u:Tok} {Q:PySem.Value→Shared→Prop} (hf:errF f=true) (hx:(reprText x).length≤1000002)
    (h:∀ y t' k,Q (.str y t') { s with toks:=k }):wpAny (model prog w0) A (binaryOp .Mod (.str f t) (.str x u)) Q E s:=by
  obtain ⟨a,pre,rfl,h1,h2⟩:=errF_of hf;clear hf
  obtain ⟨T,hm⟩:=meets_r (t:=t) (u:=u) h1 h2 hx;clear hx
  exact binaryOp_meets (op:=.Mod) (typeIs_str s _ t) (typeIs_str s x u) PySem.F.fills_str_mod PySem.F.slot_str_mod PySem.F.entry_str_mod (PySem.F.args_str_mod_2 _ _) hm (fun t' k=>⟨(fun e=>nomatch e),h T t' k⟩)
theorem mod_sd {A:Around} {E:PySem.Value→Shared→Prop} {s:Shared} {x:PySem.Str} {n:Int} {t u v:Tok} {b:Addr} {Q:PySem.Value→Shared→Prop} (hb:IsTup s.heap b #[.str x u,.int n v]) (hx:x.length≤1000000) (hn:0≤n) (hm:n < 10 ^ 250)
    (h:∀ t' k,Q (.str (x++PySem.Str.ofString "."++PySem.Str.ofString (toString n)) t') { s with toks:=k }):wpAny (model prog w0) A (binaryOp .Mod (.str (PySem.Str.ofString "%s.%d") t) (.ref b)) Q E s:=by
  have hT:s.TypeIs (.ref b) "tuple":=by
    obtain ⟨o,ho,hc,Z⟩:=hb
    exact ⟨o,ho,hc⟩
  have e:PySem.Str.ofString "%s.%d"=PySem.Str.mk #[37,115,46,37,100]:=by decide
  rw [e]
  exact KPt.bin_left (U:="tuple") (op:=.Mod) (by decide) (typeIs_str s _ t) hT PySem.F.fills_str_mod KPt.fills_tuple PySem.F.slot_str_mod
    (call_meets PySem.F.slot_str_mod (typeIs_str s _ t) PySem.F.entry_str_mod (PySem.F.args_str_mod_2 _ _) (meets_sd hx hn hm (log2_small hn hm) (KPt.hd2 (log2_small hn hm))) ⟨hb,fun t' k=>⟨(fun e=>nomatch e),h t' k⟩⟩)
end Mine
end
section
open PySem PySem.W PySem.Calls PyProof.Rows
namespace Mine
section
variable {A:Around} {F:List Addr} {fr:List Env} {st:Bool} {B:Addr→Prop} {μ:Option Addr} {s:Shared} {env:Env} {fm:Fm} {E:PySem.Value→Shared→Prop}
theorem fmtLit_eq {f:Str} {x:String} (h:fmtLit f x=true):f=Str.ofString x:=eq_of_beq h
theorem VRs.two {h:Heap} {a b:PV} {vs:List Value} (x:VRs B h [a,b] vs):∃ v w,vs=[v,w]∧VR B h a v∧VR B h b w:=by
  obtain ⟨v,r,rfl,h1,w,r',rfl,h2,e⟩:=x
  cases (show r'=[] from e)
  exact ⟨v,w,rfl,h1,h2⟩
theorem smallI_of {i:Int} (h:smallI i=true):0≤i∧i < 10 ^ 250:=⟨of_decide_eq_true (and_tt h).1,of_decide_eq_true (and_tt h).2⟩
theorem asciiT_of {x:Str} (h:asciiT x=true):x.cps.toList.all (· < 128)=true∧x.length≤100000:=⟨(and_tt h).1,of_decide_eq_true (and_tt h).2⟩
variable {r:Res PV} {pa pb:PV} {va vb:Value}
theorem fmt_int {f:Str} {t:Tok} {i:Int} (h:grd (fmtLit f "%d"&&smallI i) (strR (Str.ofString (toString i)))=some r) (qb:VR B s.heap (.int i) vb):wpAny (model prog w0) A (binaryOp .Mod (.str f t) vb) (EPs F st B s r) E s:=by
  obtain ⟨hc,h3⟩:=grd_some h;clear h
  obtain ⟨h1,h2⟩:=and_tt hc;clear hc
  obtain ⟨hl,rfl⟩:=strR_some h3;clear h3
  obtain ⟨u,rfl⟩:=qb
  rw [fmtLit_eq h1]
  exact mod_d (smallI_of h2).1 (smallI_of h2).2 fun t' k=>ep_str hl fun Z Z e=>e
theorem fmt_str {f x:Str} {t:Tok} (h:grd (errF f&&asciiT x) (rok PV.any)=some r) (qb:VR B s.heap (.str x) vb):wpAny (model prog w0) A (binaryOp .Mod (.str f t) vb) (EPs F st B s r) E s:=by
  obtain ⟨hc,h3⟩:=grd_some h;clear h
  obtain ⟨h1,h2⟩:=and_tt hc;clear hc
  obtain rfl:=rok_some h3
  obtain ⟨u,rfl,Z⟩:=qb
  exact mod_r h1 (asciiRepr (asciiT_of h2).1 (asciiT_of h2).2) fun y t' k=>ep_any fun Z Z e=>e
theorem fmt_tup {f:Str} {t:Tok} {l:List PV} (h:ask (two l) (fmtSD f)=some r) (qb:VR B s.heap (.tup l) vb):wpAny (model prog w0) A (binaryOp .Mod (.str f t) vb) (EPs F st B s r) E s:=by
  obtain ⟨q,hq,h5⟩:=ask_some h;clear h
  obtain ⟨x,h1,h6⟩:=ask_some h5;clear h5
  obtain ⟨i,h2,h7⟩:=ask_some h6;clear h6
  obtain ⟨hc,h8⟩:=grd_some h7;clear h7
  obtain ⟨h3,h4⟩:=and_tt hc;clear hc
  obtain ⟨hl,rfl⟩:=strR_some h8;clear h8
  rw [two_of hq,asStr_of h1,asInt_of h2] at qb
  obtain ⟨a,vs,rfl,Z,ht,Z,hv⟩:=qb
  obtain ⟨v,w,rfl,⟨t1,rfl,hx⟩,t2,rfl⟩:=hv.two
  rw [fmtLit_eq h3]
  exact mod_sd ht hx (smallI_of h4).1 (smallI_of h4).2 fun t' k=>ep_str hl fun Z Z e=>e
theorem fmt_ok {f:Str} {t:Tok} (h:fmtE f pb=some r) (qb:VV B s.heap μ pb vb):wpAny (model prog w0) A (binaryOp .Mod (.str f t) vb) (EPs F st B s r) E s:=by
  induction pb using PV.casesOn with
  | int i=>exact fmt_int h qb
  | str x=>exact fmt_str h qb
  | tup l=>exact fmt_tup h qb
  | _=>exact nov h
theorem add_ok (D:Bd F B s.heap) (h:addE pa pb=some r) (qa:DV B s.heap pa va) (qb:VV B s.heap μ pb vb):wpAny (model prog w0) A (binaryOp .Add va vb) (EPs F st B s r) E s:=by
  cases pa with
  | int i=>
    obtain ⟨j,hj,h1⟩:=ask_some h;clear h
    obtain rfl:=rok_some h1
    obtain rfl:=asInt_of hj
    obtain ⟨t,rfl⟩:=qa
    obtain ⟨u,rfl⟩:=qb
    exact PySem.P.add_int (ep_int fun Z Z e=>e)
  | str x=>
    obtain ⟨y,hj,h2⟩:=ask_some h;clear h
    obtain ⟨hl,rfl⟩:=strR_some h2;clear h2
    obtain rfl:=asStr_of hj
    obtain ⟨t,rfl,Z⟩:=qa
    obtain ⟨u,rfl,Z⟩:=qb
    refine PyProof.Rows.add_str (fun t' tk=>ep_str hl fun Z Z e=>e) ?_
    rw [Str.length_append] at hl
    exact Nat.le_trans hl (by decide +kernel)
  | list l=>
    cases pb with
    | list m=>
      obtain ⟨hl,rfl⟩:=listR_some h;clear h
      obtain ⟨a,vs,rfl,hv,Z,hvs⟩:=qa
      obtain ⟨b,ws,rfl,Z,hw,Z,hws⟩:=qb
      refine add_list_ok hv hw (ep_newList (k:=s.toks) D hl (hvs.append hws)) ?_
      rw [hvs.length,hws.length,← List.length_append]
      exact Nat.le_trans hl (by decide +kernel)
    | _=>exact nov h
  | _=>exact nov h
theorem beq_int {i j:Int} (h:(!(i==j))=true):i≠j:=ne_of_beq_false (not_tt h)
theorem mod_ok (h:modE pa pb=some r) (qa:VV B s.heap μ pa va) (qb:VV B s.heap μ pb vb):wpAny (model prog w0) A (binaryOp .Mod va vb) (EPs F st B s r) E s:=by
  cases pa with
  | int i=>
    obtain ⟨j,hj,h1⟩:=ask_some h;clear h
    obtain ⟨hc,h2⟩:=grd_some h1;clear h1
    obtain rfl:=rok_some h2
    obtain rfl:=asInt_of hj
    obtain ⟨t,rfl⟩:=qa
    obtain ⟨u,rfl⟩:=qb
    exact PyProof.Rows.mod_int (beq_int hc) (ep_int fun Z Z e=>e)
  | str f=>obtain ⟨t,rfl,Z⟩:=qa;exact fmt_ok h qb
  | _=>exact nov h
theorem ints_of {f:Int→Int→R PV} (h:(ask (asInt pa) fun i=>ask (asInt pb) fun j=>f i j)=some r) (qa:VV B s.heap μ pa va) (qb:VV B s.heap μ pb vb):∃ i j t u,va=.int i t∧vb=.int j u∧f i j=some r:=by
  obtain ⟨i,hi,h1⟩:=ask_some h;clear h
  obtain ⟨j,hj,h2⟩:=ask_some h1;clear h1
  rw [asInt_of hi] at qa
  rw [asInt_of hj] at qb
  obtain ⟨t,rfl⟩:=qa
  obtain ⟨u,rfl⟩:=qb
  exact ⟨i,j,t,u,rfl,rfl,h2⟩
theorem div_ok (h:divE pa pb=some r) (qa:VV B s.heap μ pa va) (qb:VV B s.heap μ pb vb):wpAny (model prog w0) A (binaryOp .FloorDiv va vb) (EPs F st B s r) E s:=by
  obtain ⟨i,j,t,u,rfl,rfl,h⟩:=ints_of h qa qb
  obtain ⟨hc,h3⟩:=grd_some h;clear h
  obtain rfl:=rok_some h3
  obtain ⟨h1,h2⟩:=Bool.or_eq_false_iff.mp (not_tt hc);clear hc
  exact PyProof.Rows.floordiv_int (ne_of_beq_false h1) (ep_int fun Z Z e=>e) (.inl (PyProof.noPylong_small (of_decide_eq_true (by cases e:decide (j.natAbs < 1073741824) with | true=>rfl | false=>rw [e] at h2;cases h2))))
theorem pow_fits {i j:Int} (h1:0≤j) (h2:j≤100) (h3:0≤i) (h4:i≤100):(Builtin.Int.intBits i:Int)*j≤6400:=
  Int.mul_le_mul (c:=64) (d:=100) (by exact_mod_cast intBits_le_64 (k:=i) (by lia) (by lia)) h2 h1 (by decide)
theorem pow_ok (h:powE pa pb=some r) (qa:VV B s.heap μ pa va) (qb:VV B s.heap μ pb vb):wpAny (model prog w0) A (binaryOp .Pow va vb) (EPs F st B s r) E s:=by
  obtain ⟨i,j,t,u,rfl,rfl,h⟩:=ints_of h qa qb
  obtain ⟨hc,h5⟩:=grd_some h;clear h
  obtain rfl:=rok_some h5
  obtain ⟨hc1,h4⟩:=and_tt hc;clear hc
  obtain ⟨hc2,h3⟩:=and_tt hc1;clear hc1
  obtain ⟨h1,h2⟩:=and_tt hc2;clear hc2
  have:=pow_fits (of_decide_eq_true h1) (of_decide_eq_true h2) (of_decide_eq_true h3) (of_decide_eq_true h4)
  exact PyProof.Rows.pow_int (of_decide_eq_true h1) (Int.le_trans this (by decide +kernel)) (ep_int fun Z Z e=>e)
theorem xor_ok (h:xorE pa pb=some r) (qa:VV B s.heap μ pa va) (qb:VV B s.heap μ pb vb):wpAny (model prog w0) A (binaryOp .BitXor va vb) (EPs F st B s r) E s:=by
  obtain ⟨p,hp,h1⟩:=ask_some h;clear h
  obtain ⟨q,hq,h2⟩:=ask_some h1;clear h1
  obtain rfl:=rok_some h2
  rw [asBool_of hp] at qa
  rw [asBool_of hq] at qb
  rw [show va=_ from qa,show vb=_ from qb]
  exact PyProof.Rows.xor_bool (Post.ok (GoS.refl ..) rfl)
theorem mul_ok (h:mulE pa pb=some r) (qa:VV B s.heap μ pa va) (qb:VV B s.heap μ pb vb):wpAny (model prog w0) A (binaryOp .Mult va vb) (EPs F st B s r) E s:=by
  obtain ⟨x,hx,h1⟩:=ask_some h
  obtain ⟨j,hj,h2⟩:=ask_some h1
  obtain ⟨hc,h3⟩:=grd_some h2
  obtain ⟨hl,rfl⟩:=strR_some h3
  obtain ⟨c0,c1⟩:=and_tt hc
  obtain ⟨c1,c2⟩:=and_tt c1
  have c0:=of_decide_eq_true c0
  have c1:=of_decide_eq_true c1
  have c2:=of_decide_eq_true c2
  rw [asStr_of hx] at qa
  rw [asInt_of hj] at qb
  obtain ⟨t,rfl,Z⟩:=qa
  obtain ⟨u,rfl⟩:=qb
  exact PySem.SB.mul (PyProof.Rows.mulOk_of 100 100 c2 (by omega) (by omega) (by omega) (by omega)) fun t' k=>ep_str hl fun Z Z e=>e
theorem bin_ok {op:Operator} (I:FI F st env B μ fm s) (h:binE fm op pa pb=some r) (qa:VV B s.heap μ pa va) (qb:VV B s.heap μ pb vb):
    wpAny (model prog w0) A (binaryOp op va vb) (EPs F st B s r) E s:=by
  cases op with
  | Add=>exact add_ok I.bd h (deref_dv I qa) qb
  | Mod=>exact mod_ok h qa qb
  | FloorDiv=>exact div_ok h qa qb
  | Pow=>exact pow_ok h qa qb
  | BitXor=>exact xor_ok h qa qb
  | Mult=>exact mul_ok h qa qb
  | _=>exact nov h
theorem neg_ok {va:PySem.Value} (h:negR pa=some r) (q:VV B s.heap μ pa va):wpAny (model prog w0) A (unaryOp .USub va) (EPs F st B s r) E s:=by
  obtain ⟨i,e,h1⟩:=ask_some h
  obtain rfl:=rok_some h1
  rw [asInt_of e] at q
  obtain ⟨t,rfl⟩:=q
  exact PyProof.Rows.neg_int (ep_int fun Z Z e=>e)
theorem not_ok {pa:PV} {va:PySem.Value} {b:Bool} (h:truth pa=some b) (q:VV B s.heap μ pa va):wpAny (model prog w0) A (unaryOp .Not va) (EPs F st B s (.ok (.bool (!b)))) E s:=by
  refine not_of (wpAny_mono (truthy_ok (F:=F) (st:=st) h q) (fun c s' z1=>?_) fun Z Z e=>e)
  obtain ⟨g,p,e,hp⟩:=z1
  cases e;subst hp
  exact ⟨g,_,rfl,rfl⟩
end
end Mine
end
section
open PySem PySem.W PySem.Calls PyProof.Rows
namespace Mine
section
variable {A:Around} {F:List Addr} {fr:List Env} {st:Bool} {B:Addr→Prop} {μ:Option Addr} {s:Shared} {env:Env} {fm:Fm} {E:PySem.Value→Shared→Prop}
mutual
theorem reads_of {h:Heap}:∀ {p:PV} {d:PyData} {v:Value},toPD p=some d→VR B h p v→∃ as,Reads h v d as
  | .none,_,_,e,x=>by cases Option.some.inj e;cases (show _=_ from x);exact ⟨_,.none⟩
  | .bool _,_,_,e,x=>by cases Option.some.inj e;cases (show _=_ from x);exact ⟨_,.bool _⟩
  | .int _,_,_,e,x=>by cases Option.some.inj e;obtain ⟨t,rfl⟩:=x;exact ⟨_,.int _ _⟩
  | .str _,_,_,e,x=>by cases Option.some.inj e;obtain ⟨t,rfl,Z⟩:=x;exact ⟨_,.str _ _⟩
  | .tup l,_,_,e,x=>by
    obtain ⟨ds,e1,rfl⟩:=Option.map_eq_some_iff.mp (show (toPDs l).map PyData.tuple=some _ from e);clear e
    obtain ⟨a,vs,rfl,Z,⟨o,h1,h2,n,h3⟩,Z,hv⟩:=x
    obtain ⟨as,ra⟩:=readsAll_of e1 hv;clear hv
    exact ⟨_,.tuple h1 h2 h3 ra⟩
  | .list l,_,_,e,x=>by
    obtain ⟨ds,e1,rfl⟩:=Option.map_eq_some_iff.mp (show (toPDs l).map PyData.list=some _ from e);clear e
    obtain ⟨a,vs,rfl,Z,⟨o,h1,h2,n,h3⟩,Z,hv⟩:=x
    obtain ⟨as,ra⟩:=readsAll_of e1 hv;clear hv
    exact ⟨_,.list h1 h2 h3 ra⟩
  | .inst _ _,_,_,e,_=>nov e
  | .glob _,_,_,e,_=>nov e
  | .mat _ _,_,_,e,_=>nov e
  | .any,_,_,e,_=>nov e
  | .own,_,_,e,_=>nov e
theorem readsAll_of {h:Heap}:∀ {l:List PV} {ds:List PyData} {vs:List Value},toPDs l=some ds→VRs B h l vs→∃ as,ReadsAll h vs ds as
  | [],_,_,e,x=>by cases Option.some.inj e;cases (show _=_ from x);exact ⟨_,.nil⟩
  | p::l,_,_,e,x=>by
    obtain ⟨d,e1,e3⟩:=ask_some (show ask (toPD p) (fun d=>(toPDs l).map (d::·))=some _ from e);clear e
    obtain ⟨ds,e2,rfl⟩:=Option.map_eq_some_iff.mp e3;clear e3
    obtain ⟨v,r,rfl,h1,h2⟩:=x
    obtain ⟨as,ra⟩:=reads_of e1 h1;clear h1
    obtain ⟨bs,rb⟩:=readsAll_of e2 h2;clear h2
    exact ⟨_,.cons ra rb⟩
end
theorem bool_here {b:Bool}:EPs F st B s (.ok (.bool b)) (.bool b) s:=Post.ok (GoS.refl ..) rfl
structure Two (A:Around) (F:List Addr) (st:Bool) (B:Addr→Prop) (s:Shared) (E:Value→Shared→Prop) (o o':CmpOp) (va vb:Value) (b:Bool):Prop where
  y:wpAny (model prog w0) A (compareOp o va vb) (EPs F st B s (.ok (.bool b))) E s
  n:wpAny (model prog w0) A (compareOp o' va vb) (EPs F st B s (.ok (.bool (!b)))) E s
variable {pa pb:PV} {va vb:Value} {b:Bool} {d:Nat}
theorem vv_pd {p:PV} {v:Value} {x:PyData} (e:toPD p=some x) (q:VV B s.heap μ p v):∃ as,Reads s.heap v x as:=by
  induction p using PV.casesOn with
  | own=>exact nov e
  | _=>exact reads_of (B:=B) e q
theorem eqd_ok (X:Cx d st A F fr) (h:eqd pa pb=some b) (qa:VV B s.heap μ pa va) (qb:VV B s.heap μ pb vb):Two A F st B s E .Eq .NotEq va vb b:=by
  obtain ⟨x,e1,h3⟩:=ask_some h;clear h
  obtain ⟨y,e2,h4⟩:=ask_some h3;clear h3
  obtain ⟨hs,h5⟩:=grd_some h4;clear h4
  obtain ⟨h1,h2⟩:=and_tt hs;clear hs
  obtain rfl:=Option.some.inj h5
  obtain ⟨as,ra⟩:=vv_pd e1 qa
  obtain ⟨bs,rb⟩:=vv_pd e2 qb
  have hu:A.units+64 < cLine:=by have:=X.units;unfold cLine;lia
  exact ⟨SeqAt.compareEq_shaped ra rb h1 h2 hu bool_here,SeqAt.compareNe_shaped ra rb h1 h2 hu bool_here⟩
theorem eqv_ok (X:Cx d st A F fr) (h:eqv pa pb=some b) (qa:VV B s.heap μ pa va) (qb:VV B s.heap μ pb vb):Two A F st B s E .Eq .NotEq va vb b:=by
  cases pa with
  | int i=>
    obtain ⟨j,hj,h1⟩:=ask_some h;clear h
    obtain rfl:=Option.some.inj h1
    rw [asInt_of hj] at qb
    obtain ⟨t,rfl⟩:=qa
    obtain ⟨u,rfl⟩:=qb
    exact ⟨eq_int bool_here,ne_int bool_here⟩
  | str x=>
    obtain ⟨y,hj,h2⟩:=ask_some h;clear h
    obtain rfl:=Option.some.inj h2
    rw [asStr_of hj] at qb
    obtain ⟨t,rfl,Z⟩:=qa
    obtain ⟨u,rfl,Z⟩:=qb
    exact ⟨eq_str bool_here,ne_str bool_here⟩
  | _=>exact eqd_ok X h qa qb
theorem isNone_ok (h:isNone pa=some b) (qa:VV B s.heap μ pa va):(va==.none)=b:=by
  induction pa using PV.casesOn with
  | none=>cases h;cases (show _=_ from qa);rfl
  | bool=>cases h;cases (show _=_ from qa);rfl
  | int=>cases h;obtain ⟨t,rfl⟩:=qa;rfl
  | str=>cases h;obtain ⟨t,rfl,Z⟩:=qa;rfl
  | tup=>cases h;obtain ⟨a,vs,rfl,Z⟩:=qa;rfl
  | list=>cases h;obtain ⟨a,vs,rfl,Z⟩:=qa;rfl
  | inst=>cases h;obtain ⟨a,vs,Z,rfl,Z⟩:=qa;rfl
  | mat=>cases h;obtain ⟨a,o,txt,t,p,l,li,pat,sp,b0,rest,rfl,Z⟩:=qa;rfl
  | _=>exact nov h
theorem strs_vals {h:Heap}:∀ {l:List PV} {ys:List Str} {vs:List Value},strsOf l=some ys→VRs B h l vs→∃ ts:List (Str×Tok),vs=ts.map (fun p=>.str p.1 p.2)∧ts.map (·.1)=ys∧∀ y∈ys,y.length≤lenLine
  | [],_,_,e,x=>by cases Option.some.inj e;cases (show _=_ from x);exact ⟨[],rfl,rfl,fun Z h=>nomatch h⟩
  | p::r,_,_,e,x=>by
    obtain ⟨z,e0,e2⟩:=ask_some (show ask (asStr p) (fun x=>(strsOf r).map (x::·))=some _ from e);clear e
    obtain ⟨zs,e1,rfl⟩:=Option.map_eq_some_iff.mp e2
    obtain ⟨v,vs,rfl,h1,h2⟩:=x
    rw [asStr_of e0] at h1
    obtain ⟨t,rfl,hz⟩:=h1
    obtain ⟨ts,rfl,rfl,hh⟩:=strs_vals e1 h2;clear h2
    exact ⟨(z,t)::ts,rfl,rfl,fun y hy=>(List.mem_cons.mp hy).elim (fun e2=>e2▸hz) (hh y)⟩
theorem in_ok (h:inE pa pb=some b) (qa:VV B s.heap μ pa va) (qb:VV B s.heap μ pb vb):wpAny (model prog w0) A (compareOp .In va vb) (EPs F st B s (.ok (.bool b))) E s:=by
  obtain ⟨x,hx,h1⟩:=ask_some h;clear h
  obtain ⟨y,hy,h2⟩:=ask_some h1;clear h1
  obtain rfl:=Option.some.inj h2
  rw [asStr_of hx] at qa
  rw [asStr_of hy] at qb
  obtain ⟨t,rfl,Z⟩:=qa
  obtain ⟨u,rfl,Z⟩:=qb
  exact SB.contains bool_here
end
end Mine
end
section
open PySem PySem.W PySem.Calls PyProof.Rows
namespace Mine
section
variable {A:Around} {F:List Addr} {fr:List Env} {st:Bool} {B:Addr→Prop} {μ:Option Addr} {s:Shared} {env:Env} {fm:Fm} {E:PySem.Value→Shared→Prop}
theorem subTail {value slice:PySem.Expr} {o i:PySem.Value} {C id:String} {Q:PySem.Value→Shared→Prop} (hT:s.TypeIs o C) (hl:typeLookup (.type C) "__getitem__"=pure (some (.builtin id)))
    (h:wpAny (model prog w0) A (getItem o i) Q E s):wpAny (model prog w0) A (subscriptTail value slice o i) Q E s:=by
  unfold subscriptTail
  refine wpAny_bind ?_
  rw [getitemInPython_of_ne hT.not_modules]
  refine wpAny_bind (wpAny_specialOf hT hl ?_)
  have fin:∀ vs,wpAny (model prog w0) A (operate vs (getItem o i)) (fun r s₃=>wpAny (model prog w0) A (letTemporaryGo value o r>>=fun Z=>pure r) Q E s₃) E s:=fun vs=>
    wpAny_operating (wpAny_mono h (fun r s₃ h₃=>wpAny_bind (wpAny_letTemporaryGo (wpAny_pure h₃))) fun Z Z x=>x)
  have fin':wpAny (model prog w0) A (subscripted slice false o i) (fun r s₃=>wpAny (model prog w0) A (letTemporaryGo value o r>>=fun Z=>pure r) Q E s₃) E s:=by
    induction slice using PySem.Expr.casesOn with
    | Slice a b c p=>cases c<;>exact fin _
    | _=>exact fin _
  first
    | exact wpAny_pure (wpAny_bind fin')
    | exact wpAny_bind (wpAny_pure (wpAny_bind fin'))
    | exact wpAny_bind fin'
theorem lenLine_63:lenLine < 2 ^ 63:=by decide
theorem VRs.get {h:Heap} {p:PV}:∀ {l:List PV} {vs:List PySem.Value} {k:Nat},VRs B h l vs→l[k]?=some p→∃ v,vs[k]?=some v∧VR B h p v
  | [],_,_,_,e=>by simp at e
  | q::l,_,k,x,e=>by
    obtain ⟨v,r,rfl,h1,h2⟩:=x
    induction k using Nat.casesOn with
    | zero=>simp at e;subst e;exact ⟨v,by simp,h1⟩
    | succ k=>simp at e;obtain ⟨v',e1,h3⟩:=h2.get e;exact ⟨v',by simpa using e1,h3⟩
theorem lt_of_get {α:Type} {l:List α} {k:Nat} {p:α} (e:l[k]?=some p):k < l.length:=by
  obtain ⟨h,Z⟩:=List.getElem?_eq_some_iff.mp e;exact h
theorem fits63 {k:Int} {n:Nat} (h0:0≤k) (h:k.toNat < n) (hn:n≤lenLine):k < 2 ^ 63:=by have:=lenLine_63;lia
theorem seqIdx {k:Int} {n:Nat} (h0:0≤k) (h:k.toNat < n):seqIndex? k n=some k.toNat:=by
  unfold seqIndex?
  rw [if_neg (by lia:¬ k < 0),if_pos (by simp;lia)]
variable {pa pb:PV} {va vb:Value} {r:Res PV} {value slice:Expr}
theorem sub_list {l:List PV} {k:Int} {u:Tok} (h:listAt l k=some r) (q:LstR B s.heap l va):wpAny (model prog w0) A (subscriptTail value slice va (.int k u)) (EPs F st B s r) E s:=by
  obtain ⟨a,vs,rfl,hl,hn,hv⟩:=q
  unfold listAt at h
  induction e:decide (0≤k) with
  | true=>
    rw [e] at h
    have h0:=of_decide_eq_true e
    obtain ⟨p,hp,rfl⟩:=optR_some h
    obtain ⟨v,e1,hv1⟩:=hv.get hp
    exact subTail hl.typeIs slot_list_getitem.lookup (wpAny_getItem_list hl h0 (fits63 h0 (lt_of_get hp) hn) ((List.getElem?_toArray ..).trans e1) (Post.ok (GoS.refl ..) hv1))
  | false=>
    rw [e] at h
    obtain ⟨h1,h2⟩:=grd_some h;clear h
    have h0:=of_decide_eq_false e
    have h1:=of_decide_eq_true h1
    obtain ⟨p,hp,rfl⟩:=optR_some h2
    obtain ⟨v,e1,hv1⟩:=hv.get hp
    have hs:vs.toArray.size=l.length:=by rw [List.size_toArray];exact hv.length
    have:=lenLine_63
    refine subTail hl.typeIs slot_list_getitem.lookup (wpAny_getItem_list_neg hl (by lia) (by rw [hs];lia) (by lia) ?_ (Post.ok (GoS.refl ..) hv1))
    rw [hs]
    exact (List.getElem?_toArray ..).trans e1
theorem sub_str {x:Str} {k:Int} {u:Tok} (h0:0≤k) (h:(ask x.cps[k.toNat]? fun c=>rok (PV.str ⟨#[c]⟩))=some r) (q:VR B s.heap (.str x) va):wpAny (model prog w0) A (subscriptTail value slice va (.int k u)) (EPs F st B s r) E s:=by
  obtain ⟨c,hc,h⟩:=ask_some h
  obtain rfl:=rok_some h
  obtain ⟨t,rfl,hx⟩:=q
  have hk:k.toNat < x.length:=(Array.getElem?_eq_some_iff.mp hc).1
  have hr:(decide (k < -(2 ^ 63:Int))||decide (k ≥ 2 ^ 63))=false:=by
    have:=fits63 h0 hk hx
    rw [Bool.or_eq_false_iff,decide_eq_false_iff_not,decide_eq_false_iff_not]
    lia
  exact subTail (typeIs_str _ _ _) PySem.F.slot_str_getitem.lookup (PyProof.Rows.getItem_str hr (by rw [seqIdx h0 hk];exact hc) (ep_str (by decide:1≤lenLine) fun Z Z e=>e))
theorem idx_ok (I:FI F st env B μ fm s) (h:idxE fm pa pb=some r) (qa:VV B s.heap μ pa va) (qb:VV B s.heap μ pb vb):
    wpAny (model prog w0) A (subscriptTail value slice va vb) (EPs F st B s r) E s:=by
  obtain ⟨k,hk,h⟩:=ask_some h
  rw [asInt_of hk] at qb
  obtain ⟨u,rfl⟩:=qb
  have q:=deref_dv I qa
  generalize deref fm pa=o at h q
  cases o with
  | list l=>exact sub_list h q
  | str x=>obtain ⟨h0,h⟩:=grd_some h;exact sub_str (of_decide_eq_true h0) h q
  | _=>exact nov h
noncomputable def OV (B:Addr→Prop) (h:Heap) (μ:Option Addr):Option PV→PySem.Value→Prop
  | Option.none,v=>v=.none
  | some p,v=>VV B h μ p v
theorem OV.go {s s':Shared} {o:Option PV} {v:PySem.Value} (x:OV B s.heap μ o v) (g:Go F s s') (D:Bd F B s.heap):OV B s'.heap μ o v:=by
  induction o with
  | none=>exact x
  | some p=>exact VV.go x g D
theorem bound_part {o:Option PV} {v:Value} {a:Option Int} {h:Heap} (e:bound o=some a) (x:OV B h μ o v):IsPart v a:=by
  induction o with
  | none=>obtain rfl:=Option.some.inj e;cases (show v=.none from x);exact .none
  | some p=>
    obtain ⟨i,hi,rfl⟩:=Option.map_eq_some_iff.mp e
    have x:VV B h μ p v:=x
    rw [asInt_of hi] at x
    obtain ⟨t,rfl⟩:=x
    exact .int _ _
theorem VRs.pick {h:Heap} {l:List PV} {vs:List PySem.Value} (x:VRs B h l vs):∀ is:List Nat,VRs B h (is.filterMap (l[·]?)) (is.filterMap (vs[·]?))
  | []=>by rfl
  | i::is=>by
    induction e:l[i]? with
    | none=>
      have:vs[i]?=none:=by
        rw [List.getElem?_eq_none_iff] at e ⊢;rw [x.length];exact e
      simp only [List.filterMap_cons,e,this]
      exact x.pick is
    | some p=>
      obtain ⟨v,e1,hv⟩:=x.get e
      simp only [List.filterMap_cons,e,e1]
      exact ⟨v,_,rfl,hv,x.pick is⟩
noncomputable abbrev sliced (s:Shared) (vl vu:Value):Shared:={ s with heap:=s.heap.push { cls:=.type "slice",data:=.fields #[vl,vu,.none] } }
theorem sliced_go {vl vu:Value}:GoS F st s (sliced s vl vu):=GoS.heap (tk:=s.toks) (keep_push _)
variable {l u:Option PV} {vl vu:Value} {a b:Option Int}
theorem slice_list {xs:List PV} (I:FI F st env B μ fm s) (q:LstR B s.heap xs va) (ql:IsPart vl a) (qu:IsPart vu b):
    wpAny (model prog w0) A (subscriptTail value slice va (.ref s.heap.objs.size)) (EPs F st B s (.ok (.list (pickL a b xs)))) E (sliced s vl vu):=by
  obtain ⟨c,vs,rfl,hl,hn,hv⟩:=q
  have hpick:slicePick vs.toArray a b none=(pickL a b vs).toArray:=by
    unfold slicePick pickL;simp
  have hpv:VRs B s.heap (pickL a b xs) (pickL a b vs):=by
    unfold pickL
    rw [hv.length]
    exact hv.pick _
  refine subTail (hl.push _).typeIs slot_list_getitem.lookup (wpAny_getItem_list_slice (hl.push _) (Heap.IsSliceOf.new ..) ql qu .none (fun e=>nomatch e) ?_ (by rw [List.size_toArray,hv.length];exact Nat.le_trans hn (by decide +kernel)))
  rw [hpick]
  refine Post.after sliced_go (ep_newList (k:=s.toks) (I.bd.go (sliced_go (st:=st)).go I.gi) ?_ (hpv.go (sliced_go (st:=st)).go I.bd))
  have:=slicePick_size_le vs.toArray a b none
  rw [hpick,List.size_toArray,List.size_toArray,hv.length,hpv.length] at this
  exact Nat.le_trans this hn
theorem slice_str {x:Str} (q:VR B s.heap (.str x) va) (ql:IsPart vl a) (qu:IsPart vu b):
    wpAny (model prog w0) A (subscriptTail value slice va (.ref s.heap.objs.size)) (EPs F st B s (.ok (.str (Txt.slice x a b)))) E (sliced s vl vu):=by
  obtain ⟨t,rfl,hx⟩:=q
  have hxs:x.length≤sizeLine:=Nat.le_trans hx (by decide +kernel)
  have fin:∀ h' t' k,(∀ b o,s.heap.get? b=some o→h'.get? b=some o)→EPs F st B s (.ok (.str (Txt.slice x a b))) (.str (Txt.slice x a b) t') { s with heap:=h',toks:=k }:=fun h' t' k hk=>
    ep_str (Nat.le_trans (Txt.slice_le x a b) hx) hk
  have hk:KeptH (fun h'=>∀ b o,s.heap.get? b=some o→h'.get? b=some o):=fun h' ob k b o q=>Heap.get?_push_of_some _ (k b o q)
  cases ql<;>cases qu
  · obtain ⟨C,id,h1,h2,h3⟩:=SBH.sliceItem_nn (t:=t) (w:=w0) (A:=A) (E:=E) hk (s:=s) (fun Z Z q=>q) fin hxs
    exact subTail h2 h1 h3
  · obtain ⟨C,id,h1,h2,h3⟩:=SBH.sliceItem_ns (t:=t) (w:=w0) (A:=A) (E:=E) hk (s:=s) (fun Z Z q=>q) fin hxs
    exact subTail h2 h1 h3
  · obtain ⟨C,id,h1,h2,h3⟩:=SBH.sliceItem_sn (t:=t) (w:=w0) (A:=A) (E:=E) hk (s:=s) (fun Z Z q=>q) fin hxs
    exact subTail h2 h1 h3
  · obtain ⟨C,id,h1,h2,h3⟩:=SBH.sliceItem_ss (t:=t) (w:=w0) (A:=A) (E:=E) hk (s:=s) (fun Z Z q=>q) fin hxs
    exact subTail h2 h1 h3
theorem slice_ok (I:FI F st env B μ fm s) (h:sliceE fm pa l u=some r) (qa:VV B s.heap μ pa va) (ql:OV B s.heap μ l vl) (qu:OV B s.heap μ u vu):
    wpAny (model prog w0) A (subscriptTail value slice va (.ref s.heap.objs.size)) (EPs F st B s r) E (sliced s vl vu):=by
  obtain ⟨a,ha,h⟩:=ask_some h
  obtain ⟨b,hb,h⟩:=ask_some h
  have q:=deref_dv I qa
  generalize deref fm pa=o at h q
  cases o with
  | list xs=>obtain rfl:=rok_some h;exact slice_list I q (bound_part ha ql) (bound_part hb qu)
  | str x=>obtain rfl:=rok_some h;exact slice_str q (bound_part ha ql) (bound_part hb qu)
  | _=>exact nov h
end
end Mine
end
section
open PySem PySem.W PySem.Calls PyProof.Rows
namespace Mine
open Builtin Builtin.Str
noncomputable def smId:SM→String
  | .join=>"str.join"
  | .split=>"str.split"
  | .splitM=>"str.split"
  | .isdigit=>"str.isdigit"
  | .encode=>"str.encode"
  | .lstrip=>"str.lstrip"
  | .count=>"str.count"
theorem sm_slot (k:SM):Slot "str" (Str.ofString (smName k)) (smId k)∧typeOf (.builtin (smId k))=pure (.type "method_descriptor"):=by
  cases k with
  | join=>exact ⟨PySem.F.slot_str_join,PySem.F.type_str_join⟩
  | split=>exact ⟨PySem.F.slot_str_split,PySem.F.type_str_split⟩
  | splitM=>exact ⟨PySem.F.slot_str_split,PySem.F.type_str_split⟩
  | isdigit=>exact ⟨PySem.F.slot_str_isdigit,PySem.F.type_str_isdigit⟩
  | encode=>exact ⟨PySem.F.slot_str_encode,PySem.F.type_str_encode⟩
  | lstrip=>exact ⟨PySem.F.slot_str_lstrip,PySem.F.type_str_lstrip⟩
  | count=>exact ⟨PySem.F.slot_str_count,PySem.F.type_str_count⟩
theorem smOf_slot {m:Str} {k:SM} (h:smOf m=some k):Slot "str" m (smId k)∧typeOf (.builtin (smId k))=pure (.type "method_descriptor"):=by
  rw [eq_of_beq (List.find?_some (p:=fun k=>m==Str.ofString (smName k)) h)]
  exact sm_slot k
section
variable {A:Around} {F:List Addr} {fr:List Env} {st:Bool} {B:Addr→Prop} {μ:Option Addr} {s:Shared} {env:Env} {fm:Fm} {E:PySem.Value→Shared→Prop}
theorem split1 {x y:PySem.Str} {t u:Tok} {Q:PySem.Value→Shared→Prop} (hy:(y.length==0)=false) (hsz:x.length≤lenLine)
    (h:∀ (l:List (PySem.Str×Tok)) k,l.map (·.1)=Txt.split x y→Q (.ref s.heap.objs.size) { s with heap:=s.heap.push { cls:=.type "list",data:=.seq (strValues l).toArray },toks:=k }):
    wpAny (model prog w0) A (call (.builtin "str.split") [.str x t,.str y u]) Q E s:=by
  have hl:x.length+2≤sizeLine:=by unfold lenLine at hsz;rw [sizeLine_eq];lia
  have hn:(partsBetween x (occurrences x y 0 x.length (x.length+1)) y.length).length≤sizeLine:=by
    have e1:=StrLaws.occ_length_le x y 0 x.length (x.length+1)
    rw [length_partsBetween];lia
  cases h1:(decide (x.length < y.length)||decide (strKind x < strKind y))
  · cases hf:(occurrences x y 0 x.length (x.length+1)).isEmpty
    · refine call_meets PySem.F.slot_str_split (typeIs_str _ _ _) PySem.F.entry_str_split (PySem.F.args_str_split_2 _ _) (meets_str_split_sep x y t u h1 hy hf (by lia) hn) ?_
      show wants Q E _ { s with toks:=_,heap:=s.heap.push { cls:=.type "list",data:=.seq (strsFrom s.toks (partsBetween x (occurrences x y 0 x.length (x.length+1)) y.length)).toArray } }
      rw [strsFrom_eq]
      exact h (numbered s.toks _) _ ((numbered_texts _ _).trans ((if_neg (ne_true_of_eq_false h1)).trans (if_neg (ne_true_of_eq_false hf))).symm)
    · exact call_meets PySem.F.slot_str_split (typeIs_str _ _ _) PySem.F.entry_str_split (PySem.F.args_str_split_2 _ _) (meets_str_split_not_found x y t u h1 hy hf)
        (h [(x,t)] s.toks ((if_neg (ne_true_of_eq_false h1)).trans (if_pos hf)).symm)
  · exact call_meets PySem.F.slot_str_split (typeIs_str _ _ _) PySem.F.entry_str_split (PySem.F.args_str_split_2 _ _) (meets_str_split_cannot_occur x y t u h1)
      (h [(x,t)] s.toks (if_pos h1).symm)
theorem split2 {x y:PySem.Str} {t u v:Tok} {Q:PySem.Value→Shared→Prop} (hy:(y.length==0)=false) (hsz:x.length≤lenLine)
    (h:∀ (l:List (PySem.Str×Tok)) tk,l.map (·.1)=Txt.splitMax x y 1→Q (.ref s.heap.objs.size) { s with heap:=s.heap.push { cls:=.type "list",data:=.seq (strValues l).toArray },toks:=tk }):
    wpAny (model prog w0) A (call (.builtin "str.split") [.str x t,.str y u,.int 1 v]) Q E s:=by
  have hl:x.length+2≤sizeLine:=by unfold lenLine at hsz;rw [sizeLine_eq];lia
  have hn:(partsBetween x (occurrences x y 0 x.length (limitOf x 1)) y.length).length≤sizeLine:=by
    have e1:=StrLaws.occ_length_le_len x y 0 x.length (limitOf x 1)
    rw [length_partsBetween];lia
  have hk:(decide ((1:Int) < -(2 ^ 63:Int))||decide ((1:Int) ≥ 2 ^ 63))=false:=by decide
  cases h1:(decide (x.length < y.length)||decide (strKind x < strKind y))
  · cases hf:(occurrences x y 0 x.length (limitOf x 1)).isEmpty
    · refine call_meets PySem.F.slot_str_split (typeIs_str _ _ _) PySem.F.entry_str_split (PySem.F.args_str_split_3 _ _ _) (meets_str_split_sep_max x y 1 t u v hk h1 hy hf (by lia) hn) ?_
      show wants Q E _ { s with toks:=_,heap:=s.heap.push { cls:=.type "list",data:=.seq (strsFrom s.toks (partsBetween x (occurrences x y 0 x.length (limitOf x 1)) y.length)).toArray } }
      rw [strsFrom_eq]
      exact h (numbered s.toks _) _ ((numbered_texts _ _).trans ((if_neg (ne_true_of_eq_false h1)).trans (if_neg (ne_true_of_eq_false hf))).symm)
    · exact call_meets PySem.F.slot_str_split (typeIs_str _ _ _) PySem.F.entry_str_split (PySem.F.args_str_split_3 _ _ _) (meets_str_split_max_not_found x y 1 t u v hk h1 hy hf)
        (h [(x,t)] s.toks ((if_neg (ne_true_of_eq_false h1)).trans (if_pos hf)).symm)
  · exact call_meets PySem.F.slot_str_split (typeIs_str _ _ _) PySem.F.entry_str_split (PySem.F.args_str_split_3 _ _ _) (meets_str_split_max_cannot_occur x y 1 t u v hk h1)
      (h [(x,t)] s.toks (if_pos h1).symm)
theorem VRs_strs {h:Heap}:∀ (l:List (PySem.Str×Tok)),(∀ p∈l,p.1.length≤lenLine)→VRs B h (l.map fun p=>.str p.1) (strValues l)
  | [],_=>by rfl
  | p::l,hh=>by
    show VRs B h (PV.str p.1::l.map fun p=>.str p.1) (.str p.1 p.2::strValues l)
    exact ⟨_,_,rfl,⟨p.2,rfl,hh p (List.mem_cons_self ..)⟩,VRs_strs l fun q hq=>hh q (List.mem_cons_of_mem _ hq)⟩
theorem strsAre_map:∀ ts:List (PySem.Str×Tok),StrsAre (ts.map fun p=>.str p.1 p.2) (ts.map (·.1))
  | []=>.nil
  | p::r=>.cons _ _ (strsAre_map r)
theorem strsAre_of {h:Heap} {l:List PV} {ys:List PySem.Str} {vs:List PySem.Value} (e:strsOf l=some ys) (x:VRs B h l vs):StrsAre vs ys:=by
  obtain ⟨ts,rfl,rfl,Z⟩:=strs_vals e x;clear x
  exact strsAre_map ts
theorem split_len (x y:PySem.Str):(Txt.split x y).length≤x.length+2:=by
  unfold Txt.split
  split
  · simp
  · split
    · simp
    · have e1:=StrLaws.occ_length_le x y 0 x.length (x.length+1)
      rw [length_partsBetween];lia
theorem splitMax_len (x y:PySem.Str) (k:Int):(Txt.splitMax x y k).length≤x.length+2:=by
  unfold Txt.splitMax
  split
  · simp
  · split
    · simp
    · have e1:=StrLaws.occ_length_le_len x y 0 x.length (limitOf x k)
      rw [length_partsBetween];lia
theorem ep_strs {l:List (PySem.Str×Tok)} {k:Tok} (D:Bd F B s.heap) {ys:List PySem.Str} (e:l.map (·.1)=ys) (hl:ys.length≤lenLine) (hh:∀ y∈ys,y.length≤lenLine):
    EPs F st B s (.ok (.list (ys.map .str))) (.ref s.heap.objs.size) { s with heap:=s.heap.push { cls:=.type "list",data:=.seq (strValues l).toArray },toks:=k }:=by
  subst e
  have:=ep_newList (st:=st) (k:=k) D (l:=l.map fun p=>PV.str p.1) (by simpa using hl) (VRs_strs l (by simpa using hh))
  rw [List.map_map]
  exact this
theorem VRs.one {h:Heap} {a:PV} {vs:List PySem.Value} (x:VRs B h [a] vs):∃ v,vs=[v]∧VR B h a v:=by
  obtain ⟨v,r,rfl,h1,e⟩:=x
  cases (show r=[] from e)
  exact ⟨v,rfl,h1⟩
theorem VRs.zero {h:Heap} {vs:List PySem.Value} (x:VRs B h [] vs):vs=[]:=by exact x
noncomputable def EncodeOk:Prop:=∀ {A:Around} {s:Shared} {E:PySem.Value→Shared→Prop} {x:PySem.Str} {t u:Tok} {Q:PySem.Value→Shared→Prop},x.cps.toList.all (· < 128)=true→x.length≤lenLine →
  (∀ v k,Q v { s with toks:=k })→wpAny (model prog w0) A (call (.builtin "str.encode") [.str x t,.str (Str.ofString "ascii") u]) Q E s
theorem VRs.ofOne {h:Heap} {args:List PV} {a:PV} {vs:List Value} (e:Mine.one args=some a) (q:VRs B h args vs):∃ v,vs=[v]∧VR B h a v:=by
  rw [one_of e] at q;exact q.one
theorem VRs.ofStr {h:Heap} {args:List PV} {r:Res PV} {vs:List Value} {f:Str→R PV} (e:(ask (Mine.one args) fun a=>ask (asStr a) f)=some r) (q:VRs B h args vs):∃ y u,vs=[.str y u]∧y.length≤lenLine∧f y=some r:=by
  obtain ⟨a,h1,e1⟩:=ask_some e;clear e
  obtain ⟨y,h2,e2⟩:=ask_some e1;clear e1
  obtain ⟨v,rfl,hv⟩:=q.ofOne h1;clear h1
  rw [asStr_of h2] at hv
  obtain ⟨u,rfl,hl⟩:=hv
  exact ⟨y,u,rfl,hl,e2⟩
variable {x y:Str} {t u:Tok} {r:Res PV}
theorem join_fits {n k m:Nat} (h:(decide (n+k≤100000)&&decide (m≤16))=true):n+k≤1048576∧m≤16:=⟨Nat.le_trans (of_decide_eq_true (and_tt h).1) (by decide),of_decide_eq_true (and_tt h).2⟩
theorem sm_join {a:PV} {v:Value} (h:joinE x a=some r) (q:VR B s.heap a v):wpAny (model prog w0) A (call (.builtin "str.join") [.str x t,v]) (EPs F st B s r) E s:=by
  induction a using PV.casesOn with
  | list l=>
    obtain ⟨ys,h1,h2⟩:=ask_some h;clear h
    obtain ⟨hc,h3⟩:=grd_some h2;clear h2
    obtain ⟨hl,rfl⟩:=strR_some h3;clear h3
    obtain ⟨a,ws,rfl,Z,hl',Z,hws⟩:=q
    exact join_listW hl' (strsAre_of h1 hws) (join_fits hc).2 (join_fits hc).1 fun t' k=>ep_str hl fun Z Z e=>e
  | tup l=>
    obtain ⟨ys,h1,h4⟩:=ask_some h;clear h
    obtain ⟨hc,h5⟩:=grd_some h4;clear h4
    obtain ⟨hl,rfl⟩:=strR_some h5;clear h5
    obtain ⟨a,ws,rfl,Z,hl',Z,hws⟩:=q
    exact join_tupleW hl' (strsAre_of h1 hws) (join_fits hc).2 (join_fits hc).1 fun t' k=>ep_str hl fun Z Z e=>e
  | _=>exact nov h
theorem sm_split (D:Bd F B s.heap) (h:splitE x y=some r) (hx:x.length≤lenLine):wpAny (model prog w0) A (call (.builtin "str.split") [.str x t,.str y u]) (EPs F st B s r) E s:=by
  obtain ⟨hc,h3⟩:=grd_some h;clear h
  obtain rfl:=rok_some h3
  obtain ⟨h1,h2⟩:=Bool.or_eq_false_iff.mp (not_tt hc);clear hc
  exact split1 h1 hx fun l k el=>ep_strs D el (Nat.le_trans (split_len x y) (Nat.le_of_not_le (of_decide_eq_false h2))) fun a ha=>Nat.le_trans (part_short ha) hx
theorem sm_splitM {q:PV×PV} {v w:Value} (D:Bd F B s.heap) (h:splitME x q=some r) (hx:x.length≤lenLine) (q1:VR B s.heap q.1 v) (q2:VR B s.heap q.2 w):wpAny (model prog w0) A (call (.builtin "str.split") [.str x t,v,w]) (EPs F st B s r) E s:=by
  obtain ⟨y,hy,h1⟩:=ask_some h;clear h
  obtain ⟨k,hk,h2⟩:=ask_some h1;clear h1
  obtain ⟨hc,h3⟩:=grd_some h2;clear h2
  obtain rfl:=rok_some h3
  rw [asStr_of hy] at q1
  rw [asInt_of hk] at q2
  obtain ⟨u,rfl,Z⟩:=q1
  obtain ⟨u',rfl⟩:=q2
  obtain ⟨h1,h2⟩:=and_tt hc;clear hc
  obtain ⟨h2,h3⟩:=Bool.or_eq_false_iff.mp (not_tt h2)
  rw [eq_of_beq h1]
  exact split2 h2 hx fun l k el=>ep_strs D el (Nat.le_trans (splitMax_len x y 1) (Nat.le_of_not_le (of_decide_eq_false h3))) fun a ha=>Nat.le_trans (partMax_short ha) hx
theorem sm_enc (enc:EncodeOk) (h:encE x y=some r) (hx:x.length≤lenLine):wpAny (model prog w0) A (call (.builtin "str.encode") [.str x t,.str y u]) (EPs F st B s r) E s:=by
  obtain ⟨hc,h3⟩:=grd_some h;clear h
  obtain rfl:=rok_some h3
  obtain ⟨h1,h2⟩:=and_tt hc;clear hc
  rw [eq_of_beq h2]
  exact enc h1 hx fun v k=>ep_any fun Z Z e=>e
theorem strMeth_ok {k:SM} {args:List PV} {vs:List Value} (enc:EncodeOk) (D:Bd F B s.heap) (h:smMeth x k args=some r) (hx:x.length≤lenLine) (q:VRs B s.heap args vs):
    wpAny (model prog w0) A (call (.builtin (smId k)) (.str x t::vs)) (EPs F st B s r) E s:=by
  cases k with
  | join=>
    obtain ⟨a,h1,h2⟩:=ask_some h;clear h
    obtain ⟨v,rfl,hv⟩:=q.ofOne h1;clear h1
    exact sm_join h2 hv
  | split=>obtain ⟨y,u,rfl,hl,h⟩:=q.ofStr h;exact sm_split D h hx
  | splitM=>
    obtain ⟨p,hp,h1⟩:=ask_some h;clear h
    rw [two_of hp] at q
    obtain ⟨v,w,rfl,q1,q2⟩:=q.two
    exact sm_splitM D h1 hx q1 q2
  | isdigit=>
    obtain ⟨h1,h3⟩:=grd_some h;clear h
    obtain rfl:=rok_some h3
    rw [List.isEmpty_iff.mp h1] at q
    obtain rfl:=q.zero
    exact call_gives PySem.F.slot_str_isdigit (typeIs_str _ _ _) PySem.F.entry_str_isdigit (PySem.F.args_str_isdigit_1 _) (gives_str_isdigit x t) bool_here
  | encode=>obtain ⟨y,u,rfl,hl,h⟩:=q.ofStr h;exact sm_enc enc h hx
  | lstrip=>
    obtain ⟨y,u,rfl,hl,h⟩:=q.ofStr h
    obtain ⟨hl,rfl⟩:=strR_some h
    exact call_gives PySem.F.slot_str_lstrip (typeIs_str _ _ _) PySem.F.entry_str_lstrip (PySem.F.args_str_lstrip_2 _ _) (gives_str_lstrip_chars x y t u) (post_val_or_made (fun Z=>fits_stripped _ _ _ (Nat.le_trans hx (by rw [sizeLine_eq];decide))) fun t' k=>ep_str hl fun Z Z e=>e)
  | count=>
    obtain ⟨y,u,rfl,hl,h⟩:=q.ofStr h
    obtain rfl:=rok_some h
    exact call_gives PySem.F.slot_str_count (typeIs_str _ _ _) PySem.F.entry_str_count (PySem.F.args_str_count_2 _ _) (gives_str_count x y t u) (ep_int fun Z Z e=>e)
end
end Mine
end
section
open PySem PySem.W PySem.Calls PyProof.Rows
namespace Mine
open Builtin Builtin.Str Builtin._codecs
theorem enc0 (u:Tok):codecArg "str.encode" "encode" "'encoding'" (some (.str (Str.ofString "ascii") u))=pure (some (Str.ofString "ascii")):=by
  have e1:(Str.ofString "ascii").cps.any (· ≥ 128)=false:=by decide +kernel
  have e2:(Str.ofString "ascii").cps.contains 0=false:=by decide +kernel
  show (if ((Str.ofString "ascii").cps.any (· ≥ 128))=true then _ else _)=_
  rw [e1]
  show (if ((Str.ofString "ascii").cps.contains 0)=true then _ else _)=_
  rw [e2]
  rfl
theorem enc1 (x:PySem.Str) (t u:Tok):«str.encode» ⟨[.str x t,.str (Str.ofString "ascii") u],[]⟩=(do ret (← encodeRoad "str.encode" (.str x t) x (Str.ofString "ascii") none)):=by
  show (do let encoding:=(← codecArg "str.encode" "encode" "'encoding'" (some (.str (Str.ofString "ascii") u))).getD (Str.ofString "utf-8");_)=_
  rw [enc0]
  rfl
theorem enc2 (self:PySem.Value) (x:PySem.Str):encodeRoad "str.encode" self x (Str.ofString "ascii") none=(do mkBytes (← encodeNarrow "str.encode" asciiCodec none self x)):=by
  have e:(normalName (Str.ofString "ascii")).toString="ascii":=by first | rfl | decide +kernel
  unfold encodeRoad
  rw [e]
  first | rfl | (simp only [];done) | (simp only [];rfl) | decide
theorem clean_all {x:PySem.Str} (h:x.cps.toList.all (· < 128)=true):(x.cps.extract 0 x.cps.size).findIdx? asciiCodec.bad=none:=by
  rw [Array.findIdx?_eq_none_iff]
  intro c hc
  have hc:c∈x.cps:=by simpa using hc
  have:=List.all_eq_true.mp h c (by simpa using hc)
  have:=of_decide_eq_true this
  show decide (c ≥ 128)=false
  exact decide_eq_false (by lia)
theorem fold_bytes (l:List Nat) (out:Array UInt8):(l.foldl (fun acc y=>acc++(asciiCodec.bytesOf y).toArray) out).size=out.size+l.length:=by
  induction l generalizing out with
  | nil=>simp
  | cons a l ih=>
    rw [List.foldl_cons,ih]
    show (out++[a.toUInt8].toArray).size+l.length=_
    simp;lia
theorem range_wp {M:Model} {A:Around} {E:Value→Shared→Prop} {s:Shared} {β:Type} {n:Nat} {b:β} {f:Nat→β→Sem (ForInStep β)} {Q:β→Shared→Prop} (h:wpAny M A (forIn (List.range' 0 n 1) b f) Q E s):wpAny M A (forIn [:n] b f) Q E s:=by
  rw [KPc.range_list];exact h
theorem two_turns {M:Model} {A:Around} {E:Value→Shared→Prop} {s:Shared} {β:Type} {b b':β} {f:Nat→β→Sem (ForInStep β)} {Q:β→Shared→Prop}:∀ (n:Nat),(n≠0→f 0 b=pure (.yield b'))→(n≠0→f 1 b'=pure (.done b'))→(n=0→Q b s)→(n≠0→Q b' s)→wpAny M A (forIn (List.range' 0 n 1) b f) Q E s
  | 0,_,_,q0,_=>wpAny_pure (q0 rfl)
  | 1,h0,_,_,q1=>KPc.turn (by rw [h0 (by decide)];exact wpAny_pure (wpAny_pure (q1 (by decide))))
  | n+2,h0,h1,_,q1=>KPc.turn (by
    rw [h0 (Nat.succ_ne_zero _)]
    refine wpAny_pure ?_
    show wpAny M A (forIn (1::List.range' 2 n 1) _ _) _ _ _
    refine KPc.turn ?_
    rw [h1 (Nat.succ_ne_zero _)]
    exact wpAny_pure (q1 (Nat.succ_ne_zero _)))
theorem encodeNarrow_ascii {M:Model} {A:Around} {E:Value→Shared→Prop} {s:Shared} {x:Str} {t:Tok} {Q:Array UInt8→Shared→Prop} (h:x.cps.toList.all (· < 128)=true) (hx:x.length≤lenLine) (q:∀ b:Array UInt8,b.size≤sizeLine→Q b s):
    wpAny M A (encodeNarrow "str.encode" asciiCodec none (.str x t) x) Q E s:=by
  have hs:((x.cps.extract 0 x.cps.size).extract 0 ((none:Option Nat).getD (x.cps.extract 0 x.cps.size).size)).size=x.length:=by simp;rfl
  refine wpAny_bind (range_wp (two_turns (b':=(0+(none:Option Nat).getD (x.cps.extract 0 x.cps.size).size,((x.cps.extract 0 x.cps.size).extract 0 ((none:Option Nat).getD (x.cps.extract 0 x.cps.size).size)).foldl (fun acc y=>acc++(asciiCodec.bytesOf y).toArray) #[],{})) x.length (fun h0=>?_) (fun h0=>?_) (fun h0=>?_) (fun h0=>?_)))
  · have e0:x.cps[0]?=some (x.cps.getD 0 0):=by
      have:0 < x.cps.size:=Nat.pos_of_ne_zero h0
      simp [this]
    have hb:asciiCodec.bad (x.cps.getD 0 0)=false:=by
      have hm:x.cps.getD 0 0∈x.cps.toList:=by rw [Array.mem_toList_iff];exact Array.mem_of_getElem? e0
      exact decide_eq_false (Nat.not_le.mpr (of_decide_eq_true (List.all_eq_true.mp h _ hm)))
    refine (if_neg (by simp)).trans ?_
    dsimp only
    rw [e0,clean_all h]
    exact if_pos (show (!_)=true by rw [hb];rfl)
  · have e1:x.cps[0+(none:Option Nat).getD (x.cps.extract 0 x.cps.size).size]?=none:=by simp
    refine (if_neg ?_).trans ?_
    · rw [← Array.foldl_toList,fold_bytes,Array.length_toList,hs]
      exact Nat.not_lt.mpr (Nat.le_trans (Nat.le_of_eq (Nat.zero_add _)) (Nat.le_trans hx (by decide +kernel)))
    · dsimp only
      rw [e1]
  · exact wpAny_pure (q _ (by simp))
  · refine wpAny_pure (q _ ?_)
    rw [← Array.foldl_toList,fold_bytes,Array.length_toList,hs]
    exact Nat.le_trans (Nat.le_of_eq (Nat.zero_add _)) (Nat.le_trans hx (by decide +kernel))
theorem encodeOk:EncodeOk:=fun {A s E x t u Q} h hx q=>by
  refine call_meets (S:=fun Z R s=>∀ v k,R (.ok (.ret v)) { s with toks:=k }) PySem.F.slot_str_encode (typeIs_str _ _ _) PySem.F.entry_str_encode (PySem.F.args_str_encode_2 _ _) (Meets.of_wp fun prog w0 A R s hR=>?_) q
  rw [enc1,enc2]
  refine wpAny_bind (wpAny_bind (encodeNarrow_ascii h hx fun b hb=>?_))
  exact wpAny_mkBytes (wpAny_pure ⟨_,rfl,hR _ _⟩) hb
end Mine
end
section
open PySem PySem.W PySem.Calls PyProof.Rows PySem.NumText
namespace Mine
theorem call_int_str {A:Around} {E:Value→Shared→Prop} {s:Shared} {x:Str} {t:Tok} {Q:Value→Shared→Prop} (h:asciiDigits x=true) (hl:x.length≤640) (q:∀ u k,Q (.int (digitsVal x.cps.toList) u) { s with toks:=k }):
    wpAny (model prog w0) A (call (.type "int") [.str x t]) Q E s:=by
  obtain ⟨h1,h2⟩:=and_tt h;clear h
  have ha:AllDigits x.cps.toList:=fun c hc=>by simpa using List.all_eq_true.mp h2 c hc
  have hne:x.cps.toList≠[]:=fun e=>by
    have:x.length=0:=by show x.cps.size=0;rw [← Array.length_toList,e];rfl
    rw [this] at h1;exact nof h1
  exact KIN.call_text (PySem.intText_digits ha hne (Nat.le_trans hl (by decide))) hl (q _ _)
end Mine
end
section
open PySem PySem.W PySem.Calls PyProof.Rows
namespace Mine
section
variable {A:Around} {F:List Addr} {fr:List Env} {st:Bool} {B:Addr→Prop} {μ:Option Addr} {s:Shared} {env:Env} {fm:Fm} {E:PySem.Value→Shared→Prop}
noncomputable def VVs (B:Addr→Prop) (h:Heap) (μ:Option Addr):List PV→List Value→Prop
  | [],vs=>vs=[]
  | p::l,vs=>ConsR (VV B h μ p) (VVs B h μ l) vs
theorem VVs.go {s s':Shared} (g:Go F s s') (D:Bd F B s.heap):∀ {l:List PV} {vs:List Value},VVs B s.heap μ l vs→VVs B s'.heap μ l vs
  | [],_,x=>x
  | _::_,_,⟨v,r,e,h1,h2⟩=>⟨v,r,e,h1.go g D,VVs.go g D h2⟩
theorem VVs.solid {h:Heap}:∀ {l:List PV} {vs:List Value},VVs B h μ l vs→l.all solid=true→VRs B h l vs
  | [],_,x,_=>x
  | p::l,_,⟨v,r,e,h1,h2⟩,hs=>⟨v,r,e,h1.solid (and_tt (List.all_cons▸hs)).1,h2.solid (and_tt (List.all_cons▸hs)).2⟩
theorem VVs.one {h:Heap} {args:List PV} {a:PV} {vs:List Value} (e:Mine.one args=some a) (x:VVs B h μ args vs):∃ v,vs=[v]∧VV B h μ a v:=by
  rw [one_of e] at x
  obtain ⟨v,r,rfl,h1,e⟩:=x
  cases (show r=[] from e)
  exact ⟨v,rfl,h1⟩
theorem VVs.two {h:Heap} {args:List PV} {q:PV×PV} {vs:List Value} (e:Mine.two args=some q) (x:VVs B h μ args vs):∃ v w,vs=[v,w]∧VV B h μ q.1 v∧VV B h μ q.2 w:=by
  rw [two_of e] at x
  obtain ⟨v,r,rfl,h1,w,r',rfl,h2,e⟩:=x
  cases (show r'=[] from e)
  exact ⟨v,w,rfl,h1,h2⟩
theorem vr_tup_at {h h':Heap} {l:List PV} {vs:List PySem.Value} {a:Addr} (k:∀ b o,h.get? b=some o→h'.get? b=some o) (hb:¬ B a) (hl:IsTup h' a vs.toArray) (hn:l.length≤lenLine) (q:VRs B h l vs):VR B h' (.tup l) (.ref a):=by
  exact ⟨a,vs,rfl,hb,hl,hn,q.keep (fun b o e Z=>k b o e) fun Z Z Z e=>e⟩
theorem inst_at {D:Addr} {fs:List (PySem.Str×PV)} {h:Heap} {v:PySem.Value} (q:VR B h (.inst D fs) v):∃ d es n,v=.ref (d+1)∧¬ B (d+1)∧¬ B d∧InstAt h (d+1) (instObj D d) D (some (dictOf es n))∧VRf B h fs es:=by
  obtain ⟨d,es,n,rfl,h1,h2,h3,h4,h5⟩:=q
  exact ⟨d,es,n,rfl,h1,h2,⟨h3,rfl,rfl,h4⟩,h5⟩
theorem nl40 {i:Int} (h0:0≤i) (h1:i < 10 ^ 250):i.natAbs.log2 < 1920:=log2_small h0 h1
theorem size_ok {n:Nat} (h:n≤lenLine):n≤sizeLine:=by unfold lenLine at h;rw [sizeLine_eq];lia
structure Rest (A:Around) (C:CallSem) (F:List Addr) (fr:List Env) (st:Bool) (B:Addr→Prop) (s:Shared):Prop where
  str:∀ {D:Addr} {fs:List (PySem.Str×PV)} {f:Addr} {x:PySem.Str} {v:PySem.Value},specOf K0 D (Str.ofString "__str__")=some f→C st f [.inst D fs] []=some (.ok (.str x))→VR B s.heap (.inst D fs) v →
    wpAny (model prog w0) A (call (.type "str") [v]) (EPs F st B s (.ok (.str x))) (PostX F fr s (.ok (PV.str x))) s
  lst:∀ {D:Addr} {fs:List (PySem.Str×PV)} {r:Res PV} {v:PySem.Value},st=false→iterI K0 D fs=some r→VR B s.heap (.inst D fs) v →
    wpAny (model prog w0) A (call (.type "list") [v]) (EPs F st B s r) (PostX F fr s r) s
noncomputable def BK.of (v:PySem.Value):BK→Prop
  | .len=>v=.builtin "len"
  | .abs=>v=.builtin "abs"
  | .isi=>v=.builtin "isinstance"
  | .str=>v=.type "str"
  | .int=>v=.type "int"
  | .tup=>v=.type "tuple"
  | .lst=>v=.type "list"
  | .other=>True
theorem kindB_of (v:PySem.Value):(kindB v).of v:=by
  cases v with
  | builtin s=>
    show (if s=="len" then BK.len else if s=="abs" then .abs else if s=="isinstance" then .isi else .other).of _
    by_cases h1:s="len"
    · subst h1;exact rfl
    rw [if_neg (by simpa using h1)]
    by_cases h2:s="abs"
    · subst h2;exact rfl
    rw [if_neg (by simpa using h2)]
    by_cases h3:s="isinstance"
    · subst h3;exact rfl
    rw [if_neg (by simpa using h3)]
    trivial
  | type s=>
    show (if s=="str" then BK.str else if s=="int" then .int else if s=="tuple" then .tup else if s=="list" then .lst else .other).of _
    by_cases h1:s="str"
    · subst h1;exact rfl
    rw [if_neg (by simpa using h1)]
    by_cases h2:s="int"
    · subst h2;exact rfl
    rw [if_neg (by simpa using h2)]
    by_cases h3:s="tuple"
    · subst h3;exact rfl
    rw [if_neg (by simpa using h3)]
    by_cases h4:s="list"
    · subst h4;exact rfl
    rw [if_neg (by simpa using h4)]
    trivial
  | _=>trivial
variable {C:CallSem} {r:Res PV} {a:PV} {v:Value}
theorem fit63 {n:Nat} (h:n≤lenLine):((n:Nat):Int) < 2 ^ 63:=by have:=lenLine_63;lia
theorem len_ok {n:Nat} (h:lenE a=some n) (q:DV B s.heap a v):wpAny (model prog w0) A (call (.builtin "len") [v]) (EPs F st B s (.ok (.int (n:Nat)))) E s:=by
  cases a with
  | list l=>
    obtain rfl:=Option.some.inj h
    obtain ⟨a',ws,rfl,hl,hn,hws⟩:=q
    rw [← hws.length] at hn ⊢
    exact PyProof.Rows.len_list hl (fit63 hn) (ep_int fun Z Z e=>e)
  | str x=>
    obtain rfl:=Option.some.inj h
    obtain ⟨t,rfl,hx⟩:=q
    exact PyProof.Rows.len_str (Int.not_le.mpr (fit63 hx)) (ep_int fun Z Z e=>e)
  | _=>exact nov h
theorem strE_ok (R:Rest A C F fr st B s) (h:strE K0 C st a=some r) (q:VV B s.heap μ a v):wpAny (model prog w0) A (call (.type "str") [v]) (EPs F st B s r) (PostX F fr s r) s:=by
  induction a using PV.casesOn with
  | int i=>
    obtain ⟨hc,h1⟩:=grd_some h;clear h
    obtain ⟨hl,rfl⟩:=strR_some h1;clear h1
    obtain ⟨t,rfl⟩:=q
    exact PySem.P.str_of_int (nl40 (smallI_of hc).1 (smallI_of hc).2) (ep_str hl fun Z Z e=>e)
  | inst D' fs=>
    obtain ⟨f,hf,h2⟩:=ask_some h;clear h
    obtain ⟨x,hx,h3⟩:=ask_some h2;clear h2
    obtain rfl:=rok_some h3
    exact R.str hf (strOk_of hx) q
  | _=>exact nov h
theorem intE_ok (h:intE a=some r) (q:VV B s.heap μ a v):wpAny (model prog w0) A (call (.type "int") [v]) (EPs F st B s r) E s:=by
  cases a with
  | int i=>
    obtain rfl:=rok_some h
    obtain ⟨t,rfl⟩:=q
    exact call_int_int (ep_int fun Z Z e=>e)
  | str x=>
    obtain ⟨hc,h3⟩:=grd_some h;clear h
    obtain ⟨h1,h2⟩:=and_tt hc;clear hc
    obtain rfl:=rok_some h3
    obtain ⟨t,rfl,Z⟩:=q
    exact call_int_str h1 (of_decide_eq_true h2) fun u k=>ep_int fun Z Z e=>e
  | _=>exact nov h
theorem tupE_tup {l:List PV} (q:VR B s.heap (.tup l) v):wpAny (model prog w0) A (call (.type "tuple") [v]) (EPs F st B s (.ok (.tup l))) E s:=by
  obtain ⟨a,ws,rfl,hb,⟨o,ho,hc,n,hd⟩,hn,hv⟩:=q
  exact call_tuple_same (items:=ws.toArray) ⟨o,ho,hc,n,hd⟩ (Post.ok (GoS.refl ..) ⟨a,ws,rfl,hb,⟨o,ho,hc,n,hd⟩,hn,hv⟩)
theorem tupE_lst {l:List PV} (D:Bd F B s.heap) (q:VR B s.heap (.list l) v):wpAny (model prog w0) A (call (.type "tuple") [v]) (EPs F st B s (.ok (.tup l))) E s:=by
  obtain ⟨a,ws,rfl,Z,ht,hn,hws⟩:=q
  refine call_tuple_list ht (fun h' k=>?_) (by rw [List.size_toArray,hws.length];exact size_ok hn)
  refine Post.ok (GoS.heap (tk:=s.toks) fun b o e=>Heap.get?_push_of_some _ (k b o e)) (vr_tup_at (fun b o e=>Heap.get?_push_of_some _ (k b o e)) (fun hb=>?_) (IsTup.new _ _) hn hws)
  obtain ⟨o,ho⟩:=D.ex _ hb;clear hb
  exact Nat.lt_irrefl _ (Heap.lt_size (k _ _ ho))
theorem tupE_ok (D:Bd F B s.heap) (h:tupE a=some r) (q:VV B s.heap μ a v):wpAny (model prog w0) A (call (.type "tuple") [v]) (EPs F st B s r) E s:=by
  induction a using PV.casesOn with
  | tup l=>obtain rfl:=rok_some h;exact tupE_tup q
  | list l=>obtain rfl:=rok_some h;exact tupE_lst D q
  | _=>exact nov h
theorem lstE_ok (R:Rest A C F fr st B s) (h:lstE K0 st a=some r) (q:VV B s.heap μ a v):wpAny (model prog w0) A (call (.type "list") [v]) (EPs F st B s r) (PostX F fr s r) s:=by
  induction a using PV.casesOn with
  | inst D' fs=>obtain ⟨hs,h⟩:=grd_some h;exact R.lst (not_tt hs) h q
  | _=>exact nov h
theorem isi_ok' {q:PV×PV} {v w:Value} (G:K0.In s.heap) (h:(ask (asInst q.1) fun p=>ask (asRef q.2) fun E'=>grd (isIn K0 (.ref p.1) E') (rok (PV.bool true)))=some r) (q1:VV B s.heap μ q.1 v) (q2:VV B s.heap μ q.2 w):
    wpAny (model prog w0) A (call (.builtin "isinstance") [v,w]) (EPs F st B s r) E s:=by
  obtain ⟨p,h1,h3⟩:=ask_some h;clear h
  obtain ⟨E',h2,h4⟩:=ask_some h3;clear h3
  obtain ⟨hi,h5⟩:=grd_some h4;clear h4
  obtain rfl:=rok_some h5
  rw [asInst_of h1] at q1
  rw [asRef_of h2] at q2
  obtain ⟨d,es,n,rfl,Z,Z,hI,Z⟩:=inst_at q1;clear q1
  obtain rfl:=(show w=_ from q2)
  exact isi_call G (fun M=>hI.type) hi (fun e=>nomatch e) bool_here
theorem callB_ok {args:List PV} {vs:List Value} (I:FI F st env B μ fm s) (R:Rest A C F fr st B s) (h:callB K0 C st fm v args=some r) (q:VVs B s.heap μ args vs):
    wpAny (model prog w0) A (call v vs) (EPs F st B s r) (PostX F fr s r) s:=by
  have hk:=kindB_of v
  unfold callB at h
  generalize kindB v=k at h hk
  cases k with
  | other=>exact nov h
  | len=>
    obtain rfl:=(show v=_ from hk)
    obtain ⟨a,h1,h3⟩:=ask_some h;clear h
    obtain ⟨n,h2,h4⟩:=ask_some h3;clear h3
    obtain rfl:=rok_some h4
    obtain ⟨v,rfl,hv⟩:=q.one h1;clear h1
    exact len_ok h2 (deref_dv I hv)
  | abs=>
    obtain rfl:=(show v=_ from hk)
    obtain ⟨a,h1,h5⟩:=ask_some h;clear h
    obtain ⟨i,h2,h6⟩:=ask_some h5;clear h5
    obtain rfl:=rok_some h6
    obtain ⟨v,rfl,hv⟩:=q.one h1;clear h1
    rw [asInt_of h2] at hv
    obtain ⟨t,rfl⟩:=hv
    exact call_abs_int fun u tk=>ep_int fun Z Z e=>e
  | isi=>
    obtain rfl:=(show v=_ from hk)
    obtain ⟨p,h1,h7⟩:=ask_some h;clear h
    obtain ⟨v,w,rfl,hv,hw⟩:=q.two h1;clear h1
    exact isi_ok' I.gi.k h7 hv hw
  | str=>
    obtain rfl:=(show v=_ from hk)
    obtain ⟨a,h1,h8⟩:=ask_some h;clear h
    obtain ⟨v,rfl,hv⟩:=q.one h1;clear h1
    exact strE_ok R h8 hv
  | int=>
    obtain rfl:=(show v=_ from hk)
    obtain ⟨a,h1,h9⟩:=ask_some h;clear h
    obtain ⟨v,rfl,hv⟩:=q.one h1;clear h1
    exact intE_ok h9 hv
  | tup=>
    obtain rfl:=(show v=_ from hk)
    obtain ⟨a,h1,h10⟩:=ask_some h;clear h
    obtain ⟨v,rfl,hv⟩:=q.one h1;clear h1
    exact tupE_ok I.bd h10 hv
  | lst=>
    obtain rfl:=(show v=_ from hk)
    obtain ⟨a,h1,h11⟩:=ask_some h;clear h
    obtain ⟨v,rfl,hv⟩:=q.one h1;clear h1
    exact lstE_ok R h11 hv
end
end Mine
end
section
open PySem PySem.W PySem.Calls PyProof.Rows
namespace Mine
theorem kw_loop {M:Model} {A:Around} {E:PySem.Value→Shared→Prop} {s:Shared} {ps:List PySem.Str} {β:Type} {ex:β} {f:(PySem.Str×PySem.Value)→(List (PySem.Str×PySem.Value)×β)→Sem (ForInStep (List (PySem.Str×PySem.Value)×β))}
    (hf:∀ x sl,ps.contains x.1=true→(List.lookup x.1 sl).isNone=true→f x (sl,ex)=pure (.yield (sl++[(x.1,x.2)],ex))):
    ∀ {kw sl0 sl:List (PySem.Str×PySem.Value)} {Q:(List (PySem.Str×PySem.Value)×β)→Shared→Prop},kwSlots ps sl0 kw=some sl→Q (sl,ex) s→wpAny M A (forIn kw (sl0,ex) f) Q E s
  | [],sl0,sl,Q,h,q=>by cases h;rw [List.forIn_nil];exact wpAny_pure q
  | (k,v)::r,sl0,sl,Q,h,q=>by
    obtain ⟨hc,h1⟩:=grd_some h;clear h
    rw [List.forIn_cons,hf _ _ (and_tt hc).1 (and_tt hc).2]
    exact wpAny_bind (wpAny_pure (kw_loop hf h1 q))
theorem df_loop {M:Model} {A:Around} {E:PySem.Value→Shared→Prop} {s:Shared} {f:(PySem.Str×PySem.Value)→List (PySem.Str×PySem.Value)→Sem (ForInStep (List (PySem.Str×PySem.Value)))}
    (hf:∀ x sl,f x sl=pure (.yield (if (List.lookup x.1 sl).isNone then sl++[(x.1,x.2)] else sl))):
    ∀ {kw sl0:List (PySem.Str×PySem.Value)} {Q:List (PySem.Str×PySem.Value)→Shared→Prop},Q (dfSlots sl0 kw) s→wpAny M A (forIn kw sl0 f) Q E s
  | [],sl0,Q,q=>by rw [List.forIn_nil];exact wpAny_pure q
  | (k,v)::r,sl0,Q,q=>by
    rw [List.forIn_cons,hf]
    exact wpAny_bind (wpAny_pure (df_loop hf q))
theorem paramsOf_some {p:Arguments} {ps:List Str} (h:paramsOf p=some ps):∃ as kd df,p=⟨[],as,none,[],kd,none,df⟩∧ps=as.map (·.arg):=by
  obtain ⟨po,as,va,ko,kd,ka,df⟩:=p
  obtain ⟨hc,h5⟩:=grd_some h;clear h
  obtain ⟨hc1,h4⟩:=and_tt hc;clear hc
  obtain ⟨hc2,h3⟩:=and_tt hc1;clear hc1
  obtain ⟨h1,h2⟩:=and_tt hc2;clear hc2
  obtain rfl:=List.isEmpty_iff.mp h1
  obtain rfl:=Option.isNone_iff_eq_none.mp h2
  obtain rfl:=List.isEmpty_iff.mp h3
  obtain rfl:=Option.isNone_iff_eq_none.mp h4
  exact ⟨as,kd,df,rfl,(Option.some.inj h5).symm⟩
inductive BindS {α:Type} (ps:List Str) (ds args:List α) (kw bs:List (Str×α)):Prop
  | mk (sl:List (Str×α)) (h:kwSlots ps (ps.zip args) kw=some sl) (hn:¬ args.length > ps.length) (hm:((ps.take (ps.length - (dfs ps ds).length)).filter fun n=>(sl.lookup n).isNone).isEmpty=true)
    (e:(ps.filterMap fun n=>((dfSlots sl ((ps.drop (ps.length - (dfs ps ds).length)).zip (dfs ps ds))).lookup n).map (n,·))=bs)
theorem bindPV_some {α:Type} {ps:List Str} {ds args:List α} {kw bs:List (Str×α)} (h:bindPV ps ds args kw=some bs):BindS ps ds args kw bs:=by
  obtain ⟨sl,e,h1⟩:=ask_some h;clear h
  obtain ⟨hc,h2⟩:=grd_some h1;clear h1
  exact ⟨sl,e,Nat.not_lt.mpr (of_decide_eq_true (and_tt hc).1),(and_tt hc).2,Option.some.inj h2⟩
theorem bind_ok {fd:FuncData} {args:List Value} {kw:List (Str×Value)} {ps:List Str} {ds:List Value} {bs:List (Str×Value)} {s:Shared} {o:Option (Array Value)}
    (hp:paramsOf fd.params=some ps) (hd:∀ M,Looks M s.heap (seqItems? fd.defaults) o) (ho:(o.getD #[]).toList=ds) (h:bindPV ps ds args kw=some bs):BindsTo s fd ⟨args,kw⟩ bs:=by
  intro M A E Q q
  have hd:=hd M
  obtain ⟨as,kd,df,e,rfl⟩:=paramsOf_some hp
  obtain ⟨sl,hsl,hn,hm,rfl⟩:=bindPV_some h
  clear hp h
  subst ho
  cases fd
  cases e
  refine wpAny_bind (kw_loop (ps:=as.map (·.arg)) (sl:=sl) (fun x sl a b=>?_) hsl (wpAny_bind (hd.here ?_)))
  · exact (if_pos (show (_||_)=true by rw [a];rfl)).trans (if_neg (by rw [Option.isNone_iff_eq_none] at b;rw [b];exact Bool.false_ne_true))
  refine wpAny_ite_false (decide_eq_false fun y=>hn (of_decide_eq_true (and_tt y).1)) ?_
  refine wpAny_ite_false (decide_eq_false fun y=>nof ((not_tt y).symm.trans hm)) ?_
  refine wpAny_bind (df_loop (fun x sl=>?_) (wpAny_bind (wpAny_pure (wpAny_ite_false rfl ?_))))
  · induction e:(List.lookup x.1 sl).isNone with
    | true=>exact (if_pos e).trans (congrArg (fun l=>pure (ForInStep.yield l)) (if_pos rfl).symm)
    | false=>exact (if_neg (ne_true_of_eq_false e)).trans (congrArg (fun l=>pure (ForInStep.yield l)) (if_neg Bool.false_ne_true).symm)
  refine wpAny_pure ?_
  show Q (List.filterMap _ (as.map (·.arg)++[])) s
  rw [List.append_nil]
  exact q
end Mine
end
section
set_option tactic.hygienic true
open PySem PySem.W PySem.Calls PyProof.Rows
namespace Mine
inductive NamR (k:Str) (X:Value→Prop) (Y:List (Str×Value)→Prop) (l:List (Str×Value)):Prop
  | mk (v:Value) (r:List (Str×Value)) (e:l=(k,v)::r) (h:X v) (t:Y r)
noncomputable def RL (R:PV→Value→Prop):List (Str×PV)→List (Str×Value)→Prop
  | [],l=>l=[]
  | p::r,l=>NamR p.1 (R p.2) (RL R r) l
noncomputable def RS (R:PV→Value→Prop):List PV→List Value→Prop
  | [],l=>l=[]
  | p::r,l=>ConsR (R p) (RS R r) l
section
variable {R:PV→PySem.Value→Prop}
theorem RS.length:∀ {l:List PV} {vs},RS R l vs→vs.length=l.length
  | [],_,x=>by obtain rfl:_=[]:=x;rfl
  | _::_,_,⟨v,r,e,_,x⟩=>by subst e;simp [RS.length x]
theorem RS.drop:∀ {l:List PV} {vs} (n:Nat),RS R l vs→RS R (l.drop n) (vs.drop n)
  | _,_,0,x=>by simpa using x
  | [],_,n+1,x=>by obtain rfl:_=[]:=x;rfl
  | _::_,_,n+1,⟨v,r,e,_,x⟩=>by subst e;simpa using RS.drop n x
theorem RL.append:∀ {l m:List (PySem.Str×PV)} {vs ws},RL R l vs→RL R m ws→RL R (l++m) (vs++ws)
  | [],_,_,_,x,y=>by obtain rfl:_=[]:=x;exact y
  | p::l,m,_,ws,⟨v,r,e,h,x⟩,y=>by subst e;exact ⟨v,r++ws,rfl,h,RL.append x y⟩
theorem RL.one {k:PySem.Str} {p:PV} {v:PySem.Value} (h:R p v):RL R [(k,p)] [(k,v)]:=⟨v,[],rfl,h,rfl⟩
theorem RL.lookup {k:PySem.Str}:∀ {l:List (PySem.Str×PV)} {vs},RL R l vs→(List.lookup k l=none∧List.lookup k vs=none)∨∃ p v,List.lookup k l=some p∧List.lookup k vs=some v∧R p v
  | [],_,x=>by obtain rfl:_=[]:=x;exact .inl ⟨rfl,rfl⟩
  | (k',p)::l,_,⟨v,r,e,h,x⟩=>by
    subst e
    rw [List.lookup_cons,List.lookup_cons]
    cases hk:k==k'
    · exact RL.lookup x
    · exact .inr ⟨p,v,rfl,rfl,h⟩
theorem RL.isNone {k:PySem.Str} {l:List (PySem.Str×PV)} {vs} (x:RL R l vs):(List.lookup k vs).isNone=(List.lookup k l).isNone:=by
  rcases x.lookup (k:=k) with ⟨a,b⟩ | ⟨p,v,a,b,Z⟩<;>rw [a,b]<;>rfl
theorem RL.zip:∀ {ps:List PySem.Str} {l:List PV} {vs},RS R l vs→RL R (ps.zip l) (ps.zip vs)
  | [],_,_,_=>rfl
  | _::_,[],_,x=>by obtain rfl:_=[]:=x;rfl
  | p::ps,a::l,_,⟨v,r,e,h,x⟩=>by subst e;exact ⟨v,_,rfl,h,RL.zip x⟩
theorem RL.kwSlots {ps:List PySem.Str}:∀ {kw sl sl':List (PySem.Str×PV)} {kvs svs},RL R sl svs→RL R kw kvs→kwSlots ps sl kw=some sl'→∃ svs',Mine.kwSlots ps svs kvs=some svs'∧RL R sl' svs'
  | [],sl,sl',kvs,svs,x,y,h=>by obtain rfl:_=[]:=y;cases h;exact ⟨svs,rfl,x⟩
  | (k,p)::kw,sl,sl',_,svs,x,⟨v,r,e,h1,y⟩,h=>by
    subst e
    obtain ⟨hc,h2⟩:=grd_some h;clear h
    obtain ⟨svs',e,z⟩:=RL.kwSlots (x.append (RL.one h1)) y h2;clear h2
    exact ⟨svs',grb (by rw [x.isNone];exact hc) e,z⟩
theorem RL.dfSlots:∀ {kw sl:List (PySem.Str×PV)} {kvs svs},RL R sl svs→RL R kw kvs→RL R (dfSlots sl kw) (Mine.dfSlots svs kvs)
  | [],sl,kvs,svs,x,y=>by obtain rfl:_=[]:=y;exact x
  | (k,p)::kw,sl,_,svs,x,⟨v,r,e,h1,y⟩=>by
    subst e
    show RL R (Mine.dfSlots (if (List.lookup k sl).isNone then sl++[(k,p)] else sl) kw) (Mine.dfSlots (if (List.lookup k svs).isNone then svs++[(k,v)] else svs) r)
    rw [x.isNone]
    induction (List.lookup k sl).isNone with
    | true=>exact RL.dfSlots (x.append (RL.one h1)) y
    | false=>exact RL.dfSlots x y
theorem RL.binds {sl:List (PySem.Str×PV)} {svs} (x:RL R sl svs):∀ ps:List PySem.Str,RL R (ps.filterMap fun n=>(List.lookup n sl).map (n,·)) (ps.filterMap fun n=>(List.lookup n svs).map (n,·))
  | []=>rfl
  | n::ps=>by
    rcases x.lookup (k:=n) with ⟨a,b⟩ | ⟨p,v,a,b,h⟩
    · simp only [List.filterMap_cons,a,b,Option.map_none];exact RL.binds x ps
    · simp only [List.filterMap_cons,a,b,Option.map_some];exact ⟨v,_,rfl,h,RL.binds x ps⟩
theorem bind_rel {ps:List PySem.Str} {ds args:List PV} {kw bs:List (PySem.Str×PV)} {dvs vs kvs} (xd:RS R ds dvs) (xa:RS R args vs) (xk:RL R kw kvs) (h:bindPV ps ds args kw=some bs):∃ bvs,bindPV ps dvs vs kvs=some bvs∧RL R bs bvs:=by
  obtain ⟨sl,hsl,h1⟩:=ask_some h;clear h
  obtain ⟨hc,h2⟩:=grd_some h1;clear h1
  obtain rfl:=Option.some.inj h2
  obtain ⟨svs,e,x⟩:=RL.kwSlots (RL.zip xa) xk hsl;clear hsl
  have e3:(dfs ps dvs).length=(dfs ps ds).length:=by unfold dfs;rw [List.length_drop,List.length_drop,xd.length]
  have e4:(fun n=>(List.lookup n svs).isNone)=fun n=>(List.lookup n sl).isNone:=funext fun n=>x.isNone
  refine ⟨_,akb e (grb (by rw [e3,e4,xa.length];exact hc) rfl),?_⟩
  refine RL.binds (RL.dfSlots x ?_) ps
  rw [e3]
  refine RL.zip ?_
  unfold dfs
  rw [xd.length]
  exact xd.drop _
end
end Mine
end
section
open PySem PySem.W PySem.Calls PyProof.Rows
namespace Mine
theorem pa_pat:PlainAttrs "re.Pattern":=⟨⟨"object.__getattribute__",by rw [typeLookup_type,builtinLookup_eq_fast];kernel_rfl,by decide +kernel⟩,by rw [typeLookup_type,builtinLookup_eq_fast];kernel_rfl⟩
theorem pa_mat:PlainAttrs "re.Match":=⟨⟨"object.__getattribute__",by rw [typeLookup_type,builtinLookup_eq_fast];kernel_rfl,by decide +kernel⟩,by rw [typeLookup_type,builtinLookup_eq_fast];kernel_rfl⟩
theorem slot_pmatch:Slot "re.Pattern" "match" "re.Pattern.match":=
  .of (owner:="re.Pattern") (n:="match") (by rw [typeLookup_type,builtinLookup_eq_fast];kernel_rfl) (by decide +kernel) (by decide +kernel) (by decide +kernel)
    (by first | exact .inl (by decide +kernel) | exact .inr (by decide +kernel)) (by rw [isSubtype_type];kernel_rfl)
theorem slot_psub:Slot "re.Pattern" "sub" "re.Pattern.sub":=
  .of (owner:="re.Pattern") (n:="sub") (by rw [typeLookup_type,builtinLookup_eq_fast];kernel_rfl) (by decide +kernel) (by decide +kernel) (by decide +kernel)
    (by first | exact .inl (by decide +kernel) | exact .inr (by decide +kernel)) (by rw [isSubtype_type];kernel_rfl)
theorem slot_mgroups:Slot "re.Match" "groups" "re.Match.groups":=
  .of (owner:="re.Match") (n:="groups") (by rw [typeLookup_type,builtinLookup_eq_fast];kernel_rfl) (by decide +kernel) (by decide +kernel) (by decide +kernel)
    (by first | exact .inl (by decide +kernel) | exact .inr (by decide +kernel)) (by rw [isSubtype_type];kernel_rfl)
theorem slot_mend:Slot "re.Match" "end" "re.Match.end":=
  .of (owner:="re.Match") (n:="end") (by rw [typeLookup_type,builtinLookup_eq_fast];kernel_rfl) (by decide +kernel) (by decide +kernel) (by decide +kernel)
    (by first | exact .inl (by decide +kernel) | exact .inr (by decide +kernel)) (by rw [isSubtype_type];kernel_rfl)
theorem type_pmatch:typeOf (.builtin "re.Pattern.match")=pure (.type "method_descriptor"):=by show builtinType _=_;rw [builtinType_eq_fast];kernel_rfl
theorem type_psub:typeOf (.builtin "re.Pattern.sub")=pure (.type "method_descriptor"):=by show builtinType _=_;rw [builtinType_eq_fast];kernel_rfl
theorem type_mgroups:typeOf (.builtin "re.Match.groups")=pure (.type "method_descriptor"):=by show builtinType _=_;rw [builtinType_eq_fast];kernel_rfl
theorem type_mend:typeOf (.builtin "re.Match.end")=pure (.type "method_descriptor"):=by show builtinType _=_;rw [builtinType_eq_fast];kernel_rfl
theorem entry_pmatch:entryFor table "re.Pattern.match"=some Builtin.«re.Pattern.match»:=entryFor_of_tree (by kernel_rfl)
theorem entry_psub:entryFor table "re.Pattern.sub"=some Builtin.«re.Pattern.sub»:=entryFor_of_tree (by kernel_rfl)
theorem entry_mgroups:entryFor table "re.Match.groups"=some Builtin.«re.Match.groups»:=entryFor_of_tree (by kernel_rfl)
theorem entry_mend:entryFor table "re.Match.end"=some Builtin.«re.Match.end»:=entryFor_of_tree (by kernel_rfl)
theorem args_pmatch (a b:PySem.Value):argsOk "re.Pattern.match" ⟨[a,b],[]⟩:=by unfold argsOk;kernel_rfl
theorem args_psub (a b c:PySem.Value):argsOk "re.Pattern.sub" ⟨[a,b,c],[]⟩:=by unfold argsOk;kernel_rfl
theorem args_mgroups (a:PySem.Value):argsOk "re.Match.groups" ⟨[a],[]⟩:=by unfold argsOk;kernel_rfl
theorem args_mend (a:PySem.Value):argsOk "re.Match.end" ⟨[a],[]⟩:=by unfold argsOk;kernel_rfl
end Mine
end
section
open PySem PySem.W PySem.Calls PyProof.Rows
namespace Mine
set_option backward.match.sparseCases true in
noncomputable abbrev CR (Q E:PySem.Value→Shared→Prop):Result→Shared→Prop:=fun r s'=>match r with | .ok (.ret v)=>Q v s' | .ok _=>False | .error e=>E e s'
theorem codeAny_CR {M:Model} {A:Around} {c:Code} {Q Q' E E':PySem.Value→Shared→Prop} {s:Shared} (h:codeAny M A c (CR Q E) s) (hQ:∀ v s',Q v s'→Q' v s') (hE:∀ v s',E v s'→E' v s'):codeAny M A c (CR Q' E') s:=
  codeAny_mono h fun r s' z=>by rcases r with e | (v | Z | Z | Z)<;>first | exact z.elim | exact hQ _ _ z | exact hE _ _ z
section
variable {M:Model} {A:Around} {E:PySem.Value→Shared→Prop} {s:Shared} {env:Env}
theorem evalArgs_all {f:PySem.Value} {args:List (Bool×Sem PySem.Value)} {kws:List (Option PySem.Str×Sem PySem.Value)} {Q:Args→Shared→Prop} (hp:args.all (!·.1)=true) (hk:kws.all (·.1.isSome)=true)
    (h:wpAny M A (spliced args) (fun vs s₁=>wpAny M A (evalAll (kws.map (·.2))) (fun ks s₂=>Q ⟨vs,(kws.filterMap (·.1)).zip ks⟩ s₂) E s₁) E s):wpAny M A (evalArgs f true args kws) Q E s:=by
  have e:evalArgs f true args kws=evalArgs f false args kws:=by
    rcases args with Z | ⟨⟨b,a⟩,Z | ⟨a2,r⟩⟩
    · rfl
    · induction b with
      | true=>exact nof hp
      | false=>rfl
    · cases b<;>rfl
  rw [e]
  unfold evalArgs
  dsimp only
  refine wpAny_bind (wpAny_mono h (fun vs s₁ h₁=>wpAny_bind (wpAny_pure (wpAny_holding ?_))) fun Z Z x=>x)
  rw [hk]
  simp only [if_true]
  exact wpAny_bind (wpAny_mono h₁ (fun ks s₂ h₂=>wpAny_bind (wpAny_pure (wpAny_pure h₂))) fun Z Z x=>x)
end
inductive Target (F:List Addr) (h:Heap) (f:PySem.Value) (first:List PySem.Value):PySem.Value→List PySem.Value→Prop
  | self (k:keepIn K0 f=true∨(∃ i,f=.builtin i)∨∃ t,f=.type t):Target F h f first f first
  | bound (p g:Addr) (self:PySem.Value) (e:f=.ref p) (e':first=[]) (ho:h.get? p=some (methodObj (.ref g) self)) (hg:fnIn K0 g=true) (t:¬ isT p) (nf:p∉F):Target F h f first (.ref g) [self]
section
variable {A:Around} {F:List Addr} {s s':Shared} {env:Env} {E:PySem.Value→Shared→Prop} {f tgt:PySem.Value} {first pre:List PySem.Value}
theorem Target.go (x:Target F s.heap f first tgt pre) (g:Go F s s'):Target F s'.heap f first tgt pre:=by
  cases x with
  | self k=>exact .self k
  | bound p g' self e e' ho hg t nf=>exact .bound p g' self e e' (g.ext.keep _ _ ho t nf) hg t nf
theorem Target.keep {M:Model} {h:Heap} (X:K0.In h) (x:Target F h f first tgt pre):∃ k,(k=Keeper.frame∨k=Keeper.machine∨k=Keeper.boundFrame)∧Looks M h (keeperOf f) k:=by
  cases x with
  | self k=>
    rcases k with k | ⟨i,rfl⟩ | ⟨t,rfl⟩
    · exact keeps_K k h X
    · exact ⟨.machine,.inr (.inl rfl),Looks.of_pure rfl⟩
    · exact ⟨.machine,.inr (.inl rfl),Looks.of_pure rfl⟩
  | bound p g self e e' ho hg t nf=>subst e;exact keeps_M hg h ⟨ho,X⟩
theorem callWith_ok {pos:Pos} {args:List (Bool×Sem PySem.Value)} {kws:List (Option PySem.Str×Sem PySem.Value)} {Q:PySem.Value→Shared→Prop} (x:Target F s.heap f first tgt pre) (hp:args.all (!·.1)=true) (hk:kws.all (·.1.isSome)=true)
    (h:wpAny (model prog w0) A (spliced args) (fun vs s₁=>wpAny (model prog w0) A (evalAll (kws.map (·.2))) (fun ks s₂=>Go F s s₂∧K0.In s₂.heap∧wpAny (model prog w0) A (call f (first++vs) ((kws.filterMap (·.1)).zip ks)) Q E s₂) E s₁) E s):
    wpAny (model prog w0) A (callWith pos f first args kws) Q E s:=by
  refine callWith_of (P:=fun h=>∃ k,(k=Keeper.frame∨k=Keeper.machine∨k=Keeper.boundFrame)∧Looks (model prog w0) h (keeperOf f) k) ?_ (fun Z h=>h) ?_
  · rw [Bool.or_eq_false_iff]
    constructor
    · rw [List.any_eq_false];intro a ha;have:=List.all_eq_true.mp hp a ha;simpa using this
    · rw [List.any_eq_false];intro a ha;have:=List.all_eq_true.mp hk a ha
      induction h:a.1 with
      | none=>rw [h] at this;cases this
      | some _=>simp
  refine evalArgs_all hp hk (wpAny_mono h (fun vs s₁ h₁=>wpAny_mono h₁ (fun ks s₂ h₂=>?_) fun Z Z e=>e) fun Z Z e=>e)
  obtain ⟨g,X,hc⟩:=h₂
  have x':=x.go g
  exact ⟨x'.keep X,hc⟩
end
end Mine
end
section
set_option tactic.hygienic true
open PySem PySem.W PySem.Calls PyProof.Rows
namespace Mine
section
variable {A:Around} {F:List Addr} {fr:List Env} {st:Bool} {B:Addr→Prop} {μ:Option Addr} {s:Shared} {env:Env} {fm:Fm} {E:PySem.Value→Shared→Prop}
theorem vrf_find {h:Heap} {m:PySem.Str}:∀ {fs:List (PySem.Str×PV)} {es:List DictEntry},VRf B h fs es →
    (fs.lookup m=none→es.find? (·.key.isStr m)=none)∧(∀ p,fs.lookup m=some p→∃ e,es.find? (·.key.isStr m)=some e∧VR B h p e.val)∧es.any (·.refKey)=false
  | [],es,x=>by obtain rfl:_=[]:=x;exact ⟨fun Z=>rfl,(fun p e=>by cases e),rfl⟩
  | (k,p)::fs,es,x=>by
    obtain ⟨t,v,r,rfl,h1,h2⟩:=x
    obtain ⟨i1,i2,i3⟩:=vrf_find (m:=m) h2;clear h2
    have hk:(DictEntry.mk (PyData.keyHash w0.params k) (.str k t) v).key.isStr m=(k==m):=rfl
    have hr:(DictEntry.mk (PyData.keyHash w0.params k) (.str k t) v).refKey=false:=rfl
    rw [List.lookup_cons]
    by_cases e:k=m
    · subst e
      simp only [beq_self_eq_true]
      refine ⟨fun h=>by simp at h,fun q h=>?_,by rw [List.any_cons,i3,hr];rfl⟩
      simp only [Option.some.injEq] at h
      subst h
      exact ⟨_,by rw [List.find?_cons,hk,beq_self_eq_true],h1⟩
    · have e1:(m==k)=false:=by simpa using fun q=>e q.symm
      have e2:(k==m)=false:=by simpa using e
      rw [e1]
      refine ⟨fun h=>?_,fun q h=>?_,by rw [List.any_cons,i3,hr];rfl⟩
      · rw [List.find?_cons,hk,e2];exact i1 h
      · obtain ⟨e',h3,h4⟩:=i2 q h;clear h
        exact ⟨e',by rw [List.find?_cons,hk,e2];exact h3,h4⟩
theorem look_none {h:Heap} {m:PySem.Str} {fs:List (PySem.Str×PV)} {es:List DictEntry} {n:Nat} (x:VRf B h fs es) (e:fs.lookup m=none):lookIn m (dictOf es n)=some none:=by
  obtain ⟨i1,Z,i3⟩:=vrf_find (m:=m) x;clear x
  unfold lookIn
  dsimp only
  rw [i1 e,i3]
  rfl
theorem look_some {h:Heap} {m:PySem.Str} {fs:List (PySem.Str×PV)} {es:List DictEntry} {n:Nat} {p:PV} (x:VRf B h fs es) (e:fs.lookup m=some p):∃ v,lookIn m (dictOf es n)=some (some v)∧VR B h p v:=by
  obtain ⟨Z,i2,Z⟩:=vrf_find (m:=m) x;clear x
  obtain ⟨e',h1,h2⟩:=i2 p e;clear e
  refine ⟨e'.val,?_,h2⟩
  unfold lookIn
  dsimp only
  rw [h1]
theorem usual_of {D:Addr} (h:usualGet K0 D=true):findIn K0 (.ref D) "__getattribute__"=some (some (.builtin "object.__getattribute__"))∧findIn K0 (.ref D) "__getattr__"=some none∧∃ cd,clsIn K0 D=some cd∧cd.hasDict=true:=by
  simp only [usualGet,Bool.and_eq_true,beq_iff_eq] at h
  obtain ⟨⟨h1,h2⟩,h3⟩:=h
  exact ⟨h1,h2,any_some h3⟩
theorem vr_handed {h:Heap} {p:PV} {v:PySem.Value} (x:VR B h p v) (hp:handedPV p=true):handedIn v=true:=by
  induction p using PV.casesOn with
  | none=>cases (id x:v=_);rfl
  | bool=>cases (id x:v=_);rfl
  | int=>obtain ⟨t,rfl⟩:=x;rfl
  | str=>obtain ⟨t,rfl,Z⟩:=x;rfl
  | tup=>obtain ⟨a,vs,rfl,Z⟩:=x;rfl
  | list=>obtain ⟨a,vs,rfl,Z⟩:=x;rfl
  | inst=>obtain ⟨a,vs,n,rfl,Z⟩:=x;rfl
  | glob w=>cases hp
  | mat=>obtain ⟨a,o,txt,t,p,l,li,pat,sp,b0,rest,rfl,Z⟩:=x;rfl
  | any=>cases hp
  | own=>exact False.elim x
theorem obnd {α β:Type} {o:Option α} {a:α} {f:α→Option β} {r:Option β} (h:o=some a) (k:f a=r):o.bind f=r:=by subst h;exact k
theorem find_data {D:Addr} {a:PySem.Str} {es:List DictEntry} {n:Nat} {w:PySem.Value} (hd:dataIn K0 D a=true) (e:lookIn a (dictOf es n)=some (some w)):
    usualGet K0 D=true∧findObj K0 D (some (dictOf es n)) a=some (.value w):=by
  obtain ⟨u,f⟩:=and_tt hd;clear hd
  obtain ⟨Z,Z,cd,h3,h4⟩:=usual_of u
  exact ⟨u,obnd h3 (obnd (beq_iff_eq.mp f) (obnd rfl (obnd rfl (obnd (a:=some w) ((if_pos h4).trans e) rfl))))⟩
theorem attr_ok {D:Addr} {fs:List (PySem.Str×PV)} {a:PySem.Str} {p:PV} {v:PySem.Value} {expr:Bool} (G:GI F s.heap) (hd:dataIn K0 D a=true) (hl:fs.lookup a=some p) (hh:handedPV p=true) (q:VR B s.heap (.inst D fs) v):
    wpAny (model prog w0) A (getAttr v a expr) (EPs F st B s (.ok p)) E s:=by
  obtain ⟨d,es,n,rfl,Z,Z,hI,hv⟩:=inst_at q;clear q
  obtain ⟨w',e,hw⟩:=look_some (n:=n) hv hl;clear hl
  obtain ⟨u,f⟩:=find_data hd e;clear hd e
  exact get_value G.k hI (usual_of u).1 f (vr_handed hw hh) (Post.ok GoS.toks hw)
theorem fnIn_keep {f:Addr} (h:fnIn K0 f=true):keepIn K0 (.ref f)=true:=by
  unfold fnIn at h
  unfold keepIn
  dsimp only
  generalize K0.lookup f=o at h ⊢
  rcases o with Z | ⟨Z,Z,dt,Z⟩
  · exact nof h
  · cases dt<;>first | rfl | exact nof h
theorem meth_plain {D:Addr} {fs:List (PySem.Str×PV)} {m:PySem.Str} {f:Addr} {d n:Nat} {es:List DictEntry} {pl:Sem Bool} {Q:PySem.Value×List PySem.Value→Shared→Prop} (G:GI F s.heap) (I:InstAt s.heap (d+1) (instObj D d) D (some (dictOf es n))) (hv:VRf B s.heap fs es)
    (hm:methOf K0 D m=some (.plain f)) (hl:fs.lookup m=none) (h:Q (.ref f,[.ref (d+1)]) s):wpAny (model prog w0) A (getMethod (.ref (d+1)) m pl) Q E s:=by
  obtain ⟨hu,h0⟩:=grd_some hm;clear hm
  obtain ⟨g,hf,h3⟩:=ask_some h0;clear h0
  obtain ⟨h1,h2,Z⟩:=usual_of (and_tt hu).1
  induction hb:fnIn K0 g&&isFn K0 (.ref g) with
  | true=>
    rw [hb] at h3
    cases h3
    exact method_fn G.k I h1 h2 (refO_of hf) (beq_iff_eq.mp (and_tt hb).2) (by unfold shadowIn;dsimp only;rw [look_none (n:=n) hv hl];rfl) h
  | false=>
    rw [hb] at h3
    obtain ⟨Z,Z,e⟩:=ask_some h3;clear h3
    cases e
theorem methOf_fn {D:Addr} {m:PySem.Str} {f:Addr} (hm:methOf K0 D m=some (.plain f)):fnIn K0 f=true:=by
  obtain ⟨hu,h0⟩:=grd_some hm;clear hm
  obtain ⟨g,hf,h3⟩:=ask_some h0;clear h0
  induction hb:fnIn K0 g&&isFn K0 (.ref g) with
  | true=>
    rw [hb] at h3
    cases h3
    exact (and_tt hb).1
  | false=>
    rw [hb] at h3
    obtain ⟨Z,Z,e⟩:=ask_some h3;clear h3
    cases e
inductive CmS (p f:Addr):Prop
  | mk (rest:List Value) (r1:recIn K0 p "classmethod"=some (.ref f::rest)) (r2:specialIn K0 (.ref p) "__get__"=some (some (.builtin "classmethod.__get__"))) (r3:takesIn K0 (.ref p)=some false) (r4:typeIn K0 (.ref p)=some (.type "classmethod")) (r5:fnIn K0 f=true)
theorem cmOf_facts {p f:Addr} (h:cmOf K0 p=some f):CmS p f:=by
  obtain ⟨l,e,h1⟩:=ask_some h;clear h
  obtain ⟨v,e2,h2⟩:=ask_some h1;clear h1
  obtain ⟨g,e3,h3⟩:=ask_some h2;clear h2
  obtain ⟨hc,h4⟩:=grd_some h3;clear h3
  obtain rfl:=Option.some.inj h4
  induction l using List.casesOn with
  | nil=>exact nov e2
  | cons a rest=>
    cases e2
    rw [refV_of e3] at e
    have ⟨c,c4⟩:=and_tt hc
    have ⟨c,c3⟩:=and_tt c
    exact ⟨rest,e,beq_iff_eq.mp (and_tt c).1,beq_iff_eq.mp (and_tt c).2,beq_iff_eq.mp c3,c4⟩
theorem meth_cls {D:Addr} {fs:List (PySem.Str×PV)} {m:PySem.Str} {p f:Addr} {d n:Nat} {es:List DictEntry} {pl:Sem Bool} {Q:PySem.Value×List PySem.Value→Shared→Prop} (G:GI F s.heap) (I:InstAt s.heap (d+1) (instObj D d) D (some (dictOf es n))) (hv:VRf B s.heap fs es)
    (hm:methOf K0 D m=some (.ofCls p f)) (hl:fs.lookup m=none) (h:fnIn K0 f=true→Q (.ref s.heap.objs.size,[]) { s with heap:=s.heap.push (methodObj (.ref f) (.ref D)),toks:=s.toks+1 }):wpAny (model prog w0) A (getMethod (.ref (d+1)) m pl) Q E s:=by
  obtain ⟨hu,h0⟩:=grd_some hm;clear hm
  obtain ⟨g,hg,h5⟩:=ask_some h0;clear h0
  obtain ⟨hu1,hcn⟩:=and_tt hu;clear hu
  obtain ⟨h1,h2,cd,h3,h4⟩:=usual_of hu1;clear hu1
  induction hb:fnIn K0 g&&isFn K0 (.ref g) with
  | true=>rw [hb] at h5;cases h5
  | false=>
    rw [hb] at h5
    obtain ⟨f',e,q⟩:=ask_some h5;clear h5
    cases q
    obtain ⟨rest,r1,r2,r3,r4,r5⟩:=cmOf_facts e;clear e
    have hf:=refO_of hg
    refine method_usual G.k I h1 h2 hf ?_ (get_bind G.k I h1 (g:=.builtin "classmethod.__get__") (a:=.ref p) ?_ h2 ?_)
    · simp only [Option.all_some,r4,Option.any_some];decide
    · exact obnd h3 (obnd hf (obnd r2 (obnd r3 (obnd ((if_pos h4).trans (look_none (n:=n) hv hl)) (by rw [not_tt hcn];rfl)))))
    · exact wpAny_call (cm_get (s:={ s with toks:=s.toks+1 }) G.k r1 (handed_on rfl (h r5)))
theorem meth_ccls {D:Addr} {m:PySem.Str} {p f:Addr} {pl:Sem Bool} {Q:PySem.Value×List PySem.Value→Shared→Prop} (G:GI F s.heap)
    (hm:cmethOf K0 D m=some (p,f)) (h:fnIn K0 f=true→Q (.ref s.heap.objs.size,[]) { s with heap:=s.heap.push (methodObj (.ref f) (.ref D)),toks:=s.toks+1 }):wpAny (model prog w0) A (getMethod (.ref D) m pl) Q E s:=by
  obtain ⟨hu,h1⟩:=grd_some hm;clear hm
  obtain ⟨c,hc,h2⟩:=ask_some h1;clear h1
  obtain ⟨p',hg,h3⟩:=ask_some h2;clear h2
  obtain ⟨f',e,h4⟩:=ask_some h3;clear h3
  cases h4
  rw [gotten_of hg] at hc
  obtain ⟨rest,r1,r2,r3,r4,r5⟩:=cmOf_facts e;clear e
  exact method_cls G.k (beq_iff_eq.mp (and_tt hu).1) (cls_bind G.k (and_tt hu).2 hc (wpAny_call (cm_get (s:={ s with toks:=s.toks+1 }) G.k r1 (handed_on rfl (h r5)))))
end
end Mine
end
section
open PySem PySem.W PySem.Calls PyProof.Rows
namespace Mine
section
variable (C:CallSem) (d:Nat)
noncomputable def SC:Prop:=∀ {A:Around} {F:List Addr} {fr:List Env} {st:Bool} {B:Addr→Prop} {s:Shared} {a:Addr} {args:List PV} {vs:List PySem.Value} {kw:List (PySem.Str×PV)} {kvs:List (PySem.Str×PySem.Value)} {r:Res PV},
  CxC d st A F fr→GI F s.heap→Bd F B s.heap→C st a args kw=some r→VRs B s.heap args vs→RL (VR B s.heap) kw kvs →
  codeAny (model prog w0) A (.call (.ref a) ⟨vs,kvs⟩) (CR (EPs F st B s r) (PostX F fr s r)) s
structure Sound (n:Nat):Prop where
  E:∀ {A:Around} {F:List Addr} {fr:List Env} {st:Bool} {B:Addr→Prop} {μ:Option Addr} {env:Env} {fm:Fm} {e:PySem.Expr} {r:Res PV} {s:Shared},Cx d st A F fr→FI F st env B μ fm s→evalE K0 C n st fm e=some r →
    wpAny (model prog w0) A (eval e env) (EP F st B μ s r) (PostX F fr s r) s
  BE:∀ {A:Around} {F:List Addr} {fr:List Env} {st:Bool} {B:Addr→Prop} {μ:Option Addr} {env:Env} {fm:Fm} {op:BoolOp} {es:List PySem.Expr} {r:Res PV} {s:Shared} {pos:Pos},Cx d st A F fr→FI F st env B μ fm s→boolEs K0 C n st fm op es=some r →
    wpAny (model prog w0) A (boolOp pos op (evalEach es env)) (EP F st B μ s r) (PostX F fr s r) s
  TE:∀ {A:Around} {F:List Addr} {fr:List Env} {st:Bool} {B:Addr→Prop} {μ:Option Addr} {env:Env} {fm:Fm} {e:PySem.Expr} {r:Res Bool} {s:Shared},Cx d st A F fr→FI F st env B μ fm s→testE K0 C n st fm e=some r →
    wpAny (model prog w0) A (isTrue e env (eval e env)) (Post F st s r fun b c Z=>c=b) (PostX F fr s r) s
  TS:∀ {A:Around} {F:List Addr} {fr:List Env} {st:Bool} {B:Addr→Prop} {μ:Option Addr} {env:Env} {fm:Fm} {op:BoolOp} {es:List PySem.Expr} {r:Res Bool} {s:Shared},Cx d st A F fr→FI F st env B μ fm s→testEs K0 C n st fm op es=some r →
    wpAny (model prog w0) A (allTrue op es env) (Post F st s r fun b c Z=>c=b) (PostX F fr s r) s
  O:∀ {A:Around} {F:List Addr} {fr:List Env} {st:Bool} {B:Addr→Prop} {μ:Option Addr} {env:Env} {fm:Fm} {e:Option PySem.Expr} {r:Res (Option PV)} {s:Shared},Cx d st A F fr→FI F st env B μ fm s→evalO K0 C n st fm e=some r →
    wpAny (model prog w0) A (evalPart e env) (Post F st s r fun o v s'=>OV B s'.heap μ o v) (PostX F fr s r) s
  ES:∀ {A:Around} {F:List Addr} {fr:List Env} {st:Bool} {B:Addr→Prop} {μ:Option Addr} {env:Env} {fm:Fm} {es:List PySem.Expr} {r:Res (List PV)} {s:Shared} {pos:Pos},Cx d st A F fr→FI F st env B μ fm s→evalEs K0 C n st fm es=some r →
    wpAny (model prog w0) A (spliced (backTo pos (starEach es env))) (Post F st s r fun l vs s'=>VVs B s'.heap μ l vs) (PostX F fr s r) s
  KS:∀ {A:Around} {F:List Addr} {fr:List Env} {st:Bool} {B:Addr→Prop} {μ:Option Addr} {env:Env} {fm:Fm} {ks:List PySem.Keyword} {r:Res (List (PySem.Str×PV))} {s:Shared} {pos:Pos},Cx d st A F fr→FI F st env B μ fm s→evalKs K0 C n st fm ks=some r →
    wpAny (model prog w0) A (evalAll ((backToKw pos (keywordEach ks env)).map (·.2)))
      (Post F st s r fun l vs s'=>RL (VV B s'.heap μ) l (((backToKw pos (keywordEach ks env)).filterMap (·.1)).zip vs)) (PostX F fr s r) s
end
section
variable {C:CallSem} {d n:Nat} {A:Around} {F:List Addr} {fr:List Env} {st:Bool} {B:Addr→Prop} {μ:Option Addr} {env:Env} {fm:Fm} {s:Shared} {r:Res PV}
theorem sub_E {β:Type} {e:PySem.Expr} {f:PV→R β} {r:Res β} (h:rbind (evalE K0 C n st fm e) f=some r) (ih:Sound C d n) (X:Cx d st A F fr) (I:FI F st env B μ fm s):
    ∃ r₁,wpAny (model prog w0) A (eval e env) (EP F st B μ s r₁) (PostX F fr s r₁) s∧(r₁=.exc→r=.exc)∧∀ p,r₁=.ok p→f p=some r:=by
  obtain ⟨r₁,h1,h2,h3⟩:=rbind_first h;clear h
  exact ⟨r₁,ih.E X I h1,h2,h3⟩
theorem ep_of {r:Res PV} {M:Model} {A:Around} {t:Sem PySem.Value} {E:PySem.Value→Shared→Prop} (h:wpAny M A t (EPs F st B s r) E s):wpAny M A t (EP F st B μ s r) E s:=wpAny_mono h (fun Z Z x=>EP.of x) fun Z Z x=>x
theorem seqG {M:Model} {α β γ:Type} {t:Sem β} {s₀:Shared} {r₁:Res α} {r:Res γ} {Φ:α→β→Shared→Prop} {Q:β→Shared→Prop} (g₀:GoS F st s₀ s)
    (h:wpAny M A t (Post F st s r₁ Φ) (PostX F fr s r₁) s) (hx:r₁=.exc→r=.exc)
    (hk:∀ p v s',r₁=.ok p→GoS F st s s'→GoS F st s₀ s'→s.toks≤s'.toks→Φ p v s'→Q v s'):wpAny M A t Q (PostX F fr s₀ r) s:=
  wpAny_mono (wpAny_toks h) (fun v s' z1=>by obtain ⟨tk,g,p,e,hp⟩:=z1;exact hk p v s' e g (g₀.trans g) tk hp) fun x s' y=>PostX.after g₀ ⟨hx y.2.1,y.2.2⟩
theorem finG {M:Model} {α β:Type} {t:Sem β} {s₀:Shared} {r:Res α} {Φ:α→β→Shared→Prop} (g₀:GoS F st s₀ s) (h:wpAny M A t (Post F st s r Φ) (PostX F fr s r) s):wpAny M A t (Post F st s₀ r Φ) (PostX F fr s₀ r) s:=
  wpAny_mono h (fun Z Z x=>x.after g₀) fun Z Z x=>x.after g₀
theorem snd_BinOp {l rr:PySem.Expr} {op:PySem.Operator} {pos:Pos} (ih:Sound C d n) (X:Cx d st A F fr) (I:FI F st env B μ fm s)
    (h:rbind (evalE K0 C n st fm l) (fun a=>rbind (evalE K0 C n st fm rr) fun b=>binE fm op a b)=some r):
    wpAny (model prog w0) A (eval (.BinOp l op rr pos) env) (EP F st B μ s r) (PostX F fr s r) s:=by
  obtain ⟨r₁,h1,h2,h3⟩:=sub_E h ih X I
  refine wpAny_BinOp (seqG (.refl ..) h1 h2 fun p v s' e g Z tk q=>?_)
  have I':=I.go g.go tk
  obtain ⟨r₂,k1,k2,k3⟩:=sub_E (h3 p e) ih X I'
  refine seqG g k1 k2 fun p' v' s'' e' g' g₂ tk' q'=>?_
  exact finG g₂ (ep_of (bin_ok (I'.go g'.go tk') (k3 p' e') (q.go g'.go I'.bd) q'))
theorem snd_Not {x:Expr} {pos:Pos} (ih:Sound C d n) (X:Cx d st A F fr) (I:FI F st env B μ fm s) (h:rbind (evalE K0 C n st fm x) notR=some r):
    wpAny (model prog w0) A (eval (.UnaryOp .Not x pos) env) (EP F st B μ s r) (PostX F fr s r) s:=by
  obtain ⟨r₁,h1,h2,h3⟩:=sub_E h ih X I
  refine wpAny_UnaryOp (seqP h1 h2 fun p v s' e g tk q=>?_)
  obtain ⟨a,e1,rfl⟩:=optR_some (h3 p e);clear e
  obtain ⟨b,hb,rfl⟩:=Option.map_eq_some_iff.mp e1;clear e1
  exact ep_of (not_ok hb q)
theorem snd_Neg {x:Expr} {pos:Pos} (ih:Sound C d n) (X:Cx d st A F fr) (I:FI F st env B μ fm s) (h:rbind (evalE K0 C n st fm x) negR=some r):
    wpAny (model prog w0) A (eval (.UnaryOp .USub x pos) env) (EP F st B μ s r) (PostX F fr s r) s:=by
  obtain ⟨r₁,h1,h2,h3⟩:=sub_E h ih X I
  exact wpAny_UnaryOp (seqP h1 h2 fun p v s' e g tk q=>ep_of (neg_ok (h3 p e) q))
theorem seq_T {β γ:Type} {e:PySem.Expr} {f:Bool→R γ} {r:Res γ} {Φ:γ→β→Shared→Prop} {k:Bool→Sem β} (h:rbind (testE K0 C n st fm e) f=some r) (ih:Sound C d n) (X:Cx d st A F fr) (I:FI F st env B μ fm s)
    (hk:∀ b s',f b=some r→GoS F st s s'→FI F st env B μ fm s'→wpAny (model prog w0) A (k b) (Post F st s' r Φ) (PostX F fr s' r) s'):
    wpAny (model prog w0) A (isTrue e env (eval e env)) (fun b s'=>wpAny (model prog w0) A (k b) (Post F st s r Φ) (PostX F fr s r) s') (PostX F fr s r) s:=by
  obtain ⟨r₁,h1,h2,h3⟩:=rbind_first h;clear h
  refine seqP (ih.TE X I h1) h2 fun p v s' e g tk q=>?_
  subst q
  exact hk _ _ (h3 _ e) g (I.go g.go tk)
theorem snd_IfExp {t b o:Expr} {pos:Pos} (ih:Sound C d n) (X:Cx d st A F fr) (I:FI F st env B μ fm s) (h:rbind (testE K0 C n st fm t) (fun p=>evalE K0 C n st fm (bif p then b else o))=some r):
    wpAny (model prog w0) A (eval (.IfExp t b o pos) env) (EP F st B μ s r) (PostX F fr s r) s:=by
  refine wpAny_IfExp (wpAny_mono (seq_T (k:=fun c=>eval (bif c then b else o) env) (Φ:=fun p v s'=>VV B s'.heap μ p v) h ih X I fun c s' hc g I'=>ih.E X I' hc) (fun c s' z=>by cases c<;>exact z) fun Z Z z=>z)
theorem VVs.len {h:Heap}:∀ {l:List PV} {vs:List PySem.Value},VVs B h μ l vs→vs.length=l.length
  | [],_,x=>by cases x;rfl
  | _::_,_,⟨v,r,e,_,x⟩=>by subst e;simp [VVs.len x]
theorem lined_some {mk:List PV→PV} {vs:List PV} (h:lined mk vs=some r):vs.all solid=true∧vs.length≤1000∧r=.ok (mk vs):=by
  obtain ⟨hc,h1⟩:=grd_some h;clear h
  exact ⟨(and_tt hc).1,of_decide_eq_true (and_tt hc).2,rok_some h1⟩
theorem k1000 {n:Nat} (h:n≤1000):n≤lenLine:=Nat.le_trans h (by decide)
theorem snd_Tuple {es:List Expr} {k:Nat} {pos:Pos} (ih:Sound C d n) (X:Cx d st A F fr) (I:FI F st env B μ fm s) (h:rbind (evalEs K0 C n st fm es) (lined .tup)=some r):
    wpAny (model prog w0) A (eval (.Tuple es k pos) env) (EP F st B μ s r) (PostX F fr s r) s:=by
  obtain ⟨r₁,h1,h2,h3⟩:=rbind_first h;clear h
  refine wpAny_Tuple (wpAny_mono (wpAny_toks (ih.ES X I h1)) (fun vs s' z1=>?_) fun x s' y=>⟨h2 y.2.1,y.2.2⟩)
  obtain ⟨tk,g,p,e,q⟩:=z1
  obtain ⟨hs,hl,rfl⟩:=lined_some (h3 p e);clear e
  exact ⟨by rw [q.len];exact size_ok (k1000 hl),EP.of (Post.after g (ep_newTup (I.go g.go tk).bd (k1000 hl) (q.solid hs)))⟩
theorem snd_List {es:List Expr} {pos:Pos} (ih:Sound C d n) (X:Cx d st A F fr) (I:FI F st env B μ fm s) (h:rbind (evalEs K0 C n st fm es) (lined .list)=some r):
    wpAny (model prog w0) A (eval (.List es pos) env) (EP F st B μ s r) (PostX F fr s r) s:=by
  obtain ⟨r₁,h1,h2,h3⟩:=rbind_first h;clear h
  refine wpAny_List (wpAny_mono (wpAny_toks (ih.ES X I h1)) (fun vs s' z1=>?_) fun x s' y=>⟨h2 y.2.1,y.2.2⟩)
  obtain ⟨tk,g,p,e,q⟩:=z1
  obtain ⟨hs,hl,rfl⟩:=lined_some (h3 p e);clear e
  exact ⟨by rw [q.len];exact size_ok (k1000 hl),EP.of (Post.after g (ep_newList (k:=s'.toks) (I.go g.go tk).bd (k1000 hl) (q.solid hs)))⟩
theorem snd_Subscript {v i:PySem.Expr} {pos:Pos} (ih:Sound C d n) (X:Cx d st A F fr) (I:FI F st env B μ fm s)
    (h:rbind (evalE K0 C n st fm v) (fun o=>rbind (evalE K0 C n st fm i) fun k=>idxE fm o k)=some r):
    wpAny (model prog w0) A (eval (.Subscript v i pos) env) (EP F st B μ s r) (PostX F fr s r) s:=by
  obtain ⟨r₁,h1,h2,h3⟩:=sub_E h ih X I
  refine Subscript_ (seqG (.refl ..) h1 h2 fun p v s' e g Z tk q=>?_)
  have I':=I.go g.go tk
  obtain ⟨r₂,k1,k2,k3⟩:=sub_E (h3 p e) ih X I'
  refine seqG g k1 k2 fun p' v' s'' e' g' g₂ tk' q'=>?_
  exact finG g₂ (ep_of (idx_ok (I'.go g'.go tk') (k3 p' e') (q.go g'.go I'.bd) q'))
theorem snd_Slice {v:PySem.Expr} {l u:Option PySem.Expr} {p pos:Pos} (ih:Sound C d n) (X:Cx d st A F fr) (I:FI F st env B μ fm s)
    (h:rbind (evalE K0 C n st fm v) (fun o=>rbind (evalO K0 C n st fm l) fun a=>rbind (evalO K0 C n st fm u) fun b=>sliceE fm o a b)=some r):
    wpAny (model prog w0) A (eval (.Subscript v (.Slice l u none p) pos) env) (EP F st B μ s r) (PostX F fr s r) s:=by
  obtain ⟨r₁,h1,h2,h3⟩:=sub_E h ih X I
  refine Subscript_ (seqG (.refl ..) h1 h2 fun p v s' e g Z tk q=>?_)
  have I':=I.go g.go tk
  obtain ⟨r₂,a1,a2,a3⟩:=rbind_first (h3 p e);clear e
  refine wpAny_Slice (seqG g (ih.O X I' a1) a2 fun pl vl s₂ e₂ g₂ g₂' tk₂ ql=>?_)
  have I₂:=I'.go g₂.go tk₂
  obtain ⟨r₃,b1,b2,b3⟩:=rbind_first (a3 pl e₂)
  refine seqG g₂' (ih.O X I₂ b1) b2 fun pu vu s₃ e₃ g₃ g₃' tk₃ qu=>?_
  have I₃:=I₂.go g₃.go tk₃
  rw [evalPart_none]
  refine wpAny_pure ?_
  exact wpAny_mono (slice_ok (st:=st) I₃ (b3 pu e₃) ((q.go g₂.go I'.bd).go g₃.go I₂.bd) (ql.go g₃.go I₂.bd) qu) (fun Z Z x=>Post.after g₃' (EP.of x)) fun Z Z x=>x
end
end Mine
end
section
set_option tactic.hygienic true
open PySem PySem.W PySem.Calls PyProof.Rows
namespace Mine
section
variable {C:CallSem} {d n:Nat} {A:Around} {F:List Addr} {fr:List Env} {st:Bool} {B:Addr→Prop} {μ:Option Addr} {env:Env} {fm:Fm} {s:Shared} {r:Res PV}
theorem cmp_own {E:PySem.Value→Shared→Prop} {op:CmpOp} {x D f:Addr} {ox:PySem.Obj} {od:Option PySem.Obj} {b:PySem.Value} {Q:PySem.Value→Shared→Prop} (hu:A.units < cLine) (X:K0.In s.heap) (I:InstAt s.heap x ox D od) (hb:Looks (model prog w0) s.heap (typeOf b) (.ref D))
    (hs:findIn K0 (.ref D) (cmpInfo op).2.1=some (some (.ref f))) (hf:isFn K0 (.ref f)=true) (h:wpAny (model prog w0) A (call (.ref f) [.ref x,b]) (W.CmpBack Q) E s):wpAny (model prog w0) A (richCompare op (.ref x) b) Q E s:=by
  unfold richCompare
  refine wpAny_holding (wpAny_bind (wpAny_cRoomFor hu (wpAny_bind (I.type.here (wpAny_bind (hb.here ?_))))))
  rw [if_neg (by simp)]
  refine wpAny_bind (wpAny_pure ?_)
  refine wpAny_ite ?_
  rw [if_neg Bool.false_ne_true]
  unfold tryCompare
  refine wpAny_bind (wpAny_bind (ifBound_K X I hs hf (wpAny_mono h (fun v s' hv=>?_) fun Z Z e=>e)))
  cases v<;>first | exact hv.elim | exact wpAny_pure (wpAny_pure hv)
theorem specOf_facts {D f:Addr} {m:PySem.Str} (h:specOf K0 D m=some f):findIn K0 (.ref D) m=some (some (.ref f))∧fnIn K0 f=true∧isFn K0 (.ref f)=true:=by
  obtain ⟨g,e,h1⟩:=ask_some h;clear h
  obtain ⟨hc,h2⟩:=grd_some h1;clear h1
  obtain rfl:=Option.some.inj h2
  exact ⟨refO_of e,and_tt hc⟩
theorem call_SC (sc:SC C d) (X:Cx d st A F fr) (I:FI F st env B μ fm s) {a:Addr} {args:List PV} {vs:List PySem.Value} (h:C st a args []=some r) (q:VRs B s.heap args vs):
    wpAny (model prog w0) A (call (.ref a) vs) (EPs F st B s r) (PostX F fr s r) s:=
  wpAny_call (sc X.toCxC I.gi I.bd h q rfl)
theorem two_vrs {h:Heap} {a b:PV} {v w':PySem.Value} (x:VR B h a v) (y:VR B h b w'):VRs B h [a,b] [v,w']:=by
  exact ⟨v,_,rfl,x,w',_,rfl,y,rfl⟩
theorem one_vrs {h:Heap} {a:PV} {v:PySem.Value} (x:VR B h a v):VRs B h [a] [v]:=by
  exact ⟨v,_,rfl,x,rfl⟩
variable {pa pb:PV} {va vb:Value}
theorem boolR_some {o:Option Bool} (h:boolR o=some r):∃ b,o=some b∧r=.ok (.bool b):=by
  obtain ⟨b,h1,h2⟩:=ask_some h;clear h
  exact ⟨b,h1,rok_some h2⟩
theorem instCmp_ok {op:CmpOp} {nm:Str} (hop:(cmpInfo op).2.1=nm) {D:Addr} {fs:List (Str×PV)} (sc:SC C d) (X:Cx d st A F fr) (I:FI F st env B μ fm s)
    (h:instCmp K0 C st nm D fs pb=some r) (qa:VR B s.heap (.inst D fs) va) (qb:VV B s.heap μ pb vb):
    wpAny (model prog w0) A (richCompare op va vb) (EPs F st B s r) (PostX F fr s r) s:=by
  obtain ⟨⟨D2,gs⟩,h1,h2⟩:=ask_some h;clear h
  obtain ⟨hD,h3⟩:=grd_some h2;clear h2
  obtain ⟨f,hf,h4⟩:=ask_some h3;clear h3
  obtain rfl:pb=.inst D2 gs:=asInst_of h1
  obtain ⟨f1,f2,f3⟩:=specOf_facts hf;clear hf
  obtain ⟨r₁,k1,k2,k3⟩:=rbind_first h4;clear h4
  obtain ⟨a,es,m,rfl,Z,Z,Ia,Z⟩:=inst_at qa
  obtain ⟨b,es',m',rfl,Z,Z,Ib,Z⟩:=inst_at qb
  refine cmp_own X.cline I.gi.k Ia (by rw [show D=D2 from eq_of_beq hD];exact Ib.type) (by rw [hop];exact f1) f3 (wpAny_mono (call_SC sc X I k1 (two_vrs qa qb)) (fun v s' z1=>?_) fun x s' y=>⟨k2 y.1,y.2⟩)
  obtain ⟨g,p,e,q⟩:=z1
  obtain ⟨b,hb,rfl⟩:=boolR_some (k3 p e);clear e
  have q:VR B s'.heap p v:=q
  rw [asBool_of hb] at q
  obtain rfl:=(show v=_ from q)
  exact Post.ok g rfl
inductive EqS (nm:Str) (g:Bool→Bool) (C:CallSem) (st:Bool) (pa pb:PV) (r:Res PV):Prop
  | own (D:Addr) (fs:List (Str×PV)) (e:pa=.inst D fs) (h:instCmp K0 C st nm D fs pb=some r)
  | eqv (b:Bool) (h:Mine.eqv pa pb=some b) (e:r=.ok (.bool (g b)))
theorem eqE_some {nm:Str} {g:Bool→Bool} (h:eqE K0 C st nm g pa pb=some r):EqS nm g C st pa pb r:=by
  unfold eqE at h
  induction e:asInst pa with
  | some q=>rw [e] at h;exact .own _ _ (asInst_of e) h
  | none=>
    rw [e] at h
    obtain ⟨b,h1,h2⟩:=boolR_some h;clear h
    obtain ⟨p,h3,h4⟩:=Option.map_eq_some_iff.mp h1;clear h1
    exact .eqv p h3 (h2.trans (by rw [h4]))
theorem isE_some {b:Bool} (e:isE pa pb=some b) (qa:VV B s.heap μ pa va) (qb:VV B s.heap μ pb vb):vb=.none∧(va==.none)=b:=by
  obtain ⟨h1,h2⟩:=grd_some e;clear e
  cases pb with
  | none=>exact ⟨qb,isNone_ok h2 qa⟩
  | _=>exact nof h1
theorem cmp_ok {op:CmpOp} (sc:SC C d) (X:Cx d st A F fr) (I:FI F st env B μ fm s) (h:cmpE K0 C st op pa pb=some r) (qa:VV B s.heap μ pa va) (qb:VV B s.heap μ pb vb):
    wpAny (model prog w0) A (compareOp op va vb) (EPs F st B s r) (PostX F fr s r) s:=by
  cases op with
  | Eq=>
    rcases eqE_some h with ⟨D,fs,rfl,h1⟩ | ⟨b,h1,rfl⟩
    · exact cmp_ofEq (instCmp_ok rfl sc X I h1 qa qb)
    · exact (eqv_ok X h1 qa qb).y
  | NotEq=>
    rcases eqE_some h with ⟨D,fs,rfl,h1⟩ | ⟨b,h1,rfl⟩
    · exact cmp_ofNotEq (instCmp_ok rfl sc X I h1 qa qb)
    · exact (eqv_ok X h1 qa qb).n
  | Lt=>
    obtain ⟨i,j,t,u,rfl,rfl,h1⟩:=ints_of h qa qb
    obtain rfl:=rok_some h1
    exact PyProof.Rows.lt_int bool_here
  | Gt=>
    obtain ⟨i,j,t,u,rfl,rfl,h1⟩:=ints_of h qa qb
    obtain rfl:=rok_some h1
    exact PyProof.Rows.gt_int bool_here
  | Is=>
    obtain ⟨b,h1,rfl⟩:=boolR_some h;clear h
    obtain ⟨rfl,h2⟩:=isE_some h1 qa qb
    refine is_none ?_
    rw [h2];exact bool_here
  | IsNot=>
    obtain ⟨b,h1,rfl⟩:=boolR_some h;clear h
    obtain ⟨p,h2,rfl⟩:=Option.map_eq_some_iff.mp h1;clear h1
    obtain ⟨rfl,h3⟩:=isE_some h2 qa qb
    refine isNot_none ?_
    rw [h3];exact bool_here
  | In=>
    obtain ⟨b,h1,rfl⟩:=boolR_some h;clear h
    exact in_ok h1 qa qb
  | _=>exact nov h
theorem snd_Compare {l rr:Expr} {op:CmpOp} {pos:Pos} (sc:SC C d) (ih:Sound C d n) (X:Cx d st A F fr) (I:FI F st env B μ fm s) (h:grd (!behindInMarks op rr) (cmpR K0 C (EvN K0 C n) st fm l op rr)=some r):
    wpAny (model prog w0) A (eval (.Compare l [op] [rr] pos) env) (EP F st B μ s r) (PostX F fr s r) s:=by
  obtain ⟨hm,h4⟩:=grd_some h;clear h
  obtain ⟨r₁,h1,h2,h3⟩:=sub_E h4 ih X I
  refine wpAny_Compare1 (seqG (.refl ..) h1 h2 fun p v s' e g Z tk q=>?_) (not_tt hm)
  have I':=I.go g.go tk
  obtain ⟨r₂,k1,k2,k3⟩:=sub_E (h3 p e) ih X I'
  refine seqG g k1 k2 fun p' v' s'' e' g' g₂ tk' q'=>?_
  exact finG g₂ (ep_of (cmp_ok sc X (I'.go g'.go tk') (k3 p' e') (q.go g'.go I'.bd) q'))
theorem truth_tail {p:PV} {v:Value} {s₀:Shared} {E:Value→Shared→Prop} {r:Res Bool} (h:truthR p=some r) (q:VV B s.heap μ p v) (g:GoS F st s₀ s):wpAny (model prog w0) A (truthy v) (Post F st s₀ r fun b c Z=>c=b) E s:=by
  obtain ⟨b,hb,rfl⟩:=optR_some h;clear h
  refine wpAny_mono (truthy_ok (F:=F) (st:=st) hb q) (fun c s₂ z1=>?_) fun Z Z z=>z
  obtain ⟨g₂,p,e,hp⟩:=z1
  cases e;subst hp
  exact ⟨g.trans g₂,_,rfl,rfl⟩
theorem snd_testCompare {l rr:Expr} {op:CmpOp} {pos:Pos} {r:Res Bool} {whole:Sem Value} (sc:SC C d) (ih:Sound C d n) (X:Cx d st A F fr) (I:FI F st env B μ fm s) (hm:(!behindInMarks op rr)=true)
    (h:rbind (evalE K0 C n st fm l) (fun a=>rbind (evalE K0 C n st fm rr) fun b=>rbind (cmpE K0 C st op a b) truthR)=some r):
    wpAny (model prog w0) A (isTrue (.Compare l [op] [rr] pos) env whole) (Post F st s r fun b c Z=>c=b) (PostX F fr s r) s:=by
  obtain ⟨r₁,h1,h2,h3⟩:=sub_E h ih X I
  refine wpAny_isTrue_Compare1 (seqG (.refl ..) h1 h2 fun p v s' e g Z tk q=>?_) (not_tt hm)
  have I':=I.go g.go tk
  obtain ⟨r₂,k1,k2,k3⟩:=sub_E (h3 p e) ih X I'
  refine seqG g k1 k2 fun p' v' s₂ e' g' g₂ tk' q'=>?_
  obtain ⟨r₃,c1,c2,c3⟩:=rbind_first (k3 p' e');clear e'
  exact seqG g₂ (cmp_ok sc X (I'.go g'.go tk') c1 (q.go g'.go I'.bd) q') c2 fun p₃ v₃ s₃ e₃ g₃ g₃' tk₃ q₃=>truth_tail (c3 p₃ e₃) (VV.of (μ:=μ) q₃) g₃'
end
end Mine
end
section
set_option tactic.hygienic true
open PySem PySem.W PySem.Calls PyProof.Rows
namespace Mine
section
variable {C:CallSem} {d n:Nat} {A:Around} {F:List Addr} {fr:List Env} {st:Bool} {B:Addr→Prop} {μ:Option Addr} {env:Env} {fm:Fm} {s:Shared} {r:Res PV}
theorem snd_BE {op:BoolOp} {es:List Expr} {pos:Pos} (ih:Sound C d n) (X:Cx d st A F fr) (I:FI F st env B μ fm s) (h:boolK (EvN K0 C n) st fm op es=some r):
    wpAny (model prog w0) A (boolOp pos op (evalEach es env)) (EP F st B μ s r) (PostX F fr s r) s:=by
  match es,h with
  | [],h=>exact nov h
  | [_],h=>exact ih.E X I h
  | e::e2::r2,h=>
    obtain ⟨r₁,h1,h2,h3⟩:=sub_E h ih X I
    refine wpAny_bind (seqG (.refl ..) h1 h2 fun p v s' e g Z tk q=>?_)
    refine wpAny_bind (wpAny_standAt (wpAny_bind (wpAny_holding ?_)))
    have I':=I.go g.go tk
    obtain ⟨b,hb,h4⟩:=ask_some (h3 p e)
    refine wpAny_mono (wpAny_toks (truthy_ok (F:=F) (st:=st) (E:=PostX F fr s r) hb q)) (fun c s₂ z1=>?_) fun Z Z z=>z.2
    obtain ⟨tk,g₂,p,e,hp⟩:=z1
    cases e;subst hp
    cases op<;>cases b<;>first
      | (cases rok_some h4;exact wpAny_pure (Post.ok (g.trans g₂) (q.go g₂.go I'.bd)))
      | exact finG (g.trans g₂) (ih.BE (pos:=pos) X (I'.go g₂.go tk) h4)
theorem snd_Tval {e:Expr} {r:Res Bool} {P:Sem Bool} (ih:Sound C d n) (X:Cx d st A F fr) (I:FI F st env B μ fm s) (h:rbind (evalE K0 C n st fm e) truthR=some r)
    (hp:P=(do let v ← eval e env;standAt e.pos;holding [v] (truthy v))):wpAny (model prog w0) A P (Post F st s r fun b c Z=>c=b) (PostX F fr s r) s:=by
  subst hp
  obtain ⟨r₁,k1,k2,k3⟩:=sub_E h ih X I
  exact wpAny_bind (seqG (.refl ..) k1 k2 fun p v s' e' g Z tk q=>wpAny_bind (wpAny_standAt (wpAny_holding (truth_tail (k3 p e') q g))))
theorem snd_TE {e:Expr} {r:Res Bool} (sc:SC C d) (ih:Sound C d n) (X:Cx d st A F fr) (I:FI F st env B μ fm s) (h:testE K0 C (n+1) st fm e=some r):
    wpAny (model prog w0) A (isTrue e env (eval e env)) (Post F st s r fun b c Z=>c=b) (PostX F fr s r) s:=by
  revert h
  show (match valK (kindE e) with
      | true=>rbind (evalE K0 C n st fm e) truthR
      | false=>testK K0 C (EvN K0 C n) st fm (kindE e))=some r→_
  generalize kindE e=k
  induction k with
  | not x _=>
    intro h
    obtain ⟨r₁,h1,h2,h3⟩:=rbind_first (show rbind (testE K0 C n st fm x) (fun p=>rok (!p))=some r from h);clear h
    refine wpAny_isTrue_Not (wpAny_mono (ih.TE X I h1) (fun c s' z1=>?_) fun x s' y=>⟨h2 y.1,y.2⟩)
    obtain ⟨g,p,e,q⟩:=z1
    obtain rfl:=rok_some (h3 p e)
    subst q
    exact Post.ok g rfl
  | bool op vs _=>intro h;exact wpAny_isTrue_BoolOp (ih.TS X I h)
  | cmp l op rr _=>intro h;obtain ⟨h1,h2⟩:=grd_some (show grd _ _=some r from h);exact snd_testCompare sc ih X I h1 h2
  | ife=>intro h;exact nov h
  | other=>intro h;exact nov h
  | cst=>intro h;exact snd_Tval ih X I h rfl
  | nm=>intro h;exact snd_Tval ih X I h rfl
  | bin=>intro h;exact snd_Tval ih X I h rfl
  | tup=>intro h;exact snd_Tval ih X I h rfl
  | lst=>intro h;exact snd_Tval ih X I h rfl
  | fs=>intro h;exact snd_Tval ih X I h rfl
  | slc=>intro h;exact snd_Tval ih X I h rfl
  | idx=>intro h;exact snd_Tval ih X I h rfl
  | att=>intro h;exact snd_Tval ih X I h rfl
  | gen=>intro h;exact snd_Tval ih X I h rfl
  | mth=>intro h;exact snd_Tval ih X I h rfl
  | fn=>intro h;exact snd_Tval ih X I h rfl
  | neg=>intro h;exact snd_Tval ih X I h rfl
  | rep=>intro h;exact snd_Tval ih X I h rfl
  | jg=>intro h;exact snd_Tval ih X I h rfl
theorem snd_TS {op:BoolOp} {es:List Expr} {r:Res Bool} (ih:Sound C d n) (X:Cx d st A F fr) (I:FI F st env B μ fm s) (h:testsK (EvN K0 C n) st fm op es=some r):
    wpAny (model prog w0) A (allTrue op es env) (Post F st s r fun b c Z=>c=b) (PostX F fr s r) s:=by
  induction es using List.casesOn with
  | nil=>cases op<;>(cases rok_some h;exact wpAny_pure (Post.ok (.refl ..) rfl))
  | cons e rest=>
    rw [arm_allTrue_cons]
    obtain ⟨r₁,h1,h2,h3⟩:=rbind_first (show rbind (testE K0 C n st fm e) (fun p=>bif p==stopB op then rok p else testEs K0 C n st fm op rest)=some r from h);clear h
    refine wpAny_bind (seqG (.refl ..) (ih.TE X I h1) h2 fun p v s' e g Z tk q=>?_)
    subst q
    have h4:=h3 _ e
    cases op<;>cases v<;>first
      | (cases rok_some h4;exact wpAny_pure (Post.ok g rfl))
      | exact finG g (ih.TS X (I.go g.go tk) h4)
theorem snd_O {e:Option Expr} {r:Res (Option PV)} (ih:Sound C d n) (X:Cx d st A F fr) (I:FI F st env B μ fm s) (h:evalO K0 C (n+1) st fm e=some r):
    wpAny (model prog w0) A (evalPart e env) (Post F st s r fun o v s'=>OV B s'.heap μ o v) (PostX F fr s r) s:=by
  induction e with
  | none=>obtain rfl:=rok_some h;exact wpAny_pure (Post.ok (.refl ..) rfl)
  | some e=>
    obtain ⟨r₁,h1,h2,h3⟩:=sub_E (f:=fun v=>rok (some v)) h ih X I
    refine wpAny_mono h1 (fun v s' z1=>?_) fun x s' y=>⟨h2 y.1,y.2⟩
    obtain ⟨g,p,e,q⟩:=z1
    obtain rfl:=rok_some (h3 p e)
    exact Post.ok g q
theorem starEach_cons {e:Expr} {rest:List Expr} (h:notStar e=true):starEach (e::rest) env=(false,eval e env)::starEach rest env:=by
  induction e using PySem.Expr.casesOn<;>first | rfl | exact nof h
theorem snd_ES {es:List Expr} {r:Res (List PV)} {pos:Pos} (ih:Sound C d n) (X:Cx d st A F fr) (I:FI F st env B μ fm s) (h:evalsK (EvN K0 C n) st fm es=some r):
    wpAny (model prog w0) A (spliced (backTo pos (starEach es env))) (Post F st s r fun l vs s'=>VVs B s'.heap μ l vs) (PostX F fr s r) s:=by
  induction es using List.casesOn with
  | nil=>obtain rfl:=rok_some h;exact wpAny_items_nil (Post.ok (.refl ..) rfl)
  | cons e rest=>
    obtain ⟨hs,h4⟩:=grd_some h;clear h
    obtain ⟨r₁,h1,h2,h3⟩:=sub_E h4 ih X I
    refine wpAny_items_cons (seqG (.refl ..) h1 h2 fun p v s' e g Z tk q=>?_) (starEach_cons hs)
    have I':=I.go g.go tk
    obtain ⟨r₂,k1,k2,k3⟩:=rbind_first (h3 p e);clear e
    refine seqG g (ih.ES X I' k1) k2 fun l vs s₂ e₂ g₂ g₂' tk₂ q₂=>?_
    obtain rfl:=rok_some (k3 l e₂)
    exact Post.ok g₂' ⟨v,vs,rfl,q.go g₂.go I'.bd,q₂⟩
theorem plain_args {pos:Pos}:∀ {es:List PySem.Expr},es.all notStar=true→(backTo pos (starEach es env)).all (!·.1)=true
  | [],_=>rfl
  | e::rest,h=>by
    rw [List.all_cons,Bool.and_eq_true] at h
    rw [starEach_cons h.1]
    show (!false&&(backTo pos (starEach rest env)).all (!·.1))=true
    rw [plain_args h.2];rfl
theorem plain_kws {pos:Pos}:∀ {ks:List PySem.Keyword},ks.all kwNamed=true→(backToKw pos (keywordEach ks env)).all (·.1.isSome)=true
  | [],_=>rfl
  | ⟨some k,e,p⟩::rest,h=>by
    rw [List.all_cons,Bool.and_eq_true] at h
    show (true&&(backToKw pos (keywordEach rest env)).all (·.1.isSome))=true
    rw [plain_kws h.2];rfl
  | ⟨none,e,p⟩::rest,h=>by
    rw [List.all_cons,Bool.and_eq_true] at h
    cases h.1
theorem snd_KS {ks:List Keyword} {r:Res (List (Str×PV))} {pos:Pos} (ih:Sound C d n) (X:Cx d st A F fr) (I:FI F st env B μ fm s) (h:kwsK (EvN K0 C n) st fm ks=some r):
    wpAny (model prog w0) A (evalAll ((backToKw pos (keywordEach ks env)).map (·.2)))
      (Post F st s r fun l vs s'=>RL (VV B s'.heap μ) l (((backToKw pos (keywordEach ks env)).filterMap (·.1)).zip vs)) (PostX F fr s r) s:=by
  match ks,h with
  | [],h=>obtain rfl:=rok_some h;exact wpAny_pure (Post.ok (.refl ..) rfl)
  | ⟨none,e,p⟩::rest,h=>exact nov h
  | ⟨some k,e,p⟩::rest,h=>
    obtain ⟨r₁,h1,h2,h3⟩:=sub_E (e:=e) (f:=fun u=>rbind (evalKs K0 C n st fm rest) fun vs=>rok ((k,u)::vs)) h ih X I
    refine wpAny_bind (wpAny_bind (seqG (.refl ..) h1 h2 fun p v s' e g Z tk q=>?_))
    refine wpAny_bind (wpAny_standAt (wpAny_pure (wpAny_bind (wpAny_holding ?_))))
    have I':=I.go g.go tk
    obtain ⟨r₂,k1,k2,k3⟩:=rbind_first (h3 p e);clear e
    refine seqG g (ih.KS X I' k1) k2 fun l vs s₂ e₂ g₂ g₂' tk₂ q₂=>?_
    obtain rfl:=rok_some (k3 l e₂)
    exact wpAny_pure (Post.ok g₂' ⟨v,_,rfl,q.go g₂.go I'.bd,q₂⟩)
theorem base_ok {o:Expr} {a:Str} (h:notSuper o=true):attributeBase o a env (eval o env)=eval o env:=by
  induction o using PySem.Expr.casesOn with
  | Call f as ks p=>induction f using PySem.Expr.casesOn with
    | Name id q=>
      rcases as with Z | ⟨a1,as⟩
      · rcases ks with Z | ⟨k1,ks⟩
        · have hid:(id != Str.ofString "super")=true:=h
          unfold attributeBase
          dsimp only
          rw [show (id != "super")=true from hid]
          rfl
        · rfl
      · rfl
    | _=>rfl
  | _=>rfl
theorem snd_Attribute {v:Expr} {a:Str} {pos:Pos} (ih:Sound C d n) (X:Cx d st A F fr) (I:FI F st env B μ fm s) (h:grd (notSuper v) (rbind (evalE K0 C n st fm v) (attR K0 a))=some r):
    wpAny (model prog w0) A (eval (.Attribute v a pos) env) (EP F st B μ s r) (PostX F fr s r) s:=by
  obtain ⟨hs,h5⟩:=grd_some h;clear h
  rw [arm_eval_Attribute,base_ok hs]
  obtain ⟨r₁,h1,h2,h3⟩:=sub_E h5 ih X I
  refine wpAny_bind (seqG (.refl ..) h1 h2 fun p ov s' e g Z tk q=>?_)
  have I':=I.go g.go tk
  have h4:=h3 p e
  induction p using PV.casesOn with
  | inst D fs=>
    obtain ⟨hd,h6⟩:=grd_some h4;clear h4
    obtain ⟨x,hx,h7⟩:=ask_some h6;clear h6
    obtain ⟨hh,h8⟩:=grd_some h7;clear h7
    obtain rfl:=rok_some h8
    refine wpAny_bind (wpAny_standAt (wpAny_bind (wpAny_holding (wpAny_mono (attr_ok (st:=st) I'.gi hd hx hh q) (fun v' s₂ z=>?_) fun Z Z z=>z))))
    exact wpAny_bind (wpAny_letTemporaryGo (wpAny_pure (Post.after g (EP.of z))))
  | _=>exact nov h4
end
end Mine
end
section
open PySem PySem.W PySem.Calls PyProof.Rows
namespace Mine
theorem app_len (a b:PySem.Str):(a++b).length=a.length+b.length:=Str.length_append a b
theorem app_empty (a:PySem.Str):a++Str.empty=a:=Str.append_empty a
theorem app_assoc (a b c:PySem.Str):a++b++c=a++(b++c):=Str.append_assoc a b c
section
variable {C:CallSem} {d:Nat} {A:Around} {F:List Addr} {fr:List Env} {st:Bool} {B:Addr→Prop} {μ:Option Addr} {env:Env} {fm:Fm}
noncomputable def PQ (acc:Str) (l:List Str) (out:Str):Prop:=out.length≤16777216∧out=acc++joinPs l
theorem PQ.cons {acc y out:Str} {l:List Str} (h:PQ (acc++y) l out):PQ acc (y::l) out:=⟨h.1,h.2.trans (app_assoc ..)⟩
theorem budget {a y k:Nat} (h:a+(k+1)*1000002≤16777216) (hy:y≤1000002):a+y+k*1000002≤16777216:=by lia
theorem parts_ok {s₀:Shared} {rr:Res PV}:∀ {n:Nat} {es:List Expr} {r:Res (List Str)} {s:Shared} {acc:Str} {Q:Str→Shared→Prop},(∀ m,m≤n→Sound C d m)→Cx d st A F fr→FI F st env B μ fm s→GoS F st s₀ s →
    partsE K0 C n st fm es=some r→(r=.exc→rr=.exc)→acc.length+es.length*1000002≤16777216 →
    (∀ l out s',r=.ok l→GoS F st s₀ s'→PQ acc l out→Q out s')→Joins (model prog w0) A (PostX F fr s₀ rr) (evalEach es env) acc Q s
  | 0,_,_,_,_,_,_,_,_,_,h,_,_,_=>nov h
  | n+1,[],r,s,acc,Q,ih,X,I,g₀,h,hx,hl,q=>by
    obtain rfl:=rok_some h
    exact q _ acc s rfl g₀ ⟨by simpa using hl,(app_empty acc).symm⟩
  | n+1,e::rest,r,s,acc,Q,ih,X,I,g₀,h,hx,hl,q=>by
    have next:∀ (y:Str) (t:Tok) (s₁:Shared),y.length≤1000002→GoS F st s₀ s₁→FI F st env B μ fm s₁→rbind (partsE K0 C n st fm rest) (fun l=>rok (y::l))=some r →
        ∃ x u,Value.str y t=.str x u∧(acc++x).length≤sizeLine∧Joins (model prog w0) A (PostX F fr s₀ rr) (evalEach rest env) (acc++x) Q s₁:=fun y t s₁ hy g₁ I₁ h=>by
      have hb:=budget (k:=rest.length) hl hy
      rw [← app_len] at hb
      obtain ⟨r₁,h1,h2,h3⟩:=rbind_first h;clear h
      refine ⟨y,t,rfl,by rw [sizeLine_eq];exact Nat.le_trans (Nat.le_add_right _ _) hb,parts_ok (fun m hm=>ih m (Nat.le_succ_of_le hm)) X I₁ g₁ h1 (fun e=>hx (h2 e)) hb fun l out s' e g' hp=>?_⟩
      obtain rfl:=rok_some (h3 l e)
      exact q _ out s' rfl g' hp.cons
    revert h
    show partK (EvN K0 C n) st fm rest (kindP e)=some r→_
    generalize kindP e=k
    induction k with
    | other=>exact fun h=>nov h
    | con x kd pos=>
      intro h
      obtain ⟨hx1,h6⟩:=grd_some (show grd (decide (x.length≤1000)) (rbind (partsE K0 C n st fm rest) fun l=>rok (x::l))=some r from h);clear h
      have g:GoS F st s { s with toks:=s.toks+1 }:=GoS.toks
      exact Joins_cons (wpAny_Constant_str (next x _ _ (Nat.le_trans (of_decide_eq_true hx1) (by decide)) (g₀.trans g) (I.go g.go (Nat.le_succ _)) h6))
    | fv e c pos=>
      intro h
      obtain ⟨hc,hh⟩:=grd_some (show grd (c==115) (rbind (evalE K0 C n st fm e) fun u=>ask (asStr u) fun x=>grd (decide (x.length≤100000)) (rbind (partsE K0 C n st fm rest) fun l=>rok (x::l)))=some r from h);clear h
      obtain rfl:=beq_iff_eq.mp hc
      obtain ⟨r₁,h1,h2,h3⟩:=sub_E hh (ih n (Nat.le_succ n)) X I
      refine Joins_cons (wpAny_FormattedValue_s (seqG g₀ h1 (fun e=>hx (h2 e)) fun p v s' e g g₁ tk hq=>?_))
      obtain ⟨x,h4,h5⟩:=ask_some (h3 p e)
      obtain rfl:=asStr_of h4
      obtain ⟨hl1,h6⟩:=grd_some h5;clear h5
      obtain ⟨t,rfl,Z⟩:=hq
      have hl2:x.length≤1000002:=Nat.le_trans (of_decide_eq_true hl1) (by decide)
      have hxs:x.length≤sizeLine:=by rw [sizeLine_eq];exact Nat.le_trans hl2 (by decide)
      refine wpAny_with_toks (n:=s'.toks) (Nat.le_refl _) (SB.convS_str (fun t' k tk'=>wpAny_with_toks (n:=k) (Nat.le_refl _) (SB.field_str (fun t'' k' tk''=>?_) hxs)) hxs)
      have g₂:GoS F st s' { s' with toks:=k' }:=GoS.toks
      exact next x t'' _ hl2 (g₁.trans g₂) ((I.go g.go tk).go g₂.go (Nat.le_trans tk' tk'')) h6
theorem snd_Joined {n:Nat} {a b:Expr} {rest:List Expr} {pos:Pos} {r:Res PV} {s:Shared} (ih:∀ m,m≤n→Sound C d m) (X:Cx d st A F fr) (I:FI F st env B μ fm s)
    (h:grd (decide (rest.length≤8)) (rbind (partsE K0 C n st fm (a::b::rest)) joinR)=some r):
    wpAny (model prog w0) A (eval (.JoinedStr (a::b::rest) pos) env) (EP F st B μ s r) (PostX F fr s r) s:=by
  obtain ⟨hl,h5⟩:=grd_some h;clear h
  obtain ⟨r₁,h1,h2,h3⟩:=rbind_first h5;clear h5
  refine wpAny_JoinedStr (parts_ok ih X I (.refl ..) h1 h2 ?_ fun l out s' e g hj=>⟨by rw [sizeLine_eq];exact hj.1,?_⟩)
  · have hl:=of_decide_eq_true hl
    show 0+(rest.length+1+1)*1000002≤16777216
    lia
  obtain ⟨hx2,rfl⟩:=strR_some (h3 l e)
  cases hj.2.trans (Str.empty_append _)
  exact EP.of (Post.after g (ep_str (h':=s'.heap) hx2 fun Z Z e=>e))
end
end Mine
end
section
open PySem PySem.W PySem.Calls PyProof.Rows
namespace Mine
section
variable {C:CallSem} {d n:Nat} {A:Around} {F:List Addr} {fr:List Env} {st:Bool} {B:Addr→Prop} {μ:Option Addr} {env:Env} {fm:Fm} {s s':Shared} {r:Res PV}
noncomputable def matId:Bool→String
  | true=>"re.Match.groups"
  | false=>"re.Match.end"
noncomputable def patId:PatK→String
  | .p2=>"re.Pattern.sub"
  | _=>"re.Pattern.match"
inductive TgtR (F:List Addr) (B:Addr→Prop) (μ:Option Addr) (h:Heap):Value→List Value→Tgt→Prop
  | str {x k} (tok:Tok) (hl:x.length≤lenLine):TgtR F B μ h (.builtin (smId k)) [.str x tok] (.str x k)
  | plain {f D fs v} (hf:fnIn K0 f=true) (q:VR B h (.inst D fs) v):TgtR F B μ h (.ref f) [v] (.plain f D fs)
  | ownPlain {f D fs a} (hf:fnIn K0 f=true) (ha:μ=some a):TgtR F B μ h (.ref f) [.ref a] (.ownPlain f D fs)
  | cm {D f p} (ho:h.get? p=some (methodObj (.ref f) (.ref D))) (hf:fnIn K0 f=true) (nt:¬ isT p) (nf:p∉F):TgtR F B μ h (.ref p) [] (.cm D f)
  | pat {k}:TgtR F B μ h (.builtin (patId k)) [.ref (patAt k)] (.pat k)
  | mat {gs e b v} (q:VR B h (.mat gs e) v):TgtR F B μ h (.builtin (matId b)) [v] (.mat gs e b)
theorem TgtR.go {f:Value} {pre:List Value} {t:Tgt} (x:TgtR F B μ s.heap f pre t) (g:Go F s s') (D:Bd F B s.heap):TgtR F B μ s'.heap f pre t:=by
  cases x with
  | str tok hl=>exact .str tok hl
  | plain hf q=>exact .plain hf (q.go g D)
  | ownPlain hf ha=>exact .ownPlain hf ha
  | cm ho hf nt nf=>exact .cm (g.ext.keep _ _ ho nt nf) hf nt nf
  | pat=>exact .pat
  | mat q=>exact .mat (q.go g D)
theorem TgtR.target {f:Value} {pre:List Value} {h:Heap} {t:Tgt} (x:TgtR F B μ h f pre t):∃ tgt pre',Target F h f pre tgt pre':=by
  cases x with
  | str tok hl=>exact ⟨_,_,.self (.inr (.inl ⟨_,rfl⟩))⟩
  | plain hf q=>exact ⟨_,_,.self (.inl (fnIn_keep hf))⟩
  | ownPlain hf ha=>exact ⟨_,_,.self (.inl (fnIn_keep hf))⟩
  | cm ho hf nt nf=>exact ⟨_,_,.bound _ _ (.ref _) rfl rfl ho hf nt nf⟩
  | pat=>exact ⟨_,_,.self (.inr (.inl ⟨_,rfl⟩))⟩
  | mat q=>exact ⟨_,_,.self (.inr (.inl ⟨_,rfl⟩))⟩
noncomputable abbrev TgtP (F:List Addr) (st:Bool) (B:Addr→Prop) (μ:Option Addr) (s:Shared) (t:Tgt):Value×List Value→Shared→Prop:=fun fx s'=>GoS F st s s'∧TgtR F B μ s'.heap fx.1 fx.2 t
theorem pat_at (k:PatK):∃ o,K0.lookup (patAt k)=some o∧o.cls=.type "re.Pattern"∧o.dict=none:=by
  cases k with
  | p1=>exact ⟨objAt w0.params 43,by kernel_rfl,by kernel_rfl,by kernel_rfl⟩
  | p2=>exact ⟨objAt w0.params 48,by kernel_rfl,by kernel_rfl,by kernel_rfl⟩
  | p3=>exact ⟨objAt w0.params 53,by kernel_rfl,by kernel_rfl,by kernel_rfl⟩
theorem pat_slot (k:PatK):Slot "re.Pattern" (Str.ofString (patName k)) (patId k)∧typeOf (.builtin (patId k))=pure (.type "method_descriptor"):=by
  cases k with
  | p2=>exact ⟨slot_psub,type_psub⟩
  | _=>exact ⟨slot_pmatch,type_pmatch⟩
theorem fresh_T {h:Heap} (D:Bd F B h):¬ isT h.objs.size∧h.objs.size∉F:=⟨fun x=>Nat.lt_irrefl _ (D.lt (D.t _ x)),fun x=>Nat.lt_irrefl _ (D.lt (D.f _ x))⟩
variable {E:Value→Shared→Prop} {m:Str} {o:PV} {ov:Value} {t:Tgt} {pl:Sem Bool}
theorem tgt_push {D f:Addr} (Bo:Bd F B s.heap) (hf:fnIn K0 f=true):TgtP F st B μ s (.cm D f) (.ref s.heap.objs.size,[]) { s with heap:=s.heap.push (methodObj (.ref f) (.ref D)),toks:=s.toks+1 }:=
  ⟨GoS.heap (keep_push _),.cm (Heap.get?_push_size _ rfl) hf (fresh_T Bo).1 (fresh_T Bo).2⟩
theorem tgt_inst {own:Bool} {D dd nn:Addr} {fs:List (Str×PV)} {es:List DictEntry} (G:GI F s.heap) (Bo:Bd F B s.heap) (I:InstAt s.heap (dd+1) (instObj D dd) D (some (dictOf es nn))) (hv:VRf B s.heap fs es) (h:instTgt K0 own D fs m=some t)
    (hq:∀ f,fnIn K0 f=true→TgtR F B μ s.heap (.ref f) [.ref (dd+1)] (methT own D fs (.plain f))):wpAny (model prog w0) A (getMethod (.ref (dd+1)) m pl) (TgtP F st B μ s t) E s:=by
  obtain ⟨hl,h1⟩:=grd_some h;clear h
  obtain ⟨u,hm,h2⟩:=ask_some h1;clear h1
  obtain rfl:=Option.some.inj h2
  have hl:=Option.isNone_iff_eq_none.mp hl
  induction u with
  | plain f=>exact meth_plain G I hv hm hl ⟨.refl ..,hq f (methOf_fn hm)⟩
  | ofCls p f=>exact meth_cls G I hv hm hl fun hf=>tgt_push Bo hf
theorem tgt_own (I:FI F st env B μ fm s) (h:(ask (moInst fm.mu) fun q=>instTgt K0 true q.1 q.2 m)=some t) (q:VV B s.heap μ .own ov):wpAny (model prog w0) A (getMethod ov m pl) (TgtP F st B μ s t) E s:=by
  obtain ⟨⟨D,fs⟩,h1,h2⟩:=ask_some h;clear h
  obtain ⟨a,ha,rfl⟩:=q
  have hM:=I.mu
  obtain ⟨o,e,h3⟩:=ask_some h1;clear h1
  rw [e] at hM
  induction o with
  | list l=>exact nov h3
  | inst D' fs'=>
    cases Option.some.inj h3
    obtain ⟨dd,es,nn,ha2,b1,b2,t1,t2,f1,f2,o1,o2,hv⟩:=hM
    obtain rfl:=Option.some.inj (ha.symm.trans ha2)
    exact tgt_inst I.gi I.bd ⟨o1,rfl,rfl,o2⟩ hv h2 fun f hf=>.ownPlain hf ha
theorem tgt_ref {a:Addr} (G:GI F s.heap) (Bo:Bd F B s.heap) (h:refTgt K0 m a=some t):wpAny (model prog w0) A (getMethod (.ref a) m pl) (TgtP F st B μ s t) E s:=by
  unfold refTgt at h
  induction e:patOf a with
  | some k=>
    rw [e] at h
    obtain ⟨hm,h1⟩:=grd_some h;clear h
    obtain rfl:=Option.some.inj h1
    obtain rfl:a=patAt k:=eq_of_beq (List.find?_some (p:=fun k=>a==patAt k) e)
    obtain ⟨o,ho,hc,hd⟩:=pat_at k
    have ho:=G.k _ _ ho
    exact getMethod_builtin ⟨_,ho,hc⟩ pa_pat (by rw [eq_of_beq hm];exact (pat_slot k).1) (pat_slot k).2 (fun a' e'=>by cases e';exact ⟨_,ho,hd⟩) ⟨.refl ..,.pat⟩
  | none=>
    rw [e] at h
    obtain ⟨⟨p,f⟩,hm,h2⟩:=ask_some h;clear h
    obtain rfl:=Option.some.inj h2
    exact meth_ccls G hm fun hf=>tgt_push Bo hf
theorem mm_slot (b:Bool):Slot "re.Match" (Str.ofString (mmName b)) (matId b)∧typeOf (.builtin (matId b))=pure (.type "method_descriptor"):=by
  induction b with
  | true=>exact ⟨slot_mgroups,type_mgroups⟩
  | false=>exact ⟨slot_mend,type_mend⟩
theorem tgt_mat {gs:List (Option Str)} {e:Nat} (h:(ask (mmOf m) fun b=>some (Tgt.mat gs e b))=some t) (q:VR B s.heap (.mat gs e) ov):wpAny (model prog w0) A (getMethod ov m pl) (TgtP F st B μ s t) E s:=by
  obtain ⟨b,hb,h6⟩:=ask_some h;clear h
  obtain rfl:=Option.some.inj h6
  obtain ⟨a,o,txt,t,p,l,li,pat,sp,b0,rest,rfl,h1,h2,h3,h4,h4',h5⟩:=id q
  rw [eq_of_beq (List.find?_some (p:=fun b=>m==Str.ofString (mmName b)) hb)]
  exact getMethod_builtin ⟨_,h3,h4⟩ pa_mat (mm_slot b).1 (mm_slot b).2 (fun a' e'=>by cases e';exact ⟨_,h3,h4'⟩) ⟨.refl ..,.mat q⟩
theorem tgt_ok (I:FI F st env B μ fm s) (h:tgtOf K0 fm o m=some t) (q:VV B s.heap μ o ov):wpAny (model prog w0) A (getMethod ov m pl) (TgtP F st B μ s t) E s:=by
  induction o using PV.casesOn with
  | str x=>
    obtain ⟨k,hk,h1⟩:=ask_some h;clear h
    obtain rfl:=Option.some.inj h1
    obtain ⟨t,rfl,hx⟩:=q
    exact getMethod_builtin (typeIs_str _ _ _) PySem.F.plainAttrs_str (smOf_slot hk).1 (smOf_slot hk).2 (fun Z e=>nomatch e) ⟨.refl ..,.str t hx⟩
  | inst D fs=>
    obtain ⟨dd,es,nn,rfl,hb1,hb2,hI,hv⟩:=inst_at q
    exact tgt_inst I.gi I.bd hI hv h fun f hf=>.plain hf q
  | own=>exact tgt_own I h q
  | glob v=>
    obtain ⟨a,ha,h2⟩:=ask_some h;clear h
    cases asRef_of ha
    obtain rfl:=(show ov=_ from q)
    exact tgt_ref I.gi I.bd h2
  | mat gs e=>exact tgt_mat h q
  | _=>exact nov h
end
end Mine
end
section
open PySem PySem.W PySem.Calls PyProof.Rows
namespace Mine
structure RX:Prop where
  m1:∀ {A:Around} {F:List Addr} {st:Bool} {B:Addr→Prop} {s:Shared} {E:Value→Shared→Prop} {x:Str} {t:Tok},GI F s.heap→Bd F B s.heap→x.length≤lenLine →
    wpAny (model prog w0) A (call (.builtin "re.Pattern.match") [.ref 43,.str x t]) (EPs F st B s (.ok (mat1 (m1 x.cps.toList)))) E s
  s2:∀ {A:Around} {F:List Addr} {st:Bool} {B:Addr→Prop} {s:Shared} {E:Value→Shared→Prop} {x:Str} {t u:Tok},GI F s.heap→Bd F B s.heap→x.length≤100000 →
    wpAny (model prog w0) A (call (.builtin "re.Pattern.sub") [.ref 48,.str (Str.ofString "-") u,.str x t]) (EPs F st B s (.ok (.str ⟨(sub2 x.cps.toList).toArray⟩))) E s
  m3:∀ {A:Around} {F:List Addr} {st:Bool} {B:Addr→Prop} {s:Shared} {E:Value→Shared→Prop} {x:Str} {t:Tok} {r:Res PV},GI F s.heap→Bd F B s.heap→x.length≤lenLine →
    patE x=some r→wpAny (model prog w0) A (call (.builtin "re.Pattern.match") [.ref 53,.str x t]) (EPs F st B s r) E s
  mat:∀ {A:Around} {F:List Addr} {st:Bool} {B:Addr→Prop} {s:Shared} {E:Value→Shared→Prop} {gs:List (Option Str)} {e:Nat} {b:Bool} {v:Value},Bd F B s.heap→VR B s.heap (.mat gs e) v →
    wpAny (model prog w0) A (call (.builtin (matId b)) [v]) (EPs F st B s (.ok (matE gs e b))) E s
section
variable {B:Addr→Prop} {D:Addr} {dd:Addr} {h:Heap} {es:List DictEntry} {n:Nat}
theorem cls_ne {a:Addr} {o:Obj} {c:String} (o1:h.get? (dd+1)=some (instObj D dd)) (o2:h.get? dd=some (dictOf es n)) (ho:h.get? a=some o) (hc:o.cls=.type c) (hd:c≠"dict"):a≠dd+1∧a≠dd:=by
  refine ⟨fun e=>?_,fun e=>?_⟩
  · rw [e,o1] at ho;cases ho;cases hc
  · rw [e,o2] at ho;cases ho;exact hd (PySem.Value.type.inj (show PySem.Value.type "dict"=_ from hc)).symm
mutual
theorem VR.widen (o1:h.get? (dd+1)=some (instObj D dd)) (o2:h.get? dd=some (dictOf es n)):∀ {p:PV} {v:PySem.Value},hasInst D p=false→VR (fun b=>B b∧b≠dd+1∧b≠dd) h p v→VR B h p v
  | .none,_,_,x=>x
  | .bool _,_,_,x=>x
  | .int _,_,_,x=>x
  | .str _,_,_,x=>x
  | .glob _,_,_,x=>x
  | .any,_,_,_=>trivial
  | .own,_,_,x=>False.elim x
  | .tup l,v,hi,x=>by
    obtain ⟨a,vs,rfl,hb,ht,hn,hv⟩:=x
    obtain ⟨o,ho,hc,Z⟩:=id ht
    exact SeqR.mk a vs rfl (fun y=>hb ⟨y,cls_ne o1 o2 ho hc (by decide)⟩) ht hn (VRs.widen o1 o2 hi hv)
  | .list l,v,hi,x=>by
    obtain ⟨a,vs,rfl,hb,ht,hn,hv⟩:=x
    obtain ⟨o,ho,hc,Z⟩:=id ht
    exact SeqR.mk a vs rfl (fun y=>hb ⟨y,cls_ne o1 o2 ho hc (by decide)⟩) ht hn (VRs.widen o1 o2 hi hv)
  | .inst C fs,v,hi,x=>by
    obtain ⟨d,es',n',rfl,h1,h2,h3,h4,h5⟩:=x
    obtain ⟨hi1,hi2⟩:=Bool.or_eq_false_iff.mp hi;clear hi
    have e1:d+1≠dd+1:=fun e=>by
      have:d=dd:=Nat.succ.inj e
      subst this
      rw [o1] at h3;cases h3;simp at hi1
    have e2:d+1≠dd:=fun e=>by rw [e,o2] at h3;cases h3
    have e3:d≠dd+1:=fun e=>by rw [e,o1] at h4;cases h4
    have e4:d≠dd:=fun e=>e1 (by rw [e])
    exact InsR.mk d es' n' rfl (fun y=>h1 ⟨y,e1,e2⟩) (fun y=>h2 ⟨y,e3,e4⟩) h3 h4 (VRf.widen o1 o2 hi2 h5)
  | .mat gs e,v,_,x=>by
    obtain ⟨a,o,txt,t,p,l,li,pat,sp,b0,rest,rfl,h1,h2,h3,h4,h4',h5,h6,h7⟩:=x
    obtain ⟨o',ho,hc,Z⟩:=id h6
    exact MatR.mk a o txt t p l li pat sp b0 rest rfl (fun y=>h1 ⟨y,cls_ne o1 o2 h3 h4 (by decide)⟩) (fun y=>h2 ⟨y,cls_ne o1 o2 ho hc (by decide)⟩) h3 h4 h4' h5 h6 h7
theorem VRs.widen (o1:h.get? (dd+1)=some (instObj D dd)) (o2:h.get? dd=some (dictOf es n)):∀ {p:List PV} {v:List PySem.Value},hasInsts D p=false→VRs (fun b=>B b∧b≠dd+1∧b≠dd) h p v→VRs B h p v
  | [],_,_,x=>x
  | p::l,_,hi,x=>by
    obtain ⟨hi1,hi2⟩:=Bool.or_eq_false_iff.mp hi;clear hi
    obtain ⟨v,r,rfl,h1,h2⟩:=x
    exact ConsR.mk v r rfl (VR.widen o1 o2 hi1 h1) (VRs.widen o1 o2 hi2 h2)
theorem VRf.widen (o1:h.get? (dd+1)=some (instObj D dd)) (o2:h.get? dd=some (dictOf es n)):∀ {p:List (PySem.Str×PV)} {v:List DictEntry},hasInstf D p=false→VRf (fun b=>B b∧b≠dd+1∧b≠dd) h p v→VRf B h p v
  | [],_,_,x=>x
  | p::l,_,hi,x=>by
    obtain ⟨hi1,hi2⟩:=Bool.or_eq_false_iff.mp hi;clear hi
    obtain ⟨t,v,r,rfl,h1,h2⟩:=x
    exact EntR.mk t v r rfl (VR.widen o1 o2 hi1 h1) (VRf.widen o1 o2 hi2 h2)
end
end
section
variable {C:CallSem} {d n:Nat} {A:Around} {F:List Addr} {fr:List Env} {st:Bool} {B:Addr→Prop} {μ:Option Addr} {env:Env} {fm:Fm} {s s':Shared} {r:Res PV}
theorem RL.mono {R R':PV→PySem.Value→Prop} (h:∀ p v,R p v→R' p v):∀ {l vs},RL R l vs→RL R' l vs
  | [],_,x=>x
  | _::_,_,⟨v,r,e,h1,x⟩=>⟨v,r,e,h _ _ h1,RL.mono h x⟩
theorem RL.solid {h:Heap}:∀ {l:List (PySem.Str×PV)} {vs},RL (VV B h μ) l vs→l.all (fun p=>solid p.2)=true→RL (VR B h) l vs
  | [],_,x,_=>x
  | p::l,_,⟨v,r,e,h1,x⟩,hs=>by
    rw [List.all_cons,Bool.and_eq_true] at hs
    exact ⟨v,r,e,h1.solid hs.1,RL.solid x hs.2⟩
theorem nil_of {h:Heap} {kw:List (Str×PV)} {kvs:List (Str×Value)} (e:kw.isEmpty=true) (qk:RL (VR B h) kw kvs):kvs=[]:=by
  induction kw using List.casesOn with
  | nil=>exact qk
  | cons=>exact nof e
variable {m:Str} {t:Tgt} {args:List PV} {kw:List (Str×PV)} {vs:List Value} {kvs:List (Str×Value)}
theorem run_own {f D:Addr} {fs:List (Str×PV)} {a:Addr} (sc:SC C d) (X:Cx d st A F fr) (I:FI F st env B μ fm s) (hmu:fm.mu=some (.inst D fs)) (ha:μ=some a)
    (h:rbind (C st f (.inst D fs::args) kw) (fun v=>grd (!hasInst D v) (rok v))=some r) (qa:VRs B s.heap args vs) (qk:RL (VR B s.heap) kw kvs):
    wpAny (model prog w0) A (call (.ref f) (.ref a::vs) kvs) (EPs F st B s r) (PostX F fr s r) s:=by
  obtain ⟨r₁,h1,h2,h3⟩:=rbind_first h;clear h
  have hM:=I.mu
  rw [hmu] at hM
  obtain ⟨dd,es,nn,ha2,b1,b2,t1,t2,f1,f2,o1,o2,hv⟩:=hM
  obtain rfl:=Option.some.inj (ha.symm.trans ha2)
  have bd':Bd F (fun b=>B b∧b≠dd+1∧b≠dd) s.heap:=⟨fun b hb=>⟨I.bd.t b hb,fun e=>t1 (e▸hb),fun e=>t2 (e▸hb)⟩,fun b hb=>⟨I.bd.f b hb,fun e=>f1 (e▸hb),fun e=>f2 (e▸hb)⟩,fun b hb=>I.bd.ex b hb.1⟩
  have k0:KeepB B s.heap s.heap:=fun Z Z e Z=>e
  have q':VRs (fun b=>B b∧b≠dd+1∧b≠dd) s.heap (.inst D fs::args) (.ref (dd+1)::vs):=
    ⟨_,vs,rfl,⟨dd,es,nn,rfl,fun y=>y.2.1 rfl,fun y=>y.2.2 rfl,o1,o2,hv.keep k0 fun Z Z Z y=>y.1⟩,qa.keep k0 fun Z Z Z y=>y.1⟩
  refine wpAny_mono (wpAny_call (sc X.toCxC I.gi bd' h1 q' (qk.mono fun Z Z y=>VR.keep k0 (fun Z Z Z y=>y.1) y))) (fun v s' z1=>?_) fun x s' y=>⟨h2 y.1,y.2⟩
  obtain ⟨g,p,e,q⟩:=z1
  obtain ⟨hi,h4⟩:=grd_some (h3 p e);clear e
  obtain rfl:=rok_some h4
  exact Post.ok g (VR.widen (g.go.ext.keep _ _ o1 t1 f1) (g.go.ext.keep _ _ o2 t2 f2) (not_tt hi) q)
theorem own_mu {o:PV} {f D:Addr} {fs:List (Str×PV)} (h:tgtOf K0 fm o m=some (.ownPlain f D fs)):fm.mu=some (.inst D fs):=by
  have other:∀ {D' fs'},instTgt K0 false D' fs' m≠some (.ownPlain f D fs):=fun e=>by
    obtain ⟨u,Z,e⟩:=ask_some (grd_some e).2
    cases u<;>cases e
  induction o using PV.casesOn with
  | str x=>obtain ⟨k,Z,e⟩:=ask_some h;cases e
  | inst=>exact absurd h other
  | own=>
    obtain ⟨⟨D',fs'⟩,h1,h2⟩:=ask_some h;clear h
    obtain ⟨o,e,h3⟩:=ask_some h1;clear h1
    obtain ⟨u,Z,h2⟩:=ask_some (grd_some h2).2
    induction o with
    | list=>exact nov h3
    | inst=>cases h3;cases u<;>cases h2;exact e
  | glob v=>
    obtain ⟨a,Z,h4⟩:=ask_some h;clear h
    unfold refTgt at h4
    cases e:patOf a<;>rw [e] at h4
    · obtain ⟨u,Z,h4⟩:=ask_some h4;cases h4
    · cases (grd_some h4).2
  | mat=>obtain ⟨k,Z,e⟩:=ask_some h;cases e
  | _=>exact nov h
theorem pat_run {k:PatK} {E:Value→Shared→Prop} (rx:RX) (G:GI F s.heap) (D:Bd F B s.heap) (h:patR k args=some r) (qa:VRs B s.heap args vs):
    wpAny (model prog w0) A (call (.builtin (patId k)) (.ref (patAt k)::vs)) (EPs F st B s r) E s:=by
  cases k with
  | p1=>
    obtain ⟨y,u,rfl,hl,h5⟩:=qa.ofStr h
    obtain rfl:=rok_some h5
    exact rx.m1 G D hl
  | p2=>
    obtain ⟨q,hq,h1⟩:=ask_some h;clear h
    obtain ⟨y,hy,h2⟩:=ask_some h1;clear h1
    obtain ⟨x,hx,h3⟩:=ask_some h2;clear h2
    obtain ⟨hc,h4⟩:=grd_some h3;clear h3
    obtain rfl:=rok_some h4
    rw [two_of hq,asStr_of hy,asStr_of hx] at qa
    obtain ⟨v,w,rfl,⟨u,rfl,Z⟩,t,rfl,Z⟩:=qa.two
    rw [eq_of_beq (and_tt hc).1]
    exact rx.s2 G D (of_decide_eq_true (and_tt hc).2)
  | p3=>
    obtain ⟨y,u,rfl,hl,h5⟩:=qa.ofStr h
    exact rx.m3 G D hl h5
theorem smArg_id {k:SM}:smId (smArg k args)=smId k:=by
  cases k with
  | split=>show smId (bif args.length==2 then .splitM else .split)=_;cases args.length==2<;>rfl
  | _=>rfl
theorem run_ok {f:Value} {pre:List Value} {o:PV} (sc:SC C d) (rx:RX) (X:Cx d st A F fr) (I:FI F st env B μ fm s)
    (ht:tgtOf K0 fm o m=some t) (h:runT C st m t args kw=some r) (x:TgtR F B μ s.heap f pre t) (qa:VRs B s.heap args vs) (qk:RL (VR B s.heap) kw kvs):
    wpAny (model prog w0) A (call f (pre++vs) kvs) (EPs F st B s r) (PostX F fr s r) s:=by
  cases x with
  | str tok hl=>
    obtain ⟨hk,h3⟩:=grd_some h;clear h
    rw [nil_of hk qk]
    rw [← smArg_id (args:=args)]
    exact strMeth_ok encodeOk I.bd h3 hl qa
  | plain hf q=>exact wpAny_call (sc X.toCxC I.gi I.bd h ⟨_,vs,rfl,q,qa⟩ qk)
  | ownPlain hf ha=>exact run_own sc X I (own_mu ht) ha h qa qk
  | cm ho hf _ _=>exact wpAny_call (method_call ho (sc X.toCxC I.gi I.bd h ⟨_,vs,rfl,rfl,qa⟩ qk))
  | pat=>
    obtain ⟨hk,h4⟩:=grd_some h;clear h
    rw [nil_of hk qk]
    exact pat_run rx I.gi I.bd h4 qa
  | mat q=>
    obtain ⟨hk,h6⟩:=grd_some h;clear h
    obtain ⟨h1,h2⟩:=and_tt hk;clear hk
    obtain rfl:=rok_some h6
    rw [nil_of h1 qk]
    rw [List.isEmpty_iff.mp h2] at qa
    obtain rfl:=qa.zero
    exact rx.mat I.bd q
end
end Mine
end
section
open PySem PySem.W PySem.Calls PyProof.Rows
namespace Mine
structure ITR (d:Nat):Prop where
  lst:∀ {A:Around} {F:List Addr} {fr:List Env} {B:Addr→Prop} {s:Shared} {D:Addr} {fs:List (PySem.Str×PV)} {r:Res PV} {v:PySem.Value},Cx d false A F fr→GI F s.heap→Bd F B s.heap→iterI K0 D fs=some r→VR B s.heap (.inst D fs) v →
    wpAny (model prog w0) A (call (.type "list") [v]) (EPs F false B s r) (PostX F fr s r) s
section
variable {C:CallSem} {d n:Nat} {A:Around} {F:List Addr} {fr:List Env} {st:Bool} {B:Addr→Prop} {μ:Option Addr} {env:Env} {fm:Fm} {s s':Shared} {r:Res PV}
theorem rest_ok (sc:SC C d) (it:ITR d) (X:Cx d st A F fr) (I:FI F st env B μ fm s):Rest A C F fr st B s where
  str:=fun {D fs f x v} hf h q=>by
    obtain ⟨h1,h2,h3⟩:=specOf_facts hf;clear hf
    have q0:=q
    obtain ⟨a,es,m,rfl,Z,Z,Ia,Z⟩:=inst_at q
    have hu:A.in1.in1.units < cLine:=by have:=X.units20;show A.units+1+1 < cLine;unfold cLine;lia
    refine kso_call hu I.gi.k Ia h1 h3 (wpAny_mono (wpAny_call (sc (X.more 2 (by lia)) I.gi I.bd h (one_vrs q0) rfl)) (fun v s' z1=>?_) fun Z Z y=>y)
    obtain ⟨g,p,e,q⟩:=z1
    cases e
    have q1:VR B s'.heap (.str x) v:=q
    obtain ⟨t,rfl,hl⟩:=q1
    show EPs F st B s (.ok (.str x)) (.str x t) s'
    exact Post.ok g q
  lst:=fun hst h q=>by subst hst;exact it.lst X I.gi I.bd h q
theorem args_seq {γ:Type} {args:List Expr} {kws:List Keyword} {pos:Pos} {k:List PV→List (Str×PV)→R γ} {s₀:Shared} {r:Res γ} {Q:List Value→List Value→Shared→Prop} (ih:Sound C d n) (X:Cx d st A F fr) (I:FI F st env B μ fm s) (g₀:GoS F st s₀ s)
    (h:argsR (EvN K0 C n) st fm args kws k=some r)
    (q:∀ l lk vs ks s',GoS F st s s'→GoS F st s₀ s'→FI F st env B μ fm s'→k l lk=some r→VVs B s'.heap μ l vs→RL (VV B s'.heap μ) lk (((backToKw pos (keywordEach kws env)).filterMap (·.1)).zip ks)→Q vs ks s'):
    wpAny (model prog w0) A (spliced (backTo pos (starEach args env))) (fun vs s₁=>wpAny (model prog w0) A (evalAll ((backToKw pos (keywordEach kws env)).map (·.2))) (fun ks s₂=>Q vs ks s₂) (PostX F fr s₀ r) s₁) (PostX F fr s₀ r) s:=by
  obtain ⟨r₁,h1,h2,h3⟩:=rbind_first h;clear h
  refine seqG g₀ (ih.ES X I h1) h2 fun l vs s₁ e g g₁ tk qv=>?_
  have I₁:=I.go g.go tk
  obtain ⟨r₂,k1,k2,k3⟩:=rbind_first (h3 l e);clear e
  exact seqG g₁ (ih.KS X I₁ k1) k2 fun lk ks s₂ e₂ g₂ g₂' tk₂ qk=>q l lk vs ks s₂ (g.trans g₂) g₂' (I₁.go g₂.go tk₂) (k3 lk e₂) (qv.go g₂.go I₁.bd) qk
theorem callR_ok {p:PV} {v:Value} {r:Res PV} {l:List PV} {lk:List (Str×PV)} {vs:List Value} {ks:List (Str×Value)} (sc:SC C d) (it:ITR d) (X:Cx d st A F fr) (I:FI F st env B μ fm s) (q:VV B s.heap μ p v) (h:callR K0 C st fm p l lk=some r) (qv:VVs B s.heap μ l vs) (qk:RL (VV B s.heap μ) lk ks):
    wpAny (model prog w0) A (call v vs ks) (EPs F st B s r) (PostX F fr s r) s:=by
  induction p using PV.casesOn with
  | glob u=>
    obtain rfl:=q
    have bi:grd lk.isEmpty (callB K0 C st fm v l)=some r→wpAny (model prog w0) A (call v vs ks) (EPs F st B s r) (PostX F fr s r) s:=fun h=>by
      obtain ⟨hk,h1⟩:=grd_some h;clear h
      induction lk using List.casesOn with
      | nil=>obtain rfl:=qk;exact callB_ok I (rest_ok sc it X I) h1 qv
      | cons=>exact nof hk
    cases v with
    | ref a=>
      obtain ⟨hs,h2⟩:=grd_some h;clear h
      exact wpAny_call (sc X.toCxC I.gi I.bd h2 (qv.solid (and_tt hs).1) (RL.solid qk (and_tt hs).2))
    | _=>exact bi h
  | _=>exact nov h
theorem snd_CallName {f:Str} {fp pos:Pos} {args:List Expr} {kws:List Keyword} (sc:SC C d) (it:ITR d) (ih:Sound C d n) (X:Cx d st A F fr) (I:FI F st env B μ fm s)
    (h:grd (args.all notStar&&kws.all kwNamed) (fnR K0 C (EvN K0 C n) st fm (.Name f fp) args kws)=some r):
    wpAny (model prog w0) A (eval (.Call (.Name f fp) args kws pos) env) (EP F st B μ s r) (PostX F fr s r) s:=by
  obtain ⟨hp,h5⟩:=grd_some h;clear h
  obtain ⟨r₁,h1,h2,h3⟩:=sub_E h5 ih X I
  refine wpAny_Call_Name_kw (seqG (.refl ..) h1 h2 fun p v s' e g g₀ tk q=>?_)
  have I':=I.go g.go tk
  obtain ⟨hc,h4⟩:=grd_some (h3 p e);clear e
  induction p using PV.casesOn with
  | glob u=>
    obtain rfl:=q
    have tgt:Target F s'.heap v [] v []:=by
      cases v with
      | ref=>exact .self (.inl hc)
      | builtin=>exact .self (.inr (.inl ⟨_,rfl⟩))
      | type=>exact .self (.inr (.inr ⟨_,rfl⟩))
      | _=>exact nof hc
    refine callWith_ok tgt (plain_args (and_tt hp).1) (plain_kws (and_tt hp).2) (args_seq ih X I' g h4 fun l lk vs ks s₂ g₂ g₂' I₂ hk qv qk=>⟨g₂.go,I₂.gi.k,?_⟩)
    exact finG g₂' (ep_of (callR_ok (p:=.glob v) sc it X I₂ rfl hk qv qk))
  | _=>exact nof hc
theorem methodCall_eq {o:PySem.Expr} {name:PySem.Str} {apos pos:Pos} {args:List PySem.Expr} {kws:List Keyword} {Q E:PySem.Value→Shared→Prop} (h1:notSuper o=true) (h2:(apos.endLine==pos.line)=true) (h3:args.length+kws.length < 20) (h4:args.all notStar=true) (h5:kws.all kwNamed=true)
    (h:wpAny (model prog w0) A (eval o env) (fun ov s₁=>wpAny (model prog w0) A (getMethod ov name (do return (← importBound o env).getD true)) (fun fx s₂=>wpAny (model prog w0) A (callWith pos fx.1 fx.2 (backTo pos (starEach args env)) (backToKw pos (keywordEach kws env))) Q E s₂) E s₁) E s):
    wpAny (model prog w0) A (eval (.Call (.Attribute o name apos) args kws pos) env) Q E s:=by
  rw [arm_eval_Call,base_ok h1]
  have hform:methodCallForm (args.length+kws.length) (backTo pos (starEach args env)) (backToKw pos (keywordEach kws env))=true:=by
    unfold methodCallForm
    rw [plain_args h4,plain_kws h5]
    simp only [Bool.true_and]
    apply decide_eq_true
    split<;>lia
  have hpos:methodCallPos true o env apos pos=pure pos:=by unfold methodCallPos;simp [h2]
  refine wpAny_bind (wpAny_mono h (fun ov s₁ h₁=>wpAny_bind (wpAny_standAt ?_)) fun Z Z e=>e)
  unfold methodCall
  rw [hform]
  refine wpAny_bind (wpAny_holding ?_)
  unfold calleeOf
  rw [if_pos rfl]
  exact wpAny_mono h₁ (fun fx s₂ h₂=>wpAny_bind (wpAny_of_eq hpos h₂)) fun Z Z e=>e
theorem snd_CallMethod {o:Expr} {m:Str} {apos pos:Pos} {args:List Expr} {kws:List Keyword} (sc:SC C d) (rx:RX) (ih:Sound C d n) (X:Cx d st A F fr) (I:FI F st env B μ fm s)
    (h:grd (mthOk o apos args kws pos) (mthR K0 C (EvN K0 C n) st fm o m args kws)=some r):
    wpAny (model prog w0) A (eval (.Call (.Attribute o m apos) args kws pos) env) (EP F st B μ s r) (PostX F fr s r) s:=by
  obtain ⟨hg,h5⟩:=grd_some h;clear h
  obtain ⟨hg1,g5⟩:=and_tt hg;clear hg
  obtain ⟨hg2,g4⟩:=and_tt hg1;clear hg1
  obtain ⟨hg3,g3⟩:=and_tt hg2;clear hg2
  obtain ⟨r₁,h1,h2,h3⟩:=sub_E h5 ih X I
  refine methodCall_eq (and_tt hg3).1 (and_tt hg3).2 (of_decide_eq_true g3) g4 g5 (seqG (.refl ..) h1 h2 fun p v s' e g g₀ tk q=>?_)
  have I':=I.go g.go tk
  obtain ⟨t,ht,h4⟩:=ask_some (h3 p e);clear e
  refine wpAny_mono (wpAny_toks (tgt_ok (st:=st) (E:=PostX F fr s r) I' ht q)) (fun fx s₁ z1=>?_) fun Z Z z=>z.2
  obtain ⟨tk₁,g₁,x⟩:=z1
  have I₁:=I'.go g₁.go tk₁
  obtain ⟨tgt,pre,X'⟩:=x.target
  refine callWith_ok X' (plain_args g4) (plain_kws g5) (args_seq ih X I₁ (g.trans g₁) h4 fun l lk vs ks s₂ g₂ g₂' I₂ hk qv qk=>⟨g₂.go,I₂.gi.k,?_⟩)
  obtain ⟨hs,hk1⟩:=grd_some hk;clear hk
  exact finG g₂' (ep_of (run_ok sc rx X I₂ ht hk1 (x.go g₂.go I₁.bd) (qv.solid (and_tt hs).1) (RL.solid qk (and_tt hs).2)))
theorem snd_Replace {o:Expr} {m y z:Str} {apos py pz pos:Pos} {ky kz:Nat} (ih:Sound C d n) (X:Cx d st A F fr) (I:FI F st env B μ fm s)
    (h:grd (m==Str.ofString "replace"&&mthOk o apos [.Constant (.str y) ky py,.Constant (.str z) kz pz] [] pos&&(!st&&fm.tk)) (repR (EvN K0 C n) st fm o y z)=some r):
    wpAny (model prog w0) A (eval (.Call (.Attribute o m apos) [.Constant (.str y) ky py,.Constant (.str z) kz pz] [] pos) env) (EP F st B μ s r) (PostX F fr s r) s:=by
  obtain ⟨hg,h5⟩:=grd_some h;clear h
  obtain ⟨hg0,hst⟩:=and_tt hg;clear hg
  obtain ⟨hm,hg⟩:=and_tt hg0;clear hg0
  obtain rfl:=eq_of_beq hm
  obtain ⟨hg1,g5⟩:=and_tt hg;clear hg
  obtain ⟨hg2,g4⟩:=and_tt hg1;clear hg1
  obtain ⟨hg3,g3⟩:=and_tt hg2;clear hg2
  obtain ⟨r₁,h1,h2,h3⟩:=sub_E h5 ih X I
  refine methodCall_eq (and_tt hg3).1 (and_tt hg3).2 (of_decide_eq_true g3) g4 g5 (seqG (.refl ..) h1 h2 fun p v s' e g g₀ tk q=>?_)
  have I':=I.go g.go tk
  obtain ⟨x,hx,h4⟩:=ask_some (h3 p e);clear e
  obtain ⟨hc,h6⟩:=grd_some h4;clear h4
  obtain ⟨hl,rfl⟩:=strR_some h6;clear h6
  obtain ⟨hc1,c3⟩:=and_tt hc;clear hc
  obtain ⟨c1,c2⟩:=and_tt hc1;clear hc1
  have c2:=of_decide_eq_true c2
  have c3:=of_decide_eq_true c3
  rw [asStr_of hx] at q
  obtain ⟨t,rfl,Z⟩:=q
  refine getMethod_builtin (typeIs_str _ _ _) PySem.F.plainAttrs_str PySem.F.slot_str_replace PySem.F.type_str_replace (fun Z e=>nomatch e) ?_
  refine callWith_ok (F:=F) (.self (.inr (.inl ⟨_,rfl⟩))) (plain_args g4) (plain_kws g5) ?_
  refine wpAny_items_cons (wpAny_Constant_str (wpAny_items_cons (wpAny_Constant_str (wpAny_items_nil ?_))))
  refine wpAny_pure ?_
  have g₂:GoS F st s' { s' with toks:=s'.toks+1+1 }:=GoS.toks
  refine ⟨g₂.go,I'.gi.k,?_⟩
  have htk:=I'.tk (not_tt (and_tt hst).1) (and_tt hst).2
  exact SC.replaceW (s:={ s' with toks:=s'.toks+1+1 }) htk (Nat.succ_ne_zero _) (Nat.ne_of_lt (Nat.lt_succ_self _)) (by rw [← Bool.not_eq_true'];exact c1) (by lia) (by lia) fun t' k=>EP.of (Post.after (g.trans g₂) (ep_str hl fun Z Z e=>e))
end
end Mine
end
section
set_option tactic.hygienic true
open PySem PySem.W PySem.Calls PyProof.Rows
namespace Mine
noncomputable def pvOf:PySem.Value→Option PV
  | .str x _=>some (.str x)
  | .int i _=>some (.int i)
  | _=>none
noncomputable def okPV:PV→Prop
  | .str x=>x.length≤lenLine
  | .int _=>True
  | _=>False
section
variable {B:Addr→Prop} {h:Heap}
theorem vr_simple {p:PV} {v:PySem.Value} (e:pvOf v=some p) (ok:okPV p):VR B h p v:=by
  cases v with
  | str x t=>cases e;exact Exists.intro t ⟨rfl,ok⟩
  | int x t=>cases e;exact Exists.intro t rfl
  | _=>exact nov e
theorem simple_vr {p:PV} {v:PySem.Value} (hs:simple p=true) (x:VR B h p v):pvOf v=some p∧okPV p:=by
  cases p with
  | str=>obtain ⟨t,rfl,hl⟩:=x;exact ⟨rfl,hl⟩
  | int=>obtain ⟨t,rfl⟩:=x;exact ⟨rfl,trivial⟩
  | _=>cases hs
theorem items_simple:∀ {l:List PV} {vs:List PySem.Value},VRs B h l vs→l.all simple=true→∀ (i:Nat) v,vs[i]?=some v→∃ p,l[i]?=some p∧pvOf v=some p∧okPV p
  | [],_,x,_,i,v,e=>by obtain rfl:_=[]:=x;simp at e
  | p::l,_,x,hs,i,v,e=>by
    obtain ⟨v',r,rfl,h1,h2⟩:=x
    rw [List.all_cons,Bool.and_eq_true] at hs
    induction i using Nat.casesOn with
    | zero=>
      simp at e;subst e
      obtain ⟨a,b⟩:=simple_vr hs.1 h1;clear h1
      exact ⟨p,by simp,a,b⟩
    | succ i=>
      obtain ⟨q,a,b⟩:=items_simple h2 hs.2 i v (by simpa using e);clear e
      exact ⟨q,by simpa using a,b⟩
end
section
variable {C:CallSem} {d n:Nat} {A:Around} {F:List Addr} {fr:List Env} {st:Bool} {B:Addr→Prop} {μ:Option Addr} {env:Env} {fm:Fm} {s s':Shared}
theorem FI.keepH (x:FI F st env B μ fm s) (k:∀ b o,s.heap.get? b=some o→s'.heap.get? b=some o) (hk:s.toks≤s'.toks):FI F st env B μ fm s':=by
  have f:=x.go (s':={ s with heap:=s'.heap,toks:=s'.toks }) (Go.of_keeps ⟨s'.heap,s'.toks,rfl,k⟩) hk
  exact ⟨f.gi,f.bd,f.sc,f.kind,f.glo,f.bui,f.nt,f.bl,f.ns,f.cel,f.mu,f.tk,f.code⟩
structure Walk0 (B:Addr→Prop) (l:List PV) (I:Addr) (fp:List Addr) (Pi:Nat→PySem.Value→Prop) (St:Nat→Heap→Prop) (s₁ s₂:Shared):Prop where
  walks:∀ A':Around,A'.handled=none→Walks prog w0 A' I fp [I] l.length Pi St
  st:St 0 s₂.heap
  lt:∀ b∈fp,b < s₂.heap.objs.size
  ex:∀ b∈fp,∃ o,s₂.heap.get? b=some o
  out:∀ b∈fp,b=I∨¬ B b
  new:s₁.heap.get? I=none
  same:∃ o,s₂={ s₁ with heap:=s₁.heap.push o }
  at_:∀ i v,Pi i v→∃ p,l[i]?=some p∧pvOf v=some p∧okPV p
  len:l.length≤lenLine
  stI:∀ i h,St i h→∃ o,h.get? I=some o
theorem size_new (h:Heap):h.get? h.objs.size=none:=by
  induction e:h.get? h.objs.size with
  | none=>rfl
  | some o=>exact absurd (Heap.lt_size e) (Nat.lt_irrefl _)
theorem iter_list {Q:PySem.Value→Shared→Prop} {E:PySem.Value→Shared→Prop} {a:Addr} {l:List PV} {vs:List PySem.Value} (hl:s.heap.IsList a vs.toArray) (hv:VRs B s.heap l vs) (hs:l.all simple=true) (hn:l.length≤lenLine) (hb:¬ B a)
    (q:∀ I fp Pi St s₂,Walk0 B l I fp Pi St s s₂→Q (.ref I) s₂):wpAny (model prog w0) A (pyIter (.ref a)) Q E s:=by
  have hlt:a < s.heap.objs.size:=by obtain ⟨Z,e,Z⟩:=hl;exact Heap.lt_size e
  refine wpAny_pyIter_list hl (q s.heap.objs.size [s.heap.objs.size,a] (fun i v=>vs.toArray[i]?=some v) (fun i h=>h.IsListIter s.heap.objs.size a i∧h.IsList a vs.toArray) _ (Walk0.mk (fun A' hA=>?_) ⟨⟨_,Heap.get?_push_size _ rfl,rfl,rfl⟩,hl.push _⟩ ?_ ?_ ?_ (size_new _) ⟨_,rfl⟩ ?_ hn (fun Z Z x=>⟨_,x.1.choose_spec.1⟩)))
  · have e:vs.toArray.size=l.length:=by rw [List.size_toArray,hv.length]
    rw [← e]
    exact Walks.list hA s.heap.objs.size a (Nat.ne_of_lt hlt) vs.toArray
  · intro b hb
    show b < (s.heap.push _).objs.size
    rw [Heap.size_push]
    rcases List.mem_cons.mp hb with rfl | hb
    · exact Nat.lt_succ_self _
    · rcases List.mem_cons.mp hb with rfl | hb
      · exact Nat.lt_succ_of_lt hlt
      · cases hb
  · intro b hb
    rcases List.mem_cons.mp hb with rfl | hb
    · exact ⟨_,Heap.get?_push_size _ rfl⟩
    · rcases List.mem_cons.mp hb with rfl | hb
      · obtain ⟨o,ho,Z⟩:=hl;exact ⟨o,Heap.get?_push_of_some _ ho⟩
      · cases hb
  · intro b hb'
    rcases List.mem_cons.mp hb' with rfl | hb'
    · exact .inl rfl
    · rcases List.mem_cons.mp hb' with rfl | hb'
      · exact .inr hb
      · cases hb'
  · intro i v e
    exact items_simple hv hs i v (by simpa using e)
theorem iter_tup {Q:PySem.Value→Shared→Prop} {E:PySem.Value→Shared→Prop} {a:Addr} {l:List PV} {vs:List PySem.Value} (hl:s.heap.IsTuple a vs.toArray) (hv:VRs B s.heap l vs) (hs:l.all simple=true) (hn:l.length≤lenLine) (hb:¬ B a)
    (q:∀ I fp Pi St s₂,Walk0 B l I fp Pi St s s₂→Q (.ref I) s₂):wpAny (model prog w0) A (pyIter (.ref a)) Q E s:=by
  have hlt:a < s.heap.objs.size:=by obtain ⟨Z,e,Z⟩:=hl;exact Heap.lt_size e
  refine wpAny_pyIter_tuple hl (q s.heap.objs.size [s.heap.objs.size,a] (fun i v=>vs.toArray[i]?=some v) (fun i h=>h.IsTupleIter s.heap.objs.size a i∧h.IsTuple a vs.toArray) _ (Walk0.mk (fun A' hA=>?_) ⟨⟨_,Heap.get?_push_size _ rfl,rfl,rfl⟩,hl.push _⟩ ?_ ?_ ?_ (size_new _) ⟨_,rfl⟩ ?_ hn (fun Z Z x=>⟨_,x.1.choose_spec.1⟩)))
  · have e:vs.toArray.size=l.length:=by rw [List.size_toArray,hv.length]
    rw [← e]
    exact Walks.tuple hA s.heap.objs.size a (Nat.ne_of_lt hlt) vs.toArray
  · intro b hb
    show b < (s.heap.push _).objs.size
    rw [Heap.size_push]
    rcases List.mem_cons.mp hb with rfl | hb
    · exact Nat.lt_succ_self _
    · rcases List.mem_cons.mp hb with rfl | hb
      · exact Nat.lt_succ_of_lt hlt
      · cases hb
  · intro b hb
    rcases List.mem_cons.mp hb with rfl | hb
    · exact ⟨_,Heap.get?_push_size _ rfl⟩
    · rcases List.mem_cons.mp hb with rfl | hb
      · obtain ⟨o,ho,Z⟩:=hl;exact ⟨o,Heap.get?_push_of_some _ ho⟩
      · cases hb
  · intro b hb'
    rcases List.mem_cons.mp hb' with rfl | hb'
    · exact .inl rfl
    · rcases List.mem_cons.mp hb' with rfl | hb'
      · exact .inr hb
      · cases hb'
  · intro i v e
    exact items_simple hv hs i v (by simpa using e)
theorem walk_str {x:PySem.Str} {t:Tok} {T:String} (hn:x.length≤lenLine) (hW:∀ A':Around,A'.handled=none→Walks prog w0 A' s.heap.objs.size [s.heap.objs.size] [s.heap.objs.size] x.cps.size (SignAt x) (fun i h=>h.IsStrIter s.heap.objs.size T x t i)):
    Walk0 B (x.cps.toList.map fun c=>.str ⟨#[c]⟩) s.heap.objs.size [s.heap.objs.size] (SignAt x) (fun i h=>h.IsStrIter s.heap.objs.size T x t i) s { s with heap:=s.heap.push { cls:=.type T,data:=.fields #[.str x t,.int 0 0] } }:=by
  refine Walk0.mk (fun A' hA=>?_) ⟨_,Heap.get?_push_size _ rfl,rfl,rfl⟩ ?_ ?_ ?_ (size_new _) ⟨_,rfl⟩ ?_ (by rw [List.length_map,Array.length_toList];exact hn) (fun Z Z x=>⟨_,x.choose_spec.1⟩)
  · have:=hW A' hA
    rw [List.length_map,Array.length_toList];exact this
  · intro b hb
    show b < (s.heap.push _).objs.size
    rw [Heap.size_push]
    rcases List.mem_cons.mp hb with rfl | hb
    · exact Nat.lt_succ_self _
    · cases hb
  · intro b hb
    rcases List.mem_cons.mp hb with rfl | hb
    · exact ⟨_,Heap.get?_push_size _ rfl⟩
    · cases hb
  · intro b hb
    rcases List.mem_cons.mp hb with rfl | hb
    · exact .inl rfl
    · cases hb
  · rintro i v ⟨c,u,e,rfl⟩
    refine ⟨.str ⟨#[c]⟩,?_,rfl,?_⟩
    · rw [List.getElem?_map,Array.getElem?_toList,e];rfl
    · show (1:Nat)≤lenLine;decide
theorem iter_str {Q:PySem.Value→Shared→Prop} {E:PySem.Value→Shared→Prop} {x:PySem.Str} {t:Tok} (hn:x.length≤lenLine)
    (q:∀ I fp Pi St s₂,Walk0 B (x.cps.toList.map fun c=>.str ⟨#[c]⟩) I fp Pi St s s₂→Q (.ref I) s₂):wpAny (model prog w0) A (pyIter (.str x t)) Q E s:=by
  cases ha:x.cps.all (· < 128)
  · exact wpAny_pyIter_wide ha (q _ _ _ _ _ (walk_str hn fun A' hA=>Walks.strWide hA _ x t))
  · exact wpAny_pyIter_ascii ha (q _ _ _ _ _ (walk_str hn fun A' hA=>Walks.strAscii hA _ x t))
theorem iter_range {Q:PySem.Value→Shared→Prop} {E:PySem.Value→Shared→Prop} {i:Int} {t:Tok} (h0:0≤i) (hi:i≤1000)
    (q:∀ o₁ k I fp Pi St s₂,Walk0 B (rangeL i) I fp Pi St { s with heap:=s.heap.push o₁,toks:=k } s₂→s.toks≤k→Q (.ref I) s₂):
    wpAny (model prog w0) A (call (.type "range") [.int i t]) (fun xv s₁=>wpAny (model prog w0) A (pyIter xv) Q E s₁) E s:=by
  refine call_range_1 ?_
  have hr:IsRange (s.heap.push { cls:=.type "range",data:=.fields #[.int 0 s.toks,.int i t,.int 1 (s.toks+1)] }) s.heap.objs.size 0 i 1 s.toks t (s.toks+1):=IsRange.new ..
  have q:=q { cls:=.type "range",data:=.fields #[.int 0 s.toks,.int i t,.int 1 (s.toks+1)] } (s.toks+1+1)
  generalize s.heap.push { cls:=.type "range",data:=.fields #[.int 0 s.toks,.int i t,.int 1 (s.toks+1)] }=h₁ at *
  refine wpAny_pyIter_range hr (small_one (by decide) (by decide) (by lia) (by lia)) ?_
  have hsz:Builtin.Range.rangeSize 0 i 1=(i.toNat:Int):=by rw [rangeSize_one];split<;>lia
  have hlen:(rangeL i).length=i.toNat:=by unfold rangeL;rw [List.length_map,List.length_range]
  refine q h₁.objs.size [h₁.objs.size] (fun j v=>j < i.toNat∧∃ t,v=.int (0+j*1) t) (fun j h=>IsRangeIter h h₁.objs.size (0+(j:Nat)*1) ((i.toNat:Int) - (j:Nat)) 1) _ (Walk0.mk (fun A' hA=>?_) ?_ ?_ ?_ ?_ (size_new _) ⟨_,rfl⟩ ?_ (by rw [hlen];unfold lenLine;lia) (fun Z Z x=>⟨_,x⟩)) (by lia)
  · rw [hlen];exact (Walks.range hA _ 0 1 i.toNat).bound
  · have e1:(0+((0:Nat):Int)*1)=0:=by simp
    have e2:((i.toNat:Int) - ((0:Nat):Int))=Builtin.Range.rangeSize 0 i 1:=by rw [hsz];simp
    rw [e1,e2]
    exact Heap.get?_push_size _ rfl
  · intro b hb
    rcases List.mem_cons.mp hb with rfl | hb
    · rw [Heap.size_push];exact Nat.lt_succ_self _
    · cases hb
  · intro b hb
    rcases List.mem_cons.mp hb with rfl | hb
    · exact ⟨_,Heap.get?_push_size _ rfl⟩
    · cases hb
  · intro b hb
    rcases List.mem_cons.mp hb with rfl | hb
    · exact .inl rfl
    · cases hb
  · rintro j v ⟨hj,u,rfl⟩
    refine ⟨.int j,?_,?_,trivial⟩
    · unfold rangeL;simp [hj]
    · show some (PV.int (0+(j:Int)*1))=some (PV.int j)
      simp
end
end Mine
end
section
open PySem PySem.W PySem.Calls PyProof.Rows
namespace Mine
section
variable {C:CallSem} {d n:Nat} {A:Around} {F:List Addr} {fr:List Env} {st:Bool} {B:Addr→Prop} {μ:Option Addr} {env:Env} {fm:Fm} {s s':Shared}
theorem items_of {E Q:Value→Shared→Prop} {p:PV} {v:Value} {l:List PV} (h:itemsOf p=some l) (hs:l.all simple=true) (q:VV B s.heap μ p v) (k:∀ I fp Pi St s₂,Walk0 B l I fp Pi St s s₂→Q (.ref I) s₂):wpAny (model prog w0) A (pyIter v) Q E s:=by
  induction p using PV.casesOn with
  | list=>cases h;obtain ⟨a,vs,rfl,hb,hl,hn,hv⟩:=q;exact iter_list hl hv hs hn hb k
  | tup=>cases h;obtain ⟨a,vs,rfl,hb,hl,hn,hv⟩:=q;exact iter_tup hl hv hs hn hb k
  | str=>cases h;obtain ⟨t,rfl,hn⟩:=q;exact iter_str hn k
  | _=>exact nov h
theorem isTyp_of {t:String} {v:Option PV} (h:isTyp t v=true):v=some (.glob (.type t)):=by
  induction v with
  | none=>exact nof h
  | some p=>induction p using PV.casesOn with
    | glob u=>cases u with
      | type x=>rw [beq_iff_eq.mp (show (x==t)=true from h)]
      | _=>exact nof h
    | _=>exact nof h
inductive OneOf {α β:Type} (vs:List α) (f:α→Option β) (r:β):Prop
  | mk (a:α) (e:vs=[a]) (h:f a=some r)
theorem one_arg {vs:List PV} {r:Res (List PV)} (h:(match vs with | [a]=>rangeV a | _=>none)=some r):OneOf vs rangeV r:=match vs,h with
  | [],h=>nov h
  | [a],h=>⟨a,rfl,h⟩
  | _::_::_,h=>nov h
theorem iter_ok {e:Expr} {r:Res (List PV)} {s₀:Shared} {γ:Type} {rr:Res γ} {Q:Value→Shared→Prop} (ih:Sound C d n) (X:Cx d st A F fr) (I:FI F st env B μ fm s) (g₀:GoS F st s₀ s) (h:iterE K0 C (n+1) st fm e=some r) (hx:r=.exc→rr=.exc)
    (q:∀ l I fp Pi St s₁ s₂,r=.ok l→GoS F st s s₁→GoS F st s₀ s₁→s.toks≤s₁.toks→FI F st env B μ fm s₁→Walk0 B l I fp Pi St s₁ s₂→Q (.ref I) s₂):
    wpAny (model prog w0) A (eval e env) (fun xv s₁=>wpAny (model prog w0) A (pyIter xv) Q (PostX F fr s₀ rr) s₁) (PostX F fr s₀ rr) s:=by
  have h:(match fnK (kindE e) with
    | some q=>grd (isTyp "range" (nameE K0 fm q.f)&&q.kws.isEmpty&&q.args.all notStar) (rbind (evalEs K0 C n st fm q.args) fun vs=>match vs with
      | [a]=>rangeV a
      | _=>none)
    | none=>rbind (evalE K0 C n st fm e) itemsR)=some r:=h
  revert h
  induction hf:fnK (kindE e) with
  | some v=>
    obtain ⟨f,args,kws,fp,pos,rfl⟩:=v
    intro h
    obtain ⟨hc,h5⟩:=grd_some h;clear h
    obtain ⟨hc1,hs⟩:=and_tt hc;clear hc
    obtain ⟨hf,hk⟩:=and_tt hc1;clear hc1
    induction kws using List.casesOn with
    | cons=>exact nof hk
    | nil=>
    refine wpAny_Call_Name_kw (wpAny_mono (wpAny_toks (name_ok (st:=st) (E:=PostX F fr s₀ rr) I (isTyp_of hf))) (fun fv s₁ z1=>?_) fun Z Z z=>z.2)
    obtain ⟨tk,g,p,e,qf⟩:=z1
    cases e
    obtain rfl:=qf
    have I₁:=I.go g.go tk
    obtain ⟨r₁,h1,h2,h3⟩:=rbind_first h5;clear h5
    refine callWith_ok (F:=F) (.self (.inr (.inr ⟨_,rfl⟩))) (plain_args hs) rfl ?_
    refine seqG (g₀.trans g) (ih.ES X I₁ h1) (fun e=>hx (h2 e)) fun ps vs s₂ e g₂ g₂' tk₂ q₂=>wpAny_pure ⟨g₂.go,(I₁.go g₂.go tk₂).gi.k,?_⟩
    have I₂:=I₁.go g₂.go tk₂
    obtain ⟨p,rfl,h4⟩:=one_arg (h3 ps e);clear e
    obtain ⟨v,rfl,qi⟩:=q₂.one rfl
    cases p with
    | int i=>
      obtain ⟨hi,h6⟩:=grd_some h4;clear h4
      have e4:=rok_some h6
      obtain ⟨t,rfl⟩:=qi
      refine iter_range (B:=B) (of_decide_eq_true (and_tt hi).1) (of_decide_eq_true (and_tt hi).2) fun o₁ k I fp Pi St s₃ W tk₃=>?_
      have g₃:GoS F st s₂ { s₂ with heap:=s₂.heap.push o₁,toks:=k }:=GoS.heap (keep_push _)
      exact q _ _ _ _ _ _ _ e4 ((g.trans g₂).trans g₃) (g₂'.trans g₃) (Nat.le_trans tk (Nat.le_trans tk₂ tk₃)) (I₂.go g₃.go tk₃) W
    | _=>exact nov h4
  | none=>
    intro h
    obtain ⟨r₁,h1,h2,h3⟩:=sub_E h ih X I
    refine seqG g₀ h1 (fun e=>hx (h2 e)) fun p v s₁ e g g₁ tk qv=>?_
    obtain ⟨l,hl,h4⟩:=ask_some (h3 p e);clear e
    obtain ⟨hs,h7⟩:=grd_some h4;clear h4
    exact items_of hl hs qv fun I' fp Pi St s₂ W=>q _ _ _ _ _ _ _ (rok_some h7) g g₁ tk (I.go g.go tk) W
end
end Mine
end
section
open PySem PySem.W PySem.Calls PyProof.Rows
namespace Mine
theorem okOf_of {α:Type} {r:R α} {a:α} (h:okOf r=some a):r=some (.ok a):=match r,h with
  | some (.ok _),h=>by cases h;rfl
  | some .exc,h=>nov h
  | none,h=>nov h
theorem lk_one {x y:Str} {p u:PV} (e:([(x,p)]:List (Str×PV)).lookup y=some u):y=x∧u=p:=by
  rw [List.lookup_cons] at e
  induction hk:y==x with
  | true=>rw [hk] at e;cases e;exact ⟨beq_iff_eq.mp hk,rfl⟩
  | false=>rw [hk] at e;cases e
theorem plainIter_fold {env:Env} {iter:PySem.Expr} (h:plainIter iter=true) (x:PySem.Value):foldedSetIterable iter env x=pure x:=by
  induction iter using PySem.Expr.casesOn<;>first | rfl | cases h
end Mine
end
section
set_option tactic.hygienic true
open PySem PySem.W PySem.Calls PyProof.Rows
namespace Mine
section
variable {C:CallSem} {d n:Nat} {A:Around} {F:List Addr} {fr:List Env} {st:Bool} {B:Addr→Prop} {μ:Option Addr} {env:Env} {fm:Fm} {s s':Shared}
theorem tab_grow {h h':Heap} {c P:Addr} {ps more:Array PySem.Value} (t:TabI h) (hx:Heap.ExtBut P h h') (h1:h'.IsCode c P (ps++more)) (h2:h'.TableAt c P (ps++more)) (h0:h.TableAt c P ps):TabI h':=fun p hp=>by
  obtain ⟨qs,a,b⟩:=t p hp;clear hp
  have hne:p.1≠P:=fun e=>by
    obtain ⟨⟨o,vs,ho,hc,Z⟩,Z⟩:=b
    rw [e,h0.2] at ho;cases ho;cases hc
  by_cases e:p.2=P
  · refine ⟨ps++more,?_,?_⟩
    · obtain ⟨o,vs,file,tf,flags,tg,inF,text,tt,op,ho,hd,h11,h18,h7,h9,h10,hop,hpd,htr,hn⟩:=a
      obtain ⟨Z,Z,Z,Z,Z,Z,Z,Z,Z,op',Z,Z,Z,Z,Z,Z,Z,hop',hpd',htr',Z⟩:=h1
      exact ⟨o,vs,file,tf,flags,tg,inF,text,tt,op',hx _ _ hne ho,hd,h11,h18,h7,h9,h10,by rw [e];exact hop',hpd',htr',hn⟩
    · obtain ⟨⟨o,vs,ho,hc,hd,h11⟩,Z⟩:=b
      exact ⟨⟨o,vs,hx _ _ hne ho,hc,hd,h11⟩,by rw [e];exact h2.2⟩
  · exact ⟨qs,a.extBut hx hne e,b.extBut hx hne e⟩
theorem gcode_ok {E:PySem.Value→Shared→Prop} {Q:PySem.Value→Shared→Prop} {pos:Pos} {qn:PySem.Str} {sc:Scope} {M:Model} (I:FI F false env B μ fm s) (hc:codeHere fm=true) (q:∀ c' s',GoS F false s s'→s.toks≤s'.toks→Q c' s'):
    wpAny M A (genexprCode env pos qn sc) Q E s:=by
  induction hr:refV fm.code with
  | none=>unfold codeHere at hc;rw [hr] at hc;exact nof hc
  | some c=>
    unfold codeHere at hc
    rw [hr] at hc
    have hcode:env.code=.ref c:=by rw [I.code rfl,refV_of hr]
    obtain ⟨P,hP⟩:=I.gi.codes c (List.contains_iff_mem.mp hc);clear hc
    obtain ⟨ps,a,b⟩:=I.gi.tab _ hP
    dsimp only at a b
    induction hf:codeAmong pos ps.toList with
    | some c'=>exact wpAny_genexprCode_hit hcode a hf (q _ _ (.refl ..) (Nat.le_refl _))
    | none=>
      refine wpAny_with_toks (n:=s.toks) (Nat.le_refl _) (wpAny_genexprCodeX hcode a b hf fun c' h' tk hx hc1 hc2 h1 Z h2 Z htk=>q _ _ ?_ htk)
      have isP:isT P:=⟨_,hP,rfl⟩
      show Go F s { s with heap:=h',toks:=tk }
      refine ⟨⟨fun x o ho ht hF=>hx x o (fun e=>ht (e▸isP)) ho,fun x qs ht ho=>?_,fun x o hF ho Z=>?_⟩,fun t=>tab_grow t hx h1 h2 b,rfl,fun Z Z e=>e,id⟩
      · by_cases e:x=P
        · subst e
          rw [b.2] at ho;cases ho
          exact ⟨_,h2.2⟩
        · exact ⟨#[],by rw [Array.append_empty];exact hx x _ e ho⟩
      · have hne:x≠P:=fun e=>by
          obtain ⟨Z,Z,Z,h4,Z⟩:=I.gi.apartF _ hF;clear hF
          exact h4 (e▸isP)
        exact ⟨o.slots,hx x o hne ho⟩
theorem gbuilt_ok {E:PySem.Value→Shared→Prop} {Q:Addr→Shared→Prop} {M:Model} (G:GI F s.heap) (hm:modIn K0=true) {globals running:Addr} (hg:globals=mainGlobals) (q:Q builtinsNs s):wpAny M A (builtinsFor globals running) Q E s:=by
  subst hg
  obtain ⟨u,hm1⟩:=Option.isSome_iff_exists.mp hm;clear hm
  obtain ⟨bm,hb,h⟩:=ask_some hm1;clear hm1
  obtain ⟨h1,h2⟩:=grd_some h;clear h
  obtain ⟨o,ho,h3⟩:=ask_some h2;clear h2
  obtain ⟨h4,Z⟩:=grd_some h3;clear h3
  obtain ⟨oc,dd,dt,sl⟩:=o
  obtain ⟨h5,h6⟩:=and_tt h4;clear h4
  obtain ⟨h8,h7⟩:=and_tt h6;clear h6
  obtain rfl:=(beq_iff_eq.mp h5:oc=_)
  obtain rfl:=(beq_iff_eq.mp h8:dd=_)
  induction dt with
  | plain=>
    unfold builtinsFor
    refine wpAny_bind ((looks_nsIn G.k (refO_of hb)).here ?_)
    dsimp only
    rw [if_neg (by simpa using h1)]
    exact wpAny_bind (wpAny_load (G.k _ _ ho) (wpAny_pure q))
  | _=>exact nof h7
end
end Mine
end
section
open PySem PySem.W PySem.Calls PyProof.Rows
namespace Mine
section
variable {C:CallSem} {d n:Nat} {A:Around} {F:List Addr} {fr:List Env} {st:Bool} {B:Addr→Prop} {μ:Option Addr} {env:Env} {fm:Fm} {s s':Shared}
theorem genScope_facts {sc:Scope} {x:PySem.Str} (h:genScope sc x=true):sc.isCoroutine=false∧sc.kind=.function∧sc.names.lookup x=some .local∧sc.names.lookup (Str.ofString ".0")=some .local∧(∀ y∈sc.names,y.2≠.cell)∧∀ y∈sc.names,y.2≠.free:=by
  simp only [genScope,Bool.and_eq_true,beq_iff_eq,Bool.not_eq_true'] at h
  obtain ⟨⟨⟨⟨h1,h2⟩,h3⟩,h4⟩,h5⟩:=h
  have key:∀ y∈sc.names,(y.2 != .cell&&y.2 != .free)=true:=fun y hy=>List.all_eq_true.mp h5 y hy
  refine ⟨h1,h2,h3,h4,fun y hy e=>?_,fun y hy e=>?_⟩
  · have:=key y hy;rw [e] at this;simp at this
  · have:=key y hy;rw [e] at this;simp at this
theorem gen_FI {sc:Scope} {x:PySem.Str} {Ca:Addr} {v code:PySem.Value} {p:PV} {m₃:PySem.Str→Option PySem.Value} (hs:genScope sc x=true) (I:FI F st env B μ fm s) (e:Ext F s.heap s'.heap) (t:TabI s'.heap)
    (hC:s.heap.get? Ca=none) (hn:s'.heap.Ns Ca m₃) (hm:m₃ x=some v) (hp:pvOf v=some p) (ok:okPV p):
    FI F true (genEnv sc [] Ca code builtinsNs env) (fun b=>B b∨b=Ca) none (genFm sc x p) s':=by
  obtain ⟨f0,f1,f2,f3,f4,f5⟩:=genScope_facts hs;clear hs
  have hT:¬ isT Ca:=fun h=>by obtain ⟨o,ho⟩:=I.bd.ex _ (I.bd.t _ h);rw [hC] at ho;cases ho
  have G':GI F s'.heap:=I.gi.ext e t
  have ex:∀ b,B b→∃ o,s'.heap.get? b=some o:=fun b hb=>e.there t (fun b hb=>(I.gi.apartF b hb).ex) (I.bd.ex b hb)
  refine ⟨G',⟨fun b h=>.inl (I.bd.t b h),fun b h=>.inl (I.bd.f b h),fun b h=>?_⟩,rfl,f1,I.glo,rfl,hT,.inr rfl,⟨m₃,hn,fun y u e=>?_⟩,(fun y u e=>by cases e),rfl,(fun e=>by cases e),fun e=>by cases e⟩
  · rcases h with h | rfl
    · exact ex b h
    · obtain ⟨o,es,ep,ho,Z⟩:=hn;exact ⟨o,ho⟩
  · obtain ⟨rfl,rfl⟩:=lk_one e;exact ⟨v,hm,VV.of (vr_simple hp ok)⟩
theorem passing_all (n:Nat):passing (fun Z=>true) n 0=List.range n:=by
  unfold passing;rw [List.drop_zero,List.filter_eq_self.mpr fun Z Z=>rfl]
theorem ext_on {h h' h'':Heap} (e:Ext F h h') (t:TabI h) (t':TabI h') (f:∀ b∈F,∃ o,h.get? b=some o∧∀ vs,o.data≠.fields vs) (k:∀ b o,(∃ o',h.get? b=some o')→h'.get? b=some o→h''.get? b=some o):Ext F h h''∧TabI h'':=by
  refine ⟨⟨fun b o ho ht hf=>k b o ⟨o,ho⟩ (e.keep b o ho ht hf),fun b ps ht ho=>?_,fun b o hf ho hn=>?_⟩,fun p hp=>?_⟩
  · obtain ⟨m,hm⟩:=e.grow b ps ht ho
    exact ⟨m,k b _ ⟨_,ho⟩ hm⟩
  · obtain ⟨sl,hs⟩:=e.fr b o hf ho hn;clear hn
    exact ⟨sl,k b _ ⟨_,ho⟩ hs⟩
  · obtain ⟨ps,a,b⟩:=t' p hp
    obtain ⟨ps0,a0,b0⟩:=t p hp;clear hp
    have ec:∃ o',h.get? p.1=some o':=let ⟨⟨o,vs,ho,_⟩,_⟩:=b0;⟨o,ho⟩
    exact ⟨ps,isCode_at a (fun o=>k _ o ec) (fun o=>k _ o ⟨_,b0.2⟩),tableAt_at b (fun o=>k _ o ec) (fun o=>k _ o ⟨_,b0.2⟩)⟩
theorem gen_new {h₁:Heap} {Ia:Addr} (W:h₁.get? Ia=none) (b:Addr) (h:∃ o,h₁.get? b=some o):b≠Ia:=fun e=>by
  obtain ⟨o,h⟩:=h
  rw [e,W] at h;cases h
theorem gen_elt {elt:Expr} {x:Str} {scope:Scope} {A':Around} {E':Value→Shared→Prop} {Ia Ca:Addr} {code v:Value} {p:PV} {mx:Str→Option Value} {s₁ s₃ sx:Shared} (ih:Sound C d n) (X:Cx d false A F fr) (hgs:genScope scope x=true) (I₁:FI F false env B μ fm s₁) (ext13:Ext F s₁.heap s₃.heap) (t3:TabI s₃.heap) (W:s₁.heap.get? Ia=none)
    {w':PV} (c1:evalE K0 C n true (genFm scope x p) elt=some (.ok w')) (a2:pvOf v=some p) (a3:okPV p) (hA:A'.handled=none) (hD:A'.depth≤A.depth+1) (hU:A'.units≤A.units+8) (hn:sx.heap.Ns Ca mx) (hm:mx x=some v) (hC:s₃.heap.objs.size≤Ca)
    (hk:∀ b o,b∉[Ia]→s₃.heap.get? b=some o→sx.heap.get? b=some o):
    wpAny (model prog w0) A' (eval elt (genEnv scope [] Ca code builtinsNs env)) (fun y s₄=>(∀ o,w'=.str o→∃ tk,y=.str o tk)∧Keeps sx s₄) E' sx:=by
  have hCn:s₁.heap.get? Ca=none:=by
    induction e:s₁.heap.get? Ca with
    | none=>rfl
    | some o=>obtain ⟨o',h'⟩:=ext13.there t3 (fun b hb=>(I₁.gi.apartF b hb).ex) ⟨o,e⟩;exact absurd (Nat.lt_of_lt_of_le (Heap.lt_size h') hC) (Nat.lt_irrefl _)
  obtain ⟨ex,tx⟩:=ext_on (h'':=sx.heap) ext13 I₁.gi.tab t3 (fun b hb=>(I₁.gi.apartF b hb).ex) fun b o hs1 ho=>hk b o (fun hb=>by
    rcases List.mem_cons.mp hb with rfl | hb
    · exact gen_new W _ hs1 rfl
    · cases hb) ho
  have Ix:=gen_FI (s:=s₁) (s':=sx) (code:=code) hgs I₁ ex tx hCn hn hm a2 a3
  have u1:A.units+100*d+60≤9000:=X.units'
  have u2:A.depth+20*d+10≤900:=X.depth'
  have d1:A'.depth+20*d≤900:=by lia
  have u3:A'.units+100*d+20≤9000:=by lia
  exact wpAny_mono (ih.E (st:=true) ⟨⟨hA,d1,Nat.le_trans (Nat.le_add_right _ _) u3,(fun e=>nomatch e),X.fk,X.fa⟩,d1,u3⟩ Ix c1) (fun Z Z z1=>by
    obtain ⟨g,p,e,q⟩:=z1
    cases e
    refine ⟨fun o eo=>?_,g⟩
    rw [eo] at q
    obtain ⟨tk,rfl,Z⟩:=q
    exact ⟨tk,rfl⟩) fun x s' y=>nomatch y.1
theorem gen_moved {wr:List Addr} {Ia:Addr} {gs:GenState} {h₅:Heap} {tk:Tok} {s₁ s₃ s':Shared} (I:FI F false env B μ fm s) (g:Go F s s₁) (t1:TabI s₁.heap) (t3:TabI s₃.heap) (ext13:Ext F s₁.heap s₃.heap) (go3:s₃.os=s₁.os) (gg:∀ (i:Nat) x,s₁.gens[i]?=some x→s₃.gens[i]?=some x) (gb:AllBare s₁.gens→AllBare s₃.gens) (W:s₁.heap.get? Ia=none)
    (hk5:∀ b o,s₃.heap.get? b=some o→h₅.get? b=some o) (htk:s.toks≤tk) (hbare:gs.bare=true) (hwr:∀ b∈wr,b=s₃.heap.objs.size∨b=Ia)
    (M:Moved wr (GenOnlyQ s₃.gens.size) { s₃ with heap:=h₅,toks:=tk,gens:=s₃.gens.push gs } s'):GoS F false s s'∧s.toks≤s'.toks:=by
  have fF:∀ b∈F,∃ o,s.heap.get? b=some o∧∀ vs,o.data≠.fields vs:=fun b hb=>(I.gi.apartF b hb).ex
  obtain ⟨ex,tx⟩:=ext_on (h'':=s'.heap) (g.ext.trans ext13) I.gi.tab t3 fF fun b o hs0 ho=>M.heap b o (fun hb=>by
    rcases hwr b hb with rfl | rfl
    · exact absurd (Heap.lt_size ho) (Nat.lt_irrefl _)
    · exact gen_new W _ (g.ext.there t1 fF hs0) rfl) (hk5 b o ho)
  refine ⟨⟨ex,fun Z=>tx,M.os.trans (go3.trans g.os),fun j gj hj=>?_,fun hb=>?_⟩,Nat.le_trans htk M.toks⟩
  · have h3:s₃.gens[j]?=some gj:=gg j gj (g.gens j gj hj)
    have hj3:j < s₃.gens.size:=(Array.getElem?_eq_some_iff.mp h3).1
    have h5:(s₃.gens.push gs)[j]?=some gj:=by rw [Array.getElem?_push,if_neg (Nat.ne_of_lt hj3)];exact h3
    rcases M.gens with he | ⟨⟨Z,ho⟩,Z⟩
    · rw [he];exact h5
    · rw [ho j (Nat.ne_of_lt hj3)];exact h5
  · refine GenOnlyQ.bare M.gens fun y hy=>?_
    rcases Array.mem_push.mp hy with h | h
    · exact gb (g.bare hb) y h
    · subst h;exact hbare
inductive GenF (e:PV→R PV) (l:List PV) (i:Nat) (y:Value):Prop
  | mk (p w:PV) (h1:l[i]?=some p) (h2:e p=some (.ok w)) (h3:∀ o,w=.str o→∃ tk,y=.str o tk)
theorem gen_ok {elt iter:Expr} {x:Str} {px pos:Pos} {scope:Scope} {r₁:Res (List PV)} {γ:Type} {rr:Res γ} {s₀:Shared} {Q:Value→Shared→Prop} (ih:∀ m,m≤n→Sound C d m) (X:Cx d false A F fr) (I:FI F false env B μ fm s) (g₀:GoS F false s₀ s)
    (hg:(genScope scope x&&plainIter iter&&codeHere fm&&modIn K0)=true) (h1:iterE K0 C n false fm iter=some r₁) (hx:r₁=.exc→rr=.exc)
    (k:∀ l,r₁=.ok l→∀ p∈l,∃ w,evalE K0 C n true (genFm scope x p) elt=some (.ok w))
    (q:∀ (l:List PV) a fp wr g (Pi:Nat→Value→Prop) St s₅,r₁=.ok l→WalksS prog w0 A.in4 a fp wr (GenOnlyQ g) l.length Pi St→(∀ j y,Pi j y→GenF (fun u=>evalE K0 C n true (genFm scope x u) elt) l j y)→St 0 s₅→(∀ b∈fp,b < s₅.heap.objs.size)→a∈fp→(∀ i s',St i s'→s'.TypeIs (.ref a) "generator")→l.length≤lenLine →
      (∀ s',Moved wr (GenOnlyQ g) s₅ s'→GoS F false s s'∧s.toks≤s'.toks)→Q (.ref a) s₅):
    wpAny (model prog w0) A (eval (.GeneratorExp elt [⟨.Name x px,iter,[],0⟩] scope pos) env) Q (PostX F fr s₀ rr) s:=by
  obtain ⟨hg1,hmod⟩:=and_tt hg;clear hg
  obtain ⟨hg2,hch⟩:=and_tt hg1;clear hg1
  obtain ⟨hgs,hpl⟩:=and_tt hg2;clear hg2
  obtain ⟨f0,f1,f2,f3,f4,f5⟩:=genScope_facts hgs
  induction n using Nat.casesOn with
  | zero=>exact nov h1
  | succ n=>
  refine wpAny_with_toks (n:=s.toks) (Nat.le_refl _) ?_
  refine wpAny_mono (Q:=fun v s'=>s.toks≤s'.toks→Q v s') (E:=PostX F fr s₀ rr) ?_ (fun Z Z z=>z) fun Z Z z Z=>z
  refine wpAny_GeneratorExp_walksQD X.handled f0 (closureFor_none f5) f4 f3 f2 f1 X.room (iter_ok (ih n (Nat.le_succ n)) X I g₀ h1 hx fun l Ia fp Pi St s₁ s₂ e g Z Z I₁ W=>?_) (fun v=>by unfold genFold;cases iter<;>first | rfl | exact nof hpl)
  obtain ⟨ob,rfl⟩:=W.same
  have k12:∀ b o,s₁.heap.get? b=some o→(s₁.heap.push ob).get? b=some o:=fun b o e=>Heap.get?_push_of_some _ e
  have I₂:FI F false env B μ fm { s₁ with heap:=s₁.heap.push ob }:=I₁.keepH k12 (Nat.le_refl _)
  refine ⟨I₂.gi.lim,gcode_ok I₂ hch fun c' s₃ g₃ tk₃=>gbuilt_ok (I₂.go g₃ tk₃).gi hmod I.glo ?_⟩
  have t3:=(I₂.go g₃ tk₃).gi.tab
  have keepFp:∀ b∈fp,∀ o,(s₁.heap.push ob).get? b=some o→s₃.heap.get? b=some o:=fun b hb o ho=>by
    refine g₃.ext.keep b o ho (fun ht=>?_) (fun hf=>?_)<;>rcases W.out b hb with e | e
    · exact gen_new W.new b (I₁.bd.ex _ (I₁.bd.t _ ht)) e
    · exact e (I₁.bd.t _ ht)
    · exact gen_new W.new b (I₁.bd.ex _ (I₁.bd.f _ hf)) e
    · exact e (I₁.bd.f _ hf)
  have ext13:Ext F s₁.heap s₃.heap:=(Ext.of_keeps k12).trans g₃.ext
  refine ⟨Ia,fp,[Ia],l.length,Pi,St,fun Z=>true,GenF (fun u=>evalE K0 C (n+1) true (genFm scope x u) elt) l,rfl,W.walks,(W.walks A X.handled).frame 0 _ _ W.st keepFp,(fun b hb=>?_),(I₂.go g₃ tk₃).gi.lim,(fun hm=>?_),(fun href hk3=>⟨fun A' E' i v sx mx Z Z Z Z Z Z Z=>wpAny_pure ⟨rfl,Keeps.refl _⟩,fun A' E' i v sx mx hA hD hU hP Z hn hm hkx=>?_⟩),fun a h₅ tk gs hbare hlt hsz hk5 WS hst htk=>?_⟩
  · obtain ⟨o,ho⟩:=W.ex b hb
    exact Heap.lt_size (keepFp b hb o ho)
  · rcases List.mem_cons.mp hm with h | h
    · obtain ⟨mc,⟨o,es,ep,ho,Z⟩,Z⟩:=I₁.gi.dig
      exact gen_new W.new _ ⟨o,ho⟩ h
    · cases h
  · obtain ⟨p,a1,a2,a3⟩:=W.at_ i v hP;clear hP
    obtain ⟨w',c1⟩:=k l e p (List.mem_of_getElem? a1)
    exact wpAny_mono (gen_elt (ih (n+1) (Nat.le_refl _)) X hgs I₁ ext13 t3 W.new c1 a2 a3 hA hD hU hn hm (Nat.le_refl _) fun b o hb ho=>hkx b (List.mem_range.mpr (Heap.lt_size ho)) hb o (hk3 b o ho)) (fun Z Z y=>⟨⟨p,w',a1,c1,y.1⟩,y.2⟩) fun Z Z y=>y
  · rw [passing_all,List.length_range] at WS
    refine q l a _ _ _ _ _ _ e WS (fun j y z=>by
      obtain ⟨i,hi,hF⟩:=z
      obtain ⟨Z,h2⟩:=List.getElem?_eq_some_iff.mp hi
      rw [List.getElem_range] at h2
      rw [h2];exact hF) hst (fun b hb=>?_) (List.mem_cons_self ..) (fun i s' h=>h.1.typeIs) W.len fun s' M=>gen_moved (wr:=_) I g I₁.gi.tab t3 ext13 g₃.os g₃.gens g₃.bare W.new hk5 htk hbare (fun b hb=>?_) M
    · show b < h₅.objs.size
      rw [hsz]
      rcases List.mem_cons.mp hb with rfl | hb
      · exact Nat.lt_succ_self _
      · rcases List.mem_cons.mp hb with rfl | hb
        · exact Nat.lt_succ_of_lt hlt
        · exact Nat.lt_succ_of_lt (Nat.lt_trans (List.mem_range.mp hb) hlt)
    · rcases List.mem_cons.mp hb with rfl | hb
      · exact .inl rfl
      · rcases List.mem_cons.mp hb with rfl | hb
        · exact .inr rfl
        · cases hb
end
end Mine
end
section
open PySem PySem.W PySem.Calls PyProof.Rows
namespace Mine
section
variable {C:CallSem} {d n:Nat} {A:Around} {F:List Addr} {fr:List Env} {st:Bool} {B:Addr→Prop} {μ:Option Addr} {env:Env} {fm:Fm} {s s':Shared}
theorem moved_refl {wr:List Addr} {g:Nat} (s:Shared):Moved wr (GenOnlyQ g) s s:=⟨fun Z Z Z e=>e,.inl rfl,rfl,rfl,Nat.le_refl _⟩
theorem snd_TupleGen {f x:Str} {fp px pos gpos:Pos} {elt iter:Expr} {scope:Scope} {r:Res PV} (ih:∀ m,m≤n→Sound C d m) (X:Cx d st A F fr) (I:FI F st env B μ fm s) (h:grd (genOk K0 st fm f scope x iter) (genR (EvN K0 C n) st fm elt x iter scope)=some r):
    wpAny (model prog w0) A (eval (.Call (.Name f fp) [.GeneratorExp elt [⟨.Name x px,iter,[],0⟩] scope gpos] [] pos) env) (EP F st B μ s r) (PostX F fr s r) s:=by
  obtain ⟨hc,h4⟩:=grd_some h;clear h
  obtain ⟨hc1,hg⟩:=and_tt hc;clear hc
  obtain ⟨hst,hf⟩:=and_tt hc1;clear hc1
  induction st with
  | true=>exact nof hst
  | false=>
  obtain ⟨r₁,h1,h2,h3⟩:=rbind_first h4;clear h4
  refine wpAny_Call_Name_kw (wpAny_mono (wpAny_toks (name_ok (st:=false) (E:=PostX F fr s r) I (isTyp_of hf))) (fun fv s₁ z1=>?_) fun Z Z z=>z.2)
  obtain ⟨tk,g,p,e,qf⟩:=z1
  cases e
  obtain rfl:=qf
  have I₁:=I.go g.go tk
  refine callWith_ok (F:=F) (.self (.inr (.inr ⟨_,rfl⟩))) rfl rfl ?_
  refine wpAny_items_cons (gen_ok (Q:=fun a s₅=>wpAny (model prog w0) A (spliced (backTo pos (starEach [] env))) (fun vs s₂=>_) _ s₅) ih X I₁ g hg h1 h2 (fun l e p hp=>by
    obtain ⟨w',c⟩:=Option.isSome_iff_exists.mp (List.all_eq_true.mp (grd_some (h3 l e)).1 p hp)
    exact ⟨w',okOf_of c⟩) fun l a fp wr gg Pi St s₅ e W Z hst hfp ha hT hl fin=>?_) rfl
  refine wpAny_items_nil (wpAny_pure ?_)
  obtain ⟨g5,tk5⟩:=fin s₅ (moved_refl s₅)
  refine ⟨g5.go,(I₁.go g5.go tk5).gi.k,?_⟩
  obtain rfl:=rok_some (grd_some (h3 l e)).2
  refine call_tuple_gen (WalksS.of_in1 (A:=A.in1.in1.in1) W) hT hst hfp ha (fun s' acc M hacc=>?_) (size_ok hl)
  obtain ⟨g6,tk6⟩:=fin s' M
  have g7:GoS F false s' { s' with heap:=s'.heap.push { cls:=.type "tuple",data:=.seq acc } }:=GoS.heap (tk:=s'.toks) (keep_push _)
  exact ⟨(g.trans g6).trans g7,.any,rfl,trivial⟩
theorem strsM_mem {e:PV→R PV} {p:PV}:∀ {l:List PV} {ys:List Str},strsM e l=some ys→p∈l→∃ o,e p=some (.ok (.str o))
  | [],_,_,h=>nomatch h
  | _::l,_,h,hp=>by
    obtain ⟨x,h1,h2⟩:=ask_some (show ask (strOk _) (fun x=>ask (strsM e l) fun xs=>some (x::xs))=some _ from h);clear h
    obtain ⟨xs,h3,Z⟩:=ask_some h2;clear h2
    rcases List.mem_cons.mp hp with rfl | hp
    · exact ⟨x,strOk_of h1⟩
    · exact strsM_mem h3 hp
theorem strsM_texts {e:PV→R PV}:∀ {l:List PV} {ys:List Str} {ll:List (Str×Tok)},strsM e l=some ys→ll.length=l.length→(∀ (j:Nat) p o,l[j]?=some p→e p=some (.ok (.str o))→∃ tk,ll[j]?=some (o,tk))→ll.map (·.1)=ys
  | [],_,[],h,_,_=>Option.some.inj h
  | [],_,_::_,_,hl,_=>nomatch hl
  | _::_,_,[],_,hl,_=>nomatch hl
  | v::r,ys,q::ll,h,hl,hat=>by
    obtain ⟨x,h1,h2⟩:=ask_some (show ask (strOk _) (fun x=>ask (strsM e r) fun xs=>some (x::xs))=some _ from h);clear h
    obtain ⟨xs,h3,h4⟩:=ask_some h2;clear h2
    obtain rfl:=Option.some.inj h4
    obtain ⟨tk,e0⟩:=hat 0 v x rfl (strOk_of h1)
    obtain rfl:=Option.some.inj e0
    exact congrArg (x::·) (strsM_texts h3 (Nat.succ.inj hl) fun j p o a b=>hat (j+1) p o a b)
theorem gen_at {e:PV→R PV} {l:List PV} {i:Nat} {v:Value} {p:PV} {o:Str} (z:GenF e l i v) (e1:l[i]?=some p) (e2:e p=some (.ok (.str o))):∃ tk,v=.str o tk:=by
  obtain ⟨p',w',a1,a2,a3⟩:=z
  obtain rfl:=Option.some.inj (a1.symm.trans e1)
  cases a2.symm.trans e2
  exact a3 o rfl
theorem gen_texts {e:PV→R PV} {l:List PV} {ys:List Str} {ll:List (Str×Tok)} {Pi:Nat→Value→Prop} (h5:strsM e l=some ys) (hP:∀ j y,Pi j y→GenF e l j y) (hacc:ItemsOf Pi (strValues ll).toArray l.length):ll.map (·.1)=ys:=by
  have hsz:ll.length=l.length:=by have:=hacc.1;rw [List.size_toArray] at this;unfold strValues at this;rwa [List.length_map] at this
  refine strsM_texts h5 hsz fun j p o a b=>?_
  have hlt:j < ll.length:=by rw [hsz];exact lt_of_get a
  have e1:(strValues ll).toArray[j]?=some (.str (ll[j]).1 (ll[j]).2):=by
    rw [List.getElem?_toArray];unfold strValues;rw [List.getElem?_map,List.getElem?_eq_getElem hlt];rfl
  obtain ⟨tk,e2⟩:=gen_at (hP j _ (hacc.2 j _ e1)) a b
  refine ⟨tk,?_⟩
  rw [List.getElem?_eq_getElem hlt]
  generalize ll[j]=q at e2
  cases e2;rfl
theorem snd_JoinGen {sep m x:Str} {kd:Nat} {cp apos px pos gpos:Pos} {elt iter:Expr} {scope:Scope} {r:Res PV} (ih:∀ m,m≤n→Sound C d m) (X:Cx d st A F fr) (I:FI F st env B μ fm s)
    (h:grd (m==Str.ofString "join"&&(apos.endLine==pos.line)&&!st&&(genScope scope x&&plainIter iter&&codeHere fm&&modIn K0)) (jgR (EvN K0 C n) st fm sep elt x iter scope)=some r):
    wpAny (model prog w0) A (eval (.Call (.Attribute (.Constant (.str sep) kd cp) m apos) [.GeneratorExp elt [⟨.Name x px,iter,[],0⟩] scope gpos] [] pos) env) (EP F st B μ s r) (PostX F fr s r) s:=by
  obtain ⟨hc,h4⟩:=grd_some h;clear h
  obtain ⟨hc1,hg⟩:=and_tt hc;clear hc
  obtain ⟨hc2,hst⟩:=and_tt hc1;clear hc1
  obtain ⟨hm,hline⟩:=and_tt hc2;clear hc2
  obtain rfl:=eq_of_beq hm
  have hn:notSuper (.Constant (.str sep) kd cp)=true:=rfl
  have ho:∀ Q E,(∀ s',s'={ s with toks:=s.toks+1 }→Q (.str sep s.toks) s')→wpAny (model prog w0) A (eval (.Constant (.str sep) kd cp) env) Q E s:=fun Q E h=>wpAny_Constant_str (h _ rfl)
  generalize Expr.Constant (.str sep) kd cp=o at hn ho ⊢
  induction st with
  | true=>exact nof hst
  | false=>
  obtain ⟨r₁,h1,h2,h3⟩:=rbind_first h4;clear h4
  refine methodCall_eq hn hline (by show (1:Nat)+0 < 20;decide) rfl rfl (ho _ _ fun s₁ e₁=>?_)
  have g:GoS F false s s₁:=by rw [e₁];exact GoS.toks
  have I₁:=I.go g.go (by rw [e₁];exact Nat.le_succ _)
  refine getMethod_builtin (typeIs_str _ _ _) PySem.F.plainAttrs_str PySem.F.slot_str_join PySem.F.type_str_join (fun Z e=>nomatch e) ?_
  refine callWith_ok (F:=F) (.self (.inr (.inl ⟨_,rfl⟩))) rfl rfl ?_
  refine wpAny_items_cons (gen_ok (Q:=fun a s₅=>wpAny (model prog w0) A (spliced (backTo pos (starEach [] env))) (fun vs s₂=>_) _ s₅) ih X I₁ g hg h1 h2 (fun l e p hp=>by
    obtain ⟨ys,h5,Z⟩:=ask_some (h3 l e)
    obtain ⟨o,ho⟩:=strsM_mem h5 hp
    exact ⟨_,ho⟩) fun l a fp wr gg Pi St s₅ e W hP hst hfp ha hT hl fin=>?_) rfl
  refine wpAny_items_nil (wpAny_pure ?_)
  obtain ⟨g5,tk5⟩:=fin s₅ (moved_refl s₅)
  refine ⟨g5.go,(I₁.go g5.go tk5).gi.k,?_⟩
  obtain ⟨ys,h5,h6⟩:=ask_some (h3 l e)
  obtain ⟨hj,h7⟩:=grd_some h6;clear h6
  obtain ⟨hlen,rfl⟩:=strR_some h7;clear h7
  refine SC.joinGen (WalksS.in4_2 W) hT hst hfp ha (fun i v hv=>?_) (fun s' ll M hacc=>?_) (size_ok hl)
  · obtain ⟨p',w',a1,a2,a3⟩:=hP i v hv
    obtain ⟨o,ho⟩:=strsM_mem h5 (List.mem_of_getElem? a1)
    obtain ⟨tk,rfl⟩:=gen_at (hP i v hv) a1 ho
    exact ⟨o,tk,rfl⟩
  · obtain ⟨g6,tk6⟩:=fin s' M
    rw [gen_texts h5 hP hacc]
    exact ⟨joinOk_of_weight (join_fits hj).1 (join_fits hj).2,fun t' k=>EP.of (Post.after (g.trans g6) (ep_str (h':=s'.heap) hlen fun Z Z e=>e))⟩
end
end Mine
end
section
open PySem PySem.W PySem.Calls PyProof.Rows
namespace Mine
section
variable {C:CallSem} {d n:Nat} {A:Around} {F:List Addr} {fr:List Env} {st:Bool} {B:Addr→Prop} {μ:Option Addr} {env:Env} {fm:Fm} {s s':Shared}
theorem sound_zero:Sound C d 0 where
  E:=fun Z Z h=>nov h
  BE:=fun Z Z h=>nov h
  TE:=fun Z Z h=>nov h
  TS:=fun Z Z h=>nov h
  O:=fun Z Z h=>nov h
  ES:=fun Z Z h=>nov h
  KS:=fun Z Z h=>nov h
theorem snd_E {e:Expr} {r:Res PV} (sc:SC C d) (rx:RX) (it:ITR d) (ih:∀ m,m≤n→Sound C d m) (X:Cx d st A F fr) (I:FI F st env B μ fm s) (h:evalE K0 C (n+1) st fm e=some r):
    wpAny (model prog w0) A (eval e env) (EP F st B μ s r) (PostX F fr s r) s:=by
  have i1:=ih n (Nat.le_refl _)
  revert h
  show evalK K0 C (EvN K0 C n) st fm (kindE e)=some r→_
  generalize kindE e=k
  induction k with
  | cst=>intro h;obtain ⟨v,hv,rfl⟩:=optR_some h;exact ep_of (const_ok hv)
  | nm=>intro h;obtain ⟨v,hv,rfl⟩:=optR_some h;exact name_ok I hv
  | bool=>intro h;rw [arm_eval_BoolOp];exact i1.BE X I h
  | bin=>exact fun h=>snd_BinOp i1 X I h
  | not=>exact fun h=>snd_Not i1 X I h
  | neg=>exact fun h=>snd_Neg i1 X I h
  | ife=>exact fun h=>snd_IfExp i1 X I h
  | tup=>exact fun h=>snd_Tuple i1 X I h
  | lst=>exact fun h=>snd_List i1 X I h
  | fs=>exact fun h=>snd_Joined ih X I h
  | cmp=>exact fun h=>snd_Compare sc i1 X I h
  | slc=>exact fun h=>snd_Slice i1 X I h
  | idx=>exact fun h=>snd_Subscript i1 X I h
  | att=>exact fun h=>snd_Attribute i1 X I h
  | gen=>exact fun h=>snd_TupleGen ih X I h
  | mth=>exact fun h=>snd_CallMethod sc rx i1 X I h
  | fn=>exact fun h=>snd_CallName sc it i1 X I h
  | rep=>exact fun h=>snd_Replace i1 X I h
  | jg=>exact fun h=>snd_JoinGen ih X I h
  | other=>exact fun h=>nov h
theorem sound_all (sc:SC C d) (rx:RX) (it:ITR d):∀ n,∀ m,m≤n→Sound C d m
  | 0,m,h=>by cases Nat.le_zero.mp h;exact sound_zero
  | n+1,m,h=>by
    have ih:=sound_all sc rx it n
    rcases Nat.lt_or_ge m (n+1) with h' | h'
    · exact ih m (by lia)
    have:m=n+1:=by lia
    subst this
    have i1:=ih n (Nat.le_refl _)
    exact {
      E:=fun X I h=>snd_E sc rx it ih X I h
      BE:=fun X I h=>snd_BE i1 X I h
      TE:=fun X I h=>snd_TE sc i1 X I h
      TS:=fun X I h=>snd_TS i1 X I h
      O:=fun X I h=>snd_O i1 X I h
      ES:=fun X I h=>snd_ES i1 X I h
      KS:=fun X I h=>snd_KS i1 X I h }
end
end Mine
end
section
open PySem PySem.W PySem.Calls PyProof.Rows
namespace Mine
noncomputable def without (h:Heap):List Addr→Heap
  | []=>h
  | a::F=>(without h F).update a fun o=>{ o with data:=.freed }
theorem without_not {h:Heap} {a:Addr}:∀ {F:List Addr},a∉F→(without h F).get? a=h.get? a
  | [],_=>rfl
  | b::F,n=>by
    unfold without
    rw [Heap.get?_update_other _ _ (fun (e:b=a)=>n (by rw [e];exact List.mem_cons_self ..))]
    exact without_not fun m=>n (List.mem_cons_of_mem _ m)
theorem get_freed {h:Heap} {a:Addr}:(h.update a fun o=>{ o with data:=.freed }).get? a=none:=by
  cases h with
  | mk objs l=>
    unfold Heap.get? Heap.update
    rw [Array.getElem?_modify,if_pos rfl]
    cases objs[a]?<;>rfl
theorem without_in {h:Heap} {a:Addr}:∀ {F:List Addr},a∈F→(without h F).get? a=none
  | [],m=>by cases m
  | b::F,m=>by
    unfold without
    by_cases e:b=a
    · subst e;exact get_freed
    · rw [Heap.get?_update_other _ _ e]
      rcases List.mem_cons.mp m with q | q
      · exact absurd q.symm e
      · exact without_in q
theorem without_stays {h:Heap} {F:List Addr}:(without h F).StaysIn h:=fun b o e=>by
  by_cases m:b∈F
  · rw [without_in m] at e;cases e
  · rwa [without_not m] at e
section
variable {F:List Addr} {fr:List Env} {s s₁ s':Shared} {h h' h0 base:Heap} {x:PySem.Value} {env:Env}
inductive ExcH (F:List Addr) (fr:List Env) (s s':Shared) (x:PySem.Value):Prop
  | mk (g:Go F s s') (e L:Addr) (he:x=.ref e) (env:Env) (outer:List Env) (h1:fr=env::outer) (h2:env.frame=some L) (base:Heap) (a0:PySem.Value) (hB:BaseOf F s.heap base) (hw:Heap.HeldW base fr e (.type "ValueError") a0 L s'.heap)
noncomputable def ExcX (F:List Addr) (fr:List Env) (s s':Shared) (x:PySem.Value):Prop:=ExcR F fr s s' x∨ExcH F fr s s' x
theorem go_of_base (g:Go F s₁ s) (hB:BaseOf F s₁.heap base) (k:base.StaysIn h') (u:s.heap.UpToSlots h'):Go F s₁ { s with heap:=h' } where
  ext:=⟨fun b o e t f=>k _ _ (hB.keep b o e t f),fun b ps t e=>let ⟨m,hm⟩:=hB.grow b ps t e;⟨m,k _ _ hm⟩,
    fun b o f e n=>let ⟨sl,z⟩:=g.ext.fr b o f e n;let ⟨sl',z'⟩:=u b _ z n;⟨sl',z'⟩⟩
  tab:=fun Z=>hB.tab.of_keeps k
  os:=g.os
  gens:=g.gens
  bare:=g.bare
theorem base_without (G:GI F h) (e:Ext F h h0) (t:TabI h0):BaseOf F h (without h0 F):=by
  have nT:∀ b∈F,¬ isT b:=fun b hb=>(G.apartF b hb).nt
  have nC:∀ b∈F,∀ o vs,h0.get? b=some o→o.data≠.fields vs:=fun b hb o vs ho=>by
    obtain ⟨Z,Z,Z,Z,o1,ho1,n1⟩:=G.apartF b hb
    obtain ⟨sl,z⟩:=e.fr b o1 hb ho1 n1
    rw [ho] at z;cases z
    exact n1 vs
  refine ⟨fun b o q t f=>(without_not f).trans (e.keep b o q t f),fun b ps t q=>?_,fun p hp=>?_⟩
  · obtain ⟨m,hm⟩:=e.grow b ps t q;clear q
    exact ⟨m,(without_not fun f=>nT b f t).trans hm⟩
  · obtain ⟨ps,a,⟨o,vs,h3,hc,hd,r⟩,h4⟩:=t p hp
    have nc:p.1∉F:=fun f=>nC _ f _ _ h3 hd
    have np:p.2∉F:=fun f=>nT _ f ⟨p,hp,rfl⟩
    exact ⟨ps,isCode_at a (fun Z e=>(without_not nc).trans e) (fun Z e=>(without_not np).trans e),⟨o,vs,(without_not nc).trans h3,hc,hd,r⟩,(without_not np).trans h4⟩
theorem frames_without (G:GI F h) (e:Ext F h h0) (k:∀ b o,h0.get? b=some o→h'.get? b=some o):∀ {fr:List Env},(∀ env∈fr,env.scope.kind≠.module∧∃ L,env.frame=some L∧L∈F)→h'.FunFrames (without h0 F) fr
  | [],_=>trivial
  | env::r,hf=>by
    obtain ⟨h1,L,h2,h3⟩:=hf env (List.mem_cons_self ..)
    obtain ⟨Z,Z,Z,Z,o1,ho1,n1⟩:=G.apartF L h3
    obtain ⟨sl,z⟩:=e.fr L o1 h3 ho1 n1
    exact ⟨h1,⟨L,_,h2,without_in h3,k _ _ z,n1⟩,frames_without G e k fun env he=>hf env (List.mem_cons_of_mem _ he)⟩
variable {A:Around} {E:PySem.Value→Shared→Prop} {outer:List Env} {L:Addr}
theorem note_ok (G:GI F s₁.heap) (fk:∀ env∈fr,env.scope.kind≠.module∧∃ L,env.frame=some L∧L∈F) (hfr:A.frames=some fr) (he:fr=env::outer) (hf:env.frame=some L) (y:ExcX F fr s₁ s x):
    wpAny (model prog w0) A (noteFrame x env) (fun Z s'=>ExcH F fr s₁ s' x∧s.toks≤s'.toks) E s:=by
  subst he
  rcases y with ⟨g,e,rfl,⟨h0,hx,ht,hn⟩ | ⟨base,a0,hb,hw⟩⟩ | ⟨g,e,L',rfl,env',outer',he',hL',base,a0,hb,hw⟩
  · have hB:=base_without G hx ht
    have hF:s.heap.FunFrames (without h0 F) (env::outer):=frames_without G hx hn.keeps fk
    obtain ⟨ob,t,ho,hc,hd⟩:=hn.there
    have hen:(without h0 F).get? e=none:=by
      induction q:(without h0 F).get? e with
      | none=>rfl
      | some o=>have:=without_stays e o q;rw [hn.new] at this;cases this
    have hst:(without h0 F).StaysIn s.heap:=fun b o q=>hn.keeps b o (without_stays b o q)
    unfold noteFrame
    rw [hf]
    refine wpAny_bind (wpAny_field ho hd (x:=.none) rfl ?_)
    rw [if_neg (by decide)]
    refine wpAny_entryW (a0:=t) hfr hF hf ho hst hen hd (by simp) rfl fun h' ⟨k1,k2,k3,k4⟩=>⟨⟨go_of_base g hB k1 k4,e,L,rfl,env,outer,rfl,hf,_,t,hB,k1,hen,k2,?_⟩,Nat.le_refl _⟩
    rw [hc] at k3;exact k3
  · refine wpAny_looks_onW hfr hf hw fun h' k1 k2=>⟨⟨go_of_base g hb k1.1 k2,e,L,rfl,env,outer,rfl,hf,base,a0,hb,k1⟩,Nat.le_refl _⟩
  · injection he' with e1 e2
    subst e1;subst e2
    rw [hf] at hL';cases hL'
    exact wpAny_noteFrame_againW hf hw.2.2.2 ⟨⟨g,e,L,rfl,env,outer,rfl,hf,base,a0,hb,hw⟩,Nat.le_refl _⟩
theorem setFlight_held {M:Model} {base:Heap} {l:List Env} {e:Addr} {cls a0:PySem.Value} {Q:Unit→Shared→Prop} (hh:Heap.HeldW base l e cls a0 L s.heap)
    (hQ:∀ h',Heap.HeldW base l e cls a0 L h'→s.heap.UpToSlots h'→Q () { s with heap:=h' }):wpAny M A (setFlight (.ref e) (some L)) Q E s:=by
  obtain ⟨hkb,hen,hl,ht⟩:=hh
  obtain ⟨oe,vs,T,oT,ts,he,hcls,hd,h1,hnT,hTe,hT,hdT,h3⟩:=ht
  have hsz3:3 < ts.size:=(Array.getElem?_eq_some_iff.mp h3).1
  have other:∀ b,b≠T→(s.heap.update T (Obj.mapFields (·.setIfInBounds 3 ((some L:Option Addr).elim PySem.Value.none fun f=>rawInt f)))).get? b=s.heap.get? b:=
    fun b hb=>Heap.get?_update_other _ _ (Ne.symm hb)
  have noRecord:∀ b o,s.heap.get? b=some o→(∀ vs,o.data≠.fields vs)→b≠T:=fun b o hb hnf q=>by
    rw [q,hT] at hb;injection hb with hb;subst hb;exact hnf ts hdT
  unfold setFlight
  refine wpAny_bind (wpAny_field he hd h1 ?_)
  rw [if_pos (show (PySem.Value.ref T != PySem.Value.none)=true from by simp)]
  refine wpAny_setField hT hdT hsz3 (hQ _ ⟨fun b o hbo=>(other b fun q=>by rw [q,hnT] at hbo;cases hbo).trans (hkb b o hbo),hen,
    (hl.of_keeps fun b o hb hnf=>⟨o,(other b (noRecord b o hb hnf)).trans hb,rfl⟩),?_⟩ fun b o hb hnf=>⟨o.slots,(other b (noRecord b o hb hnf)).trans hb⟩)
  exact ⟨oe,vs,T,_,_,(other e (Ne.symm hTe)).trans he,hcls,hd,h1,hnT,hTe,Heap.get?_update_self _ hT (Obj.isFreed_of_fields (Obj.data_mapFields hdT _)),Obj.data_mapFields hdT _,by simp [hsz3]⟩
theorem back_ok (he:fr=env::outer) (hf:env.frame=some L) (y:ExcH F fr s₁ s x):
    cameBackBy (model prog w0) A env (fun x s'=>ExcH F fr s₁ s' x∧s.toks≤s'.toks) x s:=by
  subst he
  obtain ⟨g,e,L',rfl,env',outer',he',hL',base,a0,hb,hw⟩:=y
  injection he' with e1 e2
  subst e1;subst e2
  rw [hf] at hL';cases hL'
  obtain ⟨oe,vs,T',oT,ts,he,hcls,hd,h1,hr⟩:=id hw.2.2.2
  unfold cameBackBy
  refine wpAny_bind (wpAny_field he hd h1 ?_)
  rw [if_neg (by simp),hf]
  exact setFlight_held hw fun h' k1 k2=>⟨⟨go_of_base g hb k1.1 k2,e,L,rfl,env,outer,rfl,hf,base,a0,hb,k1⟩,Nat.le_refl _⟩
end
end Mine
end
section
open PySem PySem.W PySem.Calls PyProof.Rows
namespace Mine
section
variable {A:Around} {F:List Addr} {st:Bool} {B B' B'':Addr→Prop} {μ μ₀:Option Addr} {env:Env} {fm fm':Fm} {s₀ s s':Shared} {h h':Heap} {a L:Addr}
theorem TabI.at (x:TabI h) (k:∀ p∈T,(∀ o,h.get? p.1=some o→h'.get? p.1=some o)∧∀ o,h.get? p.2=some o→h'.get? p.2=some o):TabI h':=fun p hp=>
  let ⟨ps,a,b⟩:=x p hp
  ⟨ps,isCode_at a (k p hp).1 (k p hp).2,tableAt_at b (k p hp).1 (k p hp).2⟩
theorem TabI.has (x:TabI h) {p:Addr×Addr} (hp:p∈T):(∃ o,h.get? p.1=some o)∧∃ o,h.get? p.2=some o:=
  let ⟨_,_,⟨o,_,h3,_⟩,h4⟩:=x p hp
  ⟨⟨o,h3⟩,_,h4⟩
theorem ne_new {b:Addr} {o:Obj} (hnew:h.get? a=none) (e:h.get? b=some o):b≠a:=fun z=>by subst z;rw [hnew] at e;cases e
theorem TabI.new (x:TabI h) (hnew:h.get? a=none):∀ p∈T,p.1≠a∧p.2≠a:=fun Z hp=>
  let ⟨⟨_,h1⟩,_,h2⟩:=x.has hp
  ⟨ne_new hnew h1,ne_new hnew h2⟩
theorem TabI.notT (x:TabI h) (hnew:h.get? a=none):¬ isT a:=fun z1=>by obtain ⟨p,hp,e⟩:=z1;exact (x.new hnew p hp).2 e
theorem Go.but {tk:Tok} (g:Go F s₀ s) (t:TabI s₀.heap) (hnew:s₀.heap.get? a=none) (k:Heap.ExtBut a s.heap h'):Go F s₀ { s with heap:=h',toks:=tk } where
  ext:=⟨fun b o e q f=>k b o (ne_new hnew e) (g.ext.keep b o e q f),fun b ps q e=>let ⟨m,hm⟩:=g.ext.grow b ps q e;⟨m,k b _ (ne_new hnew e) hm⟩,
    fun b o f e n=>let ⟨sl,z⟩:=g.ext.fr b o f e n;⟨sl,k b _ (ne_new hnew e) z⟩⟩
  tab:=fun Z=>(g.tab t).at fun p hp=>⟨fun o=>k _ o (t.new hnew p hp).1,fun o=>k _ o (t.new hnew p hp).2⟩
  os:=g.os
  gens:=g.gens
  bare:=g.bare
theorem GoS.but {tk:Tok} (g:GoS F st s₀ s) (t:TabI s₀.heap) (hnew:s₀.heap.get? a=none) (k:Heap.ExtBut a s.heap h'):GoS F st s₀ { s with heap:=h',toks:=tk }:=by
  induction st with
  | false=>exact Go.but g t hnew k
  | true=>
    obtain ⟨h1,tk1,rfl,k1⟩:=g
    exact ⟨h',tk,rfl,fun b o e=>k b o (ne_new hnew e) (k1 b o e)⟩
theorem Go.transL (g:Go F s₀ s) (hL:s₀.heap.get? L=none) (g':Go (L::F) s s'):Go F s₀ s' where
  ext:=⟨fun b o e q f=>g'.ext.keep b o (g.ext.keep b o e q f) q fun m=>by
      rcases List.mem_cons.mp m with m | m
      · exact ne_new hL e m
      · exact f m,fun b ps q e=>by
      obtain ⟨m,hm⟩:=g.ext.grow b ps q e
      obtain ⟨m',hm'⟩:=g'.ext.grow b _ q hm;clear hm
      exact ⟨m++m',by rw [hm',Array.append_assoc]⟩,fun b o f e n=>by
      obtain ⟨sl,z⟩:=g.ext.fr b o f e n
      obtain ⟨sl',z'⟩:=g'.ext.fr b _ (List.mem_cons_of_mem _ f) z n;clear n
      exact ⟨sl',z'⟩⟩
  tab:=fun t=>g'.tab (g.tab t)
  os:=g'.os.trans g.os
  gens:=fun i gs e=>g'.gens i gs (g.gens i gs e)
  bare:=fun b=>g'.bare (g.bare b)
theorem GoS.transL (g:GoS F st s₀ s) (hL:s₀.heap.get? L=none) (g':GoS (L::F) st s s'):GoS F st s₀ s':=by
  induction st with
  | false=>exact Go.transL g hL g'
  | true=>exact Keeps.trans g g'
theorem GI.cons (G:GI F s₀.heap) (g:Go F s₀ s) (hL:s₀.heap.get? L=none) (ex:∃ o,s.heap.get? L=some o∧∀ vs,o.data≠.fields vs):GI (L::F) s.heap:=by
  have G':=G.go g
  refine ⟨G'.k,G'.apart,fun b hb=>?_,G'.b,G'.lim,G'.dig,G'.tab,G'.codes⟩
  rcases List.mem_cons.mp hb with rfl | hb
  · refine ⟨?_,?_,?_,G.tab.notT hL,ex⟩
    · induction q:K0.lookup b with
      | none=>rfl
      | some o=>have:=G.k b o q;rw [hL] at this;cases this
    · obtain ⟨mb,⟨o,Z,Z,ho,Z⟩,Z⟩:=G.b
      exact (ne_new hL ho).symm
    · obtain ⟨mb,⟨o,Z,Z,ho,Z⟩,Z⟩:=G.dig
      exact (ne_new hL ho).symm
  · exact G'.apartF b hb
noncomputable def muA:Option MO→Option Addr→List Addr
  | some (.list _),some a=>[a]
  | some (.inst ..),some a=>[a,a - 1]
  | _,_=>[]
noncomputable def ownA (env:Env) (mo:Option MO) (μ:Option Addr):List Addr:=env.locals::(env.cells.map (·.2)++muA mo μ)
structure Own (s₀:Shared) (env:Env) (mo:Option MO) (μ:Option Addr) (B:Addr→Prop) (h:Heap):Prop where
  nd:(ownA env mo μ).Nodup
  new:∀ b∈ownA env mo μ,s₀.heap.get? b=none
  b:∀ b∈ownA env mo μ,B b
  cel:∀ n c,env.cells.lookup n=some c→∃ v,h.IsCell c v
  has:∀ x,env.scope.names.lookup x=some .cell→∃ c,env.cells.lookup x=some c
  fr:env.frame=some env.locals
structure At (F:List Addr) (st:Bool) (s₀:Shared) (env:Env) (B:Addr→Prop) (μ₀:Option Addr) (fm:Fm) (B':Addr→Prop) (μ:Option Addr) (s:Shared):Prop where
  G₀:GI F s₀.heap
  g:GoS F st s₀ s
  tk:s₀.toks≤s.toks
  O:Own s₀ env fm.mu μ B' s.heap
  hB:∀ b,B b→B' b
  I:FI (env.locals::F) st env B' μ fm s
  mu₀:∀ a,μ₀=some a→μ=some a
theorem mem_loc {mo:Option MO}:env.locals∈ownA env mo μ:=List.mem_cons_self ..
theorem mem_cel {mo:Option MO} {p:PySem.Str×Addr} (hp:p∈env.cells):p.2∈ownA env mo μ:=List.mem_cons_of_mem _ (List.mem_append_left _ (List.mem_map_of_mem hp))
theorem mem_mu {mo:Option MO} (hp:a∈muA mo μ):a∈ownA env mo μ:=List.mem_cons_of_mem _ (List.mem_append_right _ hp)
theorem At.notT (x:At F st s₀ env B μ₀ fm B' μ s) (ha:a∈ownA env fm.mu μ):¬ isT a:=x.G₀.tab.notT (x.O.new a ha)
theorem At.notF (x:At F st s₀ env B μ₀ fm B' μ s) (ha:a∈ownA env fm.mu μ):a∉F:=fun m=>by
  obtain ⟨Z,Z,Z,Z,o,ho,Z⟩:=x.G₀.apartF a m;clear m
  exact ne_new (x.O.new a ha) ho rfl
theorem At.cell_ne (x:At F st s₀ env B μ₀ fm B' μ s) {p:PySem.Str×Addr} (hp:p∈env.cells):p.2≠env.locals:=fun e=>by
  have:=(List.nodup_cons.mp x.O.nd).1
  exact this (e▸List.mem_append_left _ (List.mem_map_of_mem hp))
theorem At.mu_ne (x:At F st s₀ env B μ₀ fm B' μ s) (hp:a∈muA fm.mu μ):a≠env.locals:=fun e=>by
  have:=(List.nodup_cons.mp x.O.nd).1
  exact this (e▸List.mem_append_right _ hp)
theorem At.mu_cell (x:At F st s₀ env B μ₀ fm B' μ s) (hp:a∈muA fm.mu μ) {p:PySem.Str×Addr} (hc:p∈env.cells):p.2≠a:=fun e=>by
  have:=(List.nodup_append.mp (List.nodup_cons.mp x.O.nd).2).2.2
  exact this _ (List.mem_map_of_mem hc) _ hp e
theorem At.cells_inj (x:At F st s₀ env B μ₀ fm B' μ s) {n k:PySem.Str} {c:Addr} (h1:env.cells.lookup n=some c) (h2:env.cells.lookup k=some c):n=k:=by
  have:=(List.nodup_append.mp (List.nodup_cons.mp x.O.nd).2).1
  have pw:env.cells.Pairwise fun x y=>x.2≠y.2:=List.pairwise_map.mp this
  exact name_of_addr pw (mem_of_lookup h1) (mem_of_lookup h2)
theorem At.go (x:At F st s₀ env B μ₀ fm B' μ s) (g:GoS (env.locals::F) st s s') (tk:s.toks≤s'.toks):At F st s₀ env B μ₀ fm B' μ s' where
  G₀:=x.G₀
  g:=x.g.transL (x.O.new _ mem_loc) g
  tk:=Nat.le_trans x.tk tk
  O:=⟨x.O.nd,x.O.new,x.O.b,fun n c hc=>by
    have hp:(n,c)∈env.cells:=mem_of_lookup hc
    obtain ⟨v,o,ho,hd⟩:=x.O.cel n c hc;clear hc
    refine ⟨v,o,g.go.ext.keep _ _ ho (x.notT (mem_cel hp)) fun m=>?_,hd⟩
    rcases List.mem_cons.mp m with m | m
    · exact x.cell_ne hp m
    · exact x.notF (mem_cel hp) m,x.O.has,x.O.fr⟩
  hB:=x.hB
  I:=x.I.go g.go tk
  mu₀:=x.mu₀
theorem KeepB.but (hb:B a) (k:Heap.ExtBut a h h'):KeepB B h h':=fun b o q nb=>k b o (fun z=>nb (z▸hb)) q
structure Pass (B B₂:Addr→Prop) (a:Addr) (h h':Heap):Prop where
  k:Heap.ExtBut a h h'
  ba:B a
  sub:∀ b,B₂ b→B b
  sup:∀ b,b≠a→B b→B₂ b
theorem Pass.same (k:Heap.ExtBut a h h') (ba:B a):Pass B B a h h':=⟨k,ba,fun Z x=>x,fun Z Z x=>x⟩
section
variable {B₂:Addr→Prop} (P:Pass B B₂ a h h')
include P
theorem Pass.kb:KeepB B h h':=KeepB.but P.ba P.k
theorem Pass.vr {p:PV} {v:Value} (z:VR B h p v):VR B₂ h' p v:=VR.keep P.kb (fun b Z Z=>P.sub b) z
theorem Pass.vrs {p:List PV} {v:List Value} (z:VRs B h p v):VRs B₂ h' p v:=VRs.keep P.kb (fun b Z Z=>P.sub b) z
theorem Pass.vrf {p:List (Str×PV)} {v:List DictEntry} (z:VRf B h p v):VRf B₂ h' p v:=VRf.keep P.kb (fun b Z Z=>P.sub b) z
theorem Pass.vv {p:PV} {v:Value} (z:VV B h μ p v):VV B₂ h' μ p v:=by
  induction p using PV.casesOn<;>first | exact P.vr z | exact z
theorem Pass.mu {mo:Option MO} (m:MuI F B h mo μ) (n:∀ b∈muA mo μ,b≠a):MuI F B₂ h' mo μ:=by
  rcases mo with Z | (l | ⟨D,fs⟩)
  · exact m
  · obtain ⟨c,vs,n',rfl,h2,h3,h4,h5,h6,h7⟩:=m
    have nc:=n c (List.mem_cons_self ..)
    exact MuL.mk c vs n' rfl (P.sup _ nc h2) h3 h4 (P.k _ _ nc h5) h6 (P.vrs h7)
  · obtain ⟨d,es,n',rfl,h2,h3,h4,h5,h6,h7,h8,h9,h10⟩:=m
    have n1:=n (d+1) (List.mem_cons_self ..)
    have n2:=n d (List.mem_cons_of_mem _ (List.mem_cons_self ..))
    exact MuO.mk d es n' rfl (P.sup _ n1 h2) (P.sup _ n2 h3) h4 h5 h6 h7 (P.k _ _ n1 h8) (P.k _ _ n2 h9) (P.vrf h10)
theorem Pass.cel {y:Str} {u:PV} (x:CelR F env B h y (VR B h u)) (n:∀ c,env.cells.lookup y=some c→c≠a):CelR F env B₂ h' y (VR B₂ h' u):=by
  obtain ⟨c,o,w',h1,h2,h3,h4,h5,h6,h7⟩:=x
  exact ⟨c,o,w',h1,P.k c o (n c h1) h2,h3,P.sup c (n c h1) h4,h5,h6,P.vr h7⟩
theorem Pass.ns {l:List (Str×PV)} (x:NsR env B h μ l) (n:env.locals≠a):NsR env B₂ h' μ l:=by
  obtain ⟨m,hn,hm⟩:=x
  exact ⟨m,hn.at fun o q=>P.k _ o n q,fun z u e=>let ⟨w',a,b⟩:=hm z u e;⟨w',a,P.vv b⟩⟩
end
theorem At.change {B₂:Addr→Prop} {tk:Tok} (x:At F st s₀ env B μ₀ fm B' μ s) (hI:s₀.heap.get? a=none) (P:Pass B' B₂ a s.heap h') (htk:s.toks≤tk) (exa:B₂ a→∃ o,h'.get? a=some o) (supO:a∈ownA env fm.mu μ→B₂ a) (supB:B a→B₂ a)
    (hmu:muA fm'.mu μ=muA fm.mu μ) (hsc:fm'.scope=fm.scope) (hcode:(fm'.code,fm'.tk)=(fm.code,fm.tk)) (hcell:∀ n,env.cells.lookup n=some a→∃ v,h'.IsCell a v)
    (ns:NsR env B₂ h' μ fm'.loc) (cel:∀ x v,fm'.cel.lookup x=some v→CelR (env.locals::F) env B₂ h' x (VR B₂ h' v)) (mu:MuI (env.locals::F) B₂ h' fm'.mu μ):At F st s₀ env B μ₀ fm' B₂ μ { s with heap:=h',toks:=tk }:=by
  have g':GoS F st s₀ { s with heap:=h',toks:=tk }:=x.g.but x.G₀.tab hI P.k
  have hown:ownA env fm'.mu μ=ownA env fm.mu μ:=by unfold ownA;rw [hmu]
  have own:∀ b∈ownA env fm.mu μ,B₂ b:=fun b hb=>by
    by_cases e:b=a
    · exact e▸supO (e▸hb)
    · exact P.sup b e (x.O.b b hb)
  have old:∀ b o,s₀.heap.get? b=some o→B' b→B₂ b:=fun b o e q=>P.sup b (ne_new hI e) q
  refine ⟨x.G₀,g',Nat.le_trans x.tk htk,⟨by rw [hown];exact x.O.nd,by rw [hown];exact x.O.new,by rw [hown];exact own,fun n c hc=>?_,x.O.has,x.O.fr⟩,fun b hb=>?_,
    ⟨x.G₀.cons g'.go (x.O.new _ mem_loc) ?_,⟨fun b t=>?_,fun b f=>?_,fun b hb=>?_⟩,x.I.sc.trans hsc.symm,hsc▸x.I.kind,x.I.glo,x.I.bui,x.I.nt,own _ mem_loc,ns,cel,mu,fun e k=>(x.I.tk e ((congrArg Prod.snd hcode).symm.trans k)).up htk,fun e=>(x.I.code e).trans (congrArg Prod.fst hcode).symm⟩,x.mu₀⟩
  · by_cases e:c=a
    · subst e;exact hcell n hc
    · obtain ⟨v,o,ho,hd⟩:=x.O.cel n c hc;clear hc
      exact ⟨v,o,P.k c o e ho,hd⟩
  · by_cases e:b=a
    · exact e▸supB (e▸hb)
    · exact P.sup b e (x.hB b hb)
  · obtain ⟨m,⟨o,es,ep,ho,hd,Z⟩,Z⟩:=ns
    exact ⟨o,ho,fun vs q=>by rw [hd] at q;cases q⟩
  · obtain ⟨p,hp,rfl⟩:=t
    obtain ⟨Z,o,ho⟩:=x.G₀.tab.has hp
    exact old _ o ho (x.I.bd.t _ ⟨p,hp,rfl⟩)
  · rcases List.mem_cons.mp f with rfl | f
    · exact own _ mem_loc
    · obtain ⟨o,ho,Z⟩:=(x.G₀.apartF b f).ex
      exact old _ o ho (x.I.bd.f _ (List.mem_cons_of_mem _ f))
  · by_cases e:b=a
    · exact e▸exa (e▸hb)
    · obtain ⟨o,z⟩:=x.I.bd.ex b (P.sub b hb);clear hb
      exact ⟨o,P.k b o e z⟩
theorem At.store {tk:Tok} (x:At F st s₀ env B μ₀ fm B' μ s) (ha:a∈ownA env fm.mu μ) (k:Heap.ExtBut a s.heap h') (htk:s.toks≤tk) (exa:∃ o,h'.get? a=some o)
    (hmu:muA fm'.mu μ=muA fm.mu μ) (hsc:fm'.scope=fm.scope) (hcode:(fm'.code,fm'.tk)=(fm.code,fm.tk)) (hcell:∀ n,env.cells.lookup n=some a→∃ v,h'.IsCell a v)
    (ns:NsR env B' h' μ fm'.loc) (cel:∀ x v,fm'.cel.lookup x=some v→CelR (env.locals::F) env B' h' x (VR B' h' v)) (mu:MuI (env.locals::F) B' h' fm'.mu μ):At F st s₀ env B μ₀ fm' B' μ { s with heap:=h',toks:=tk }:=
  x.change (x.O.new a ha) (.same k (x.O.b _ ha)) htk (fun Z=>exa) (fun Z=>x.O.b _ ha) (fun Z=>x.O.b _ ha) hmu hsc hcode hcell ns cel mu
theorem lookup_put {α:Type} {x y:PySem.Str} {v u:α} {l:List (PySem.Str×α)} (e:(put x v l).lookup y=some u):(y=x∧u=v)∨(y≠x∧l.lookup y=some u):=by
  by_cases hy:y=x
  · subst hy
    exact .inl ⟨rfl,Option.some.inj (e.symm.trans lookup_put_self)⟩
  · exact .inr ⟨hy,(lookup_put_ne (beq_eq_false_iff_ne.mpr hy)).symm.trans e⟩
theorem ns_put {B:Addr→Prop} {y:Str} {v:PV} {vv:Value} {m:Str→Option Value} (hm:∀ x v,fm.loc.lookup x=some v→∃ w,m x=some w∧VV B h μ v w) (hv:VV B h μ v vv) (hn:h.Ns env.locals (fun z=>if z=y then some vv else m z)):NsR env B h μ (put y v fm.loc):=
  ⟨_,hn,fun z u e=>by
    rcases lookup_put e with ⟨rfl,rfl⟩ | ⟨hne,e'⟩
    · exact ⟨vv,if_pos rfl,hv⟩
    · obtain ⟨w',a,b⟩:=hm z u e';clear e'
      exact ⟨w',(if_neg hne).trans a,b⟩⟩
inductive SetN (fm:Fm) (x:Str) (v:PV) (f:Fm):Prop
  | loc (h:fm.scope.names.lookup x=some .local) (e:f={ fm with loc:=put x v fm.loc })
  | cel (h:fm.scope.names.lookup x=some .cell) (s:solid v=true) (e:f={ fm with cel:=put x v fm.cel })
theorem setN_of {x:Str} {v:PV} {f:Fm} (h:setN fm x v=some f):SetN fm x v f:=by
  unfold setN at h
  induction e:fm.scope.names.lookup x with
  | none=>rw [e] at h;exact nov h
  | some k=>
    rw [e] at h
    induction k with
    | «local»=>exact .loc e (Option.some.inj h).symm
    | cell=>obtain ⟨h1,h2⟩:=grd_some (show grd (solid v) (some { fm with cel:=put x v fm.cel })=some f from h);exact .cel e h1 (Option.some.inj h2).symm
    | _=>exact nov h
theorem store_ok {y:Str} {v:PV} {vv:Value} {E:Value→Shared→Prop} (x:At F st s₀ env B μ₀ fm B' μ s) (h:setN fm y v=some fm') (hv:VV B' s.heap μ v vv):
    wpAny (model prog w0) A (storeName env y vv) (fun Z s'=>At F st s₀ env B μ₀ fm' B' μ s'∧s.toks≤s'.toks∧fm'.mu=fm.mu∧∀ b o,b∉ownA env fm.mu μ→s.heap.get? b=some o→s'.heap.get? b=some o) E s:=by
  have kn:=fun k=>show fm.scope.names.lookup y=some k→env.kindOf y=some k from fun e=>by unfold Env.kindOf;rw [x.I.sc];exact e
  rcases setN_of h with ⟨hx,rfl⟩ | ⟨hx,hs,rfl⟩
  · obtain ⟨m,hn,hm⟩:=x.I.ns
    refine wpAny_storeName_local (kn _ hx) hn (fun h' hn' sb=>?_) (by rw [x.I.sc,x.I.kind];rfl)
    have P:=Pass.same sb.extBut (x.O.b _ mem_loc)
    refine ⟨x.store mem_loc sb.extBut (Nat.le_succ _) (let ⟨o,_,_,z,_⟩:=hn';⟨o,z⟩) rfl rfl rfl (fun n hc=>absurd rfl (x.cell_ne (p:=(n,_)) (mem_of_lookup hc))) (ns_put (fun z u e=>let ⟨w',a,b⟩:=hm z u e;⟨w',a,P.vv b⟩) (P.vv hv) hn')
      (fun z u e=>P.cel (x.I.cel z u e) fun c hc=>x.cell_ne (p:=(z,c)) (mem_of_lookup hc)) (P.mu x.I.mu fun b hb=>x.mu_ne hb),Nat.le_succ _,rfl,fun b o n e=>(sb.2 b fun z=>n (z▸mem_loc)).trans e⟩
  · have hk:env.scope.kind=.function:=by rw [x.I.sc];exact x.I.kind
    obtain ⟨c,hc⟩:=x.O.has y (kn _ hx)
    have hmem:(y,c)∈env.cells:=mem_of_lookup hc
    have hown:c∈ownA env fm.mu μ:=mem_cel hmem
    obtain ⟨v₀,hv₀⟩:=x.O.cel _ _ hc
    refine wpAny_storeName_cell hk (kn _ hx) hc hv₀ fun h' hc' sb=>?_
    have P:=Pass.same sb.extBut (x.O.b _ hown)
    refine ⟨x.store (tk:=s.toks) hown sb.extBut (Nat.le_refl _) (let ⟨o,z,_⟩:=hc';⟨o,z⟩) rfl rfl rfl (fun Z Z=>⟨_,hc'⟩) (P.ns x.I.ns (x.cell_ne hmem).symm) (fun z u e=>?_) (P.mu x.I.mu fun b hb q=>x.mu_cell hb hmem q.symm),Nat.le_refl _,rfl,fun b o n e=>(sb.2 b fun z=>n (z▸hown)).trans e⟩
    rcases lookup_put e with ⟨rfl,rfl⟩ | ⟨hne,e'⟩
    · obtain ⟨o,ho,hd⟩:=hc'
      refine ⟨c,o,vv,hc,ho,hd,x.O.b _ hown,x.notT hown,fun m=>?_,P.vr (hv.solid hs)⟩
      rcases List.mem_cons.mp m with m | m
      · exact x.cell_ne hmem m
      · exact x.notF hown m
    · exact P.cel (x.I.cel z u e') fun c' hc'' q=>hne (x.cells_inj hc'' (q▸hc))
theorem FI.wide (I:FI F st env B μ fm s) (hB:∀ b,B b→B' b) (hn:∀ b,B' b→B b∨s.heap.get? b=none) (k:∀ b o,s.heap.get? b=some o→s'.heap.get? b=some o) (tk:s.toks≤s'.toks) (ex:∀ b,B' b→∃ o,s'.heap.get? b=some o):FI F st env B' μ fm s':=by
  have kb:KeepB B s.heap s'.heap:=fun b o q Z=>k b o q
  have hb:∀ b o,s.heap.get? b=some o→B' b→B b:=fun b o q y=>by
    rcases hn b y with z | z
    · exact z
    · rw [z] at q;cases q
  have kv:∀ {p:PV} {q:PySem.Value},VR B s.heap p q→VR B' s'.heap p q:=fun z=>VR.keep kb hb z
  refine ⟨I.gi.keeps k,⟨fun b t=>hB b (I.bd.t b t),fun b f=>hB b (I.bd.f b f),ex⟩,I.sc,I.kind,I.glo,I.bui,I.nt,hB _ I.bl,?_,fun y u e=>?_,?_,fun e k=>(I.tk e k).up tk,I.code⟩
  · obtain ⟨m,hns,hm⟩:=I.ns
    exact ⟨m,hns.keeps k,fun z u e=>let ⟨w',a,b⟩:=hm z u e;⟨w',a,by cases u<;>first | exact kv b | exact b⟩⟩
  · obtain ⟨c,o,w',h1,h2,h3,h4,h5,h6,h7⟩:=I.cel y u e;clear e
    exact ⟨c,o,w',h1,k _ _ h2,h3,hB _ h4,h5,h6,kv h7⟩
  · have m:=I.mu
    revert m
    rcases fm.mu with Z | (l | ⟨D,fs⟩)
    · exact id
    · intro ⟨c,vs,n',h1,h2,h3,h4,h5,h6,h7⟩
      exact MuL.mk c vs n' h1 (hB _ h2) h3 h4 (k _ _ h5) h6 (VRs.keep kb hb h7)
    · intro ⟨d,es,n',h1,h2,h2',h4,h5,h6,h7,h8,h9,h10⟩
      exact MuO.mk d es n' h1 (hB _ h2) (hB _ h2') h4 h5 h6 h7 (k _ _ h8) (k _ _ h9) (VRf.keep kb hb h10)
theorem At.wide (x:At F st s₀ env B μ₀ fm B' μ s) (hB:∀ b,B' b→B'' b) (hn:∀ b,B'' b→B' b∨s.heap.get? b=none) (k:∀ b o,s.heap.get? b=some o→s'.heap.get? b=some o) (tk:s.toks≤s'.toks)
    (g:GoS (env.locals::F) st s s') (ex:∀ b,B'' b→∃ o,s'.heap.get? b=some o):At F st s₀ env B μ₀ fm B'' μ s' where
  G₀:=x.G₀
  g:=x.g.transL (x.O.new _ mem_loc) g
  tk:=Nat.le_trans x.tk tk
  O:=⟨x.O.nd,x.O.new,fun b hb=>hB b (x.O.b b hb),fun n c hc=>let ⟨v,hv⟩:=x.O.cel n c hc;⟨v,hv.keeps k⟩,x.O.has,x.O.fr⟩
  hB:=fun b hb=>hB b (x.hB b hb)
  I:=x.I.wide hB hn k tk ex
  mu₀:=x.mu₀
end
end Mine
end
section
open PySem PySem.W PySem.Calls PyProof.Rows
namespace Mine
section
variable (F:List Addr) (fr:List Env) (st:Bool) (s₀:Shared) (env:Env) (B:Addr→Prop) (μ₀:Option Addr)
inductive NxS (fm:Fm) (fl:Flow) (s:Shared):Prop
  | mk (e:fl=.next) (B':Addr→Prop) (μ:Option Addr) (a:At F st s₀ env B μ₀ fm B' μ s)
inductive RtS (v:PV) (fm:Fm) (fl:Flow) (s:Shared):Prop
  | mk (vv:PySem.Value) (B':Addr→Prop) (μ:Option Addr) (e:fl=.ret vv) (a:At F st s₀ env B μ₀ fm B' μ s) (q:VV B' s.heap μ v vv)
noncomputable def PostS (r:SR):Flow→Shared→Prop:=fun fl s=>match r with
  | .nx fm=>NxS F st s₀ env B μ₀ fm fl s
  | .rt v fm=>RtS F st s₀ env B μ₀ v fm fl s
  | .ex _=>False
inductive PostSX (r:SR) (x:PySem.Value) (s:Shared):Prop
  | mk (fm:Fm) (B':Addr→Prop) (μ:Option Addr) (s₁:Shared) (e:r=.ex fm) (a:At F st s₀ env B μ₀ fm B' μ s₁) (tk:s₁.toks≤s.toks) (y:ExcX (env.locals::F) (env::fr) s₁ s x)
inductive PostSH (r:SR) (x:PySem.Value) (s:Shared):Prop
  | mk (fm:Fm) (B':Addr→Prop) (μ:Option Addr) (s₁:Shared) (e:r=.ex fm) (a:At F st s₀ env B μ₀ fm B' μ s₁) (tk:s₁.toks≤s.toks) (y:ExcH (env.locals::F) (env::fr) s₁ s x)
end
section
variable {C:CallSem} {d n:Nat} {A:Around} {F:List Addr} {fr:List Env} {st:Bool} {B B':Addr→Prop} {μ μ₀:Option Addr} {env:Env} {fm:Fm} {s₀ s s':Shared} {r:SR}
theorem seqS {β:Type} {t:Sem β} {α:Type} {x:R α} {r:SR} {f:α→S} {r₁:Res α} {Φ:α→β→Shared→Prop} {Q:β→Shared→Prop} (hat:At F st s₀ env B μ₀ fm B' μ s)
    (h:sbind x fm f=some r) (hr:x=some r₁) (hw:wpAny (model prog w0) A t (Post (env.locals::F) st s r₁ Φ) (PostX (env.locals::F) (env::fr) s r₁) s)
    (hk:∀ p v s',f p=some r→At F st s₀ env B μ₀ fm B' μ s'→Φ p v s'→GoS (env.locals::F) st s s'→Q v s'):wpAny (model prog w0) A t Q (PostSX F fr st s₀ env B μ₀ r) s:=by
  subst hr
  refine wpAny_mono (wpAny_toks hw) (fun v s' ⟨tk',g',p,e,q⟩=>?_) fun x s' ⟨tk',e,y⟩=>?_
  · subst e
    exact hk p v s' h (hat.go g' tk') q g'
  · subst e
    cases h
    exact ⟨fm,B',μ,s,rfl,hat,tk',.inl y⟩
theorem sbind_some {α:Type} {x:R α} {f:α→S} {r:SR} (h:sbind x fm f=some r):∃ r₁,x=some r₁:=by
  induction x with
  | none=>cases h
  | some r=>exact ⟨r,rfl⟩
structure SoundX (C:CallSem) (d n:Nat):Prop where
  X:∀ {A:Around} {F:List Addr} {fr:List Env} {st:Bool} {B B':Addr→Prop} {μ μ₀:Option Addr} {env:Env} {fm:Fm} {e:Stmt} {r:SR} {s₀ s:Shared},Cx d st A (env.locals::F) (env::fr)→At F st s₀ env B μ₀ fm B' μ s→(st=true→∀ f,r≠.ex f)→execE K0 C n st fm e=some r →
    wpAny (model prog w0) A (exec e env) (PostS F st s₀ env B μ₀ r) (PostSX F fr st s₀ env B μ₀ r) s
  XS:∀ {A:Around} {F:List Addr} {fr:List Env} {st:Bool} {B B':Addr→Prop} {μ μ₀:Option Addr} {env:Env} {fm:Fm} {e:List Stmt} {r:SR} {s₀ s:Shared},Cx d st A (env.locals::F) (env::fr)→At F st s₀ env B μ₀ fm B' μ s→(st=true→∀ f,r≠.ex f)→execEs K0 C n st fm e=some r →
    wpAny (model prog w0) A (execs e env) (PostS F st s₀ env B μ₀ r) (PostSX F fr st s₀ env B μ₀ r) s
theorem sx_Return {e:PySem.Expr} {pos:Pos} (ih:Sound C d n) (X:Cx d st A (env.locals::F) (env::fr)) (hat:At F st s₀ env B μ₀ fm B' μ s)
    (h:sbind (evalE K0 C n st fm e) fm (fun v=>some (.rt v fm))=some r):
    wpAny (model prog w0) A (exec (.Return (some e) pos) env) (PostS F st s₀ env B μ₀ r) (PostSX F fr st s₀ env B μ₀ r) s:=by
  obtain ⟨r₁,h1⟩:=sbind_some h
  refine wpAny_Return_some (seqS hat h h1 (ih.E X hat.I h1) fun p v s' e' a q Z=>?_)
  cases e'
  exact ⟨v,B',μ,rfl,a,q⟩
theorem sx_ReturnNone {pos:Pos} (hat:At F st s₀ env B μ₀ fm B' μ s) (h:some (SR.rt .none fm)=some r):
    wpAny (model prog w0) A (exec (.Return none pos) env) (PostS F st s₀ env B μ₀ r) (PostSX F fr st s₀ env B μ₀ r) s:=by
  cases h
  exact wpAny_Return_none ⟨.none,B',μ,rfl,hat,rfl⟩
theorem sx_If {t:Expr} {b o:List Stmt} {pos:Pos} (ih:Sound C d n) (ix:SoundX C d n) (X:Cx d st A (env.locals::F) (env::fr)) (hat:At F st s₀ env B μ₀ fm B' μ s) (hst:st=true→∀ f,r≠.ex f)
    (h:sbind (testE K0 C n st fm t) fm (fun p=>execEs K0 C n st fm (bif p then b else o))=some r):
    wpAny (model prog w0) A (exec (.If t b o pos) env) (PostS F st s₀ env B μ₀ r) (PostSX F fr st s₀ env B μ₀ r) s:=by
  obtain ⟨r₁,h1⟩:=sbind_some h
  refine wpAny_If (seqS hat h h1 (ih.TE X hat.I h1) fun p c s' e' a q Z=>?_)
  subst q
  cases c<;>exact ix.XS X a hst e'
theorem sx_nil (hat:At F st s₀ env B μ₀ fm B' μ s) (h:some (SR.nx fm)=some r):
    wpAny (model prog w0) A (execs [] env) (PostS F st s₀ env B μ₀ r) (PostSX F fr st s₀ env B μ₀ r) s:=by
  cases h
  exact wpAny_execs_nil ⟨rfl,B',μ,hat⟩
theorem sx_cons {e:Stmt} {l:List Stmt} (ix:SoundX C d n) (X:Cx d st A (env.locals::F) (env::fr)) (hat:At F st s₀ env B μ₀ fm B' μ s) (hst:st=true→∀ f,r≠.ex f)
    (h:ask (execE K0 C n st fm e) (fun q=>thenS q fun f=>execEs K0 C n st f l)=some r):
    wpAny (model prog w0) A (execs (e::l) env) (PostS F st s₀ env B μ₀ r) (PostSX F fr st s₀ env B μ₀ r) s:=by
  refine wpAny_execs_cons ?_
  obtain ⟨r₁,h1,h2⟩:=ask_some h;clear h
  induction r₁ with
  | nx f=>exact wpAny_mono (ix.X X hat (fun Z Z e=>by cases e) h1) (fun fl s' z1=>by obtain ⟨e,Z,Z,a⟩:=z1;subst e;exact ix.XS X a hst h2) fun x s' z2=>by obtain ⟨Z,Z,Z,Z,e,Z,Z,Z⟩:=z2;exact nomatch e
  | rt v f=>
    cases h2
    exact wpAny_mono (ix.X X hat (fun Z Z e=>by cases e) h1) (fun fl s' z10=>by obtain ⟨vv,B2,μ2,e,z1,z2⟩:=z10;subst e;exact ⟨vv,B2,μ2,rfl,z1,z2⟩) fun x s' y=>y
  | ex f=>
    cases h2
    exact wpAny_mono (ix.X X hat hst h1) (fun Z Z q=>q.elim) fun x s' y=>y
theorem swaps_name {e:PySem.Expr} {t:PySem.Expr} {l:Nat} (h:notComp e=true):swapsWith e (some t) l env=pure false:=by
  induction e using PySem.Expr.casesOn<;>first | rfl | cases h
theorem swaps_none {e:PySem.Expr} {l:Nat} (h:notComp e=true):swapsWith e none l env=pure false:=by
  induction e using PySem.Expr.casesOn<;>first | rfl | cases h
theorem swaps_tup {e:PySem.Expr} {ts:List PySem.Expr} {k:Nat} {p:Pos} {l:Nat}:swapsWithSole [.Tuple ts k p] e l env=pure false:=by
  induction e using PySem.Expr.casesOn<;>rfl
theorem swaps_attr {e:PySem.Expr} {o:PySem.Expr} {a:PySem.Str} {p:Pos} {l:Nat}:swapsWith e (some (.Attribute o a p)) l env=pure false:=by
  induction e using PySem.Expr.casesOn<;>rfl
theorem nx_some {o:Option Fm} {r:SR} (h:nx o=some r):∃ f,o=some f∧r=.nx f:=by induction o with
  | none=>exact nov h
  | some f=>exact ⟨f,rfl,(Option.some.inj h).symm⟩
theorem storeS {x:Str} {v:PV} {vv:Value} (hat:At F st s₀ env B μ₀ fm B' μ s) (h:nx (setN fm x v)=some r) (q:VV B' s.heap μ v vv):
    wpAny (model prog w0) A (storeName env x vv) (fun Z=>PostS F st s₀ env B μ₀ r .next) (PostSX F fr st s₀ env B μ₀ r) s:=by
  obtain ⟨f,hn,rfl⟩:=nx_some h;clear h
  exact wpAny_mono (store_ok hat hn q) (fun Z s' y=>⟨rfl,B',μ,y.1⟩) fun Z Z y=>y
theorem sx_AssignName {x:PySem.Str} {xp pos:Pos} {e:PySem.Expr} (ih:Sound C d n) (X:Cx d st A (env.locals::F) (env::fr)) (hat:At F st s₀ env B μ₀ fm B' μ s)
    (h:sbind (evalE K0 C n st fm e) fm (fun v=>nx (setN fm x v))=some r) (hs:swapsWith e (some (.Name x xp)) pos.line env=pure false):
    wpAny (model prog w0) A (exec (.Assign [.Name x xp] e pos) env) (PostS F st s₀ env B μ₀ r) (PostSX F fr st s₀ env B μ₀ r) s:=by
  obtain ⟨r₁,h1⟩:=sbind_some h
  exact wpAny_Assign_Name (seqS hat h h1 (ih.E X hat.I h1) fun p v s' e' a q Z=>storeS a e' q) hs
theorem sx_Expr {pos:Pos} {e:PySem.Expr} (ih:Sound C d n) (X:Cx d st A (env.locals::F) (env::fr)) (hat:At F st s₀ env B μ₀ fm B' μ s)
    (h:sbind (evalE K0 C n st fm e) fm (fun Z=>some (.nx fm))=some r) (hc:notComp e=true):
    wpAny (model prog w0) A (exec (.Expr e pos) env) (PostS F st s₀ env B μ₀ r) (PostSX F fr st s₀ env B μ₀ r) s:=by
  obtain ⟨r₁,h1⟩:=sbind_some h
  refine wpAny_Expr_any (seqS hat h h1 (ih.E X hat.I h1) fun p v s' e' a q Z=>?_) (by unfold interactive;rw [hat.I.sc,hat.I.kind];rfl) (swaps_none hc)
  cases e'
  exact ⟨rfl,B',μ,a⟩
theorem sx_Aug {x:PySem.Str} {xp pos:Pos} {e:PySem.Expr} (ih:Sound C d n) (X:Cx d st A (env.locals::F) (env::fr)) (hat:At F st s₀ env B μ₀ fm B' μ s)
    (h:(ask (nameE K0 fm x) fun a=>ask (asStr a) fun a=>sbind (evalE K0 C n st fm e) fm (augTo fm x a))=some r):
    wpAny (model prog w0) A (exec (.AugAssign (.Name x xp) .Add e pos) env) (PostS F st s₀ env B μ₀ r) (PostSX F fr st s₀ env B μ₀ r) s:=by
  obtain ⟨p,ha,h1⟩:=ask_some h;clear h
  obtain ⟨a,hp,h2⟩:=ask_some h1;clear h1
  obtain rfl:=asStr_of hp
  obtain ⟨r₁,h1⟩:=sbind_some h2
  refine wpAny_AugAssign_Name (wpAny_mono (load_eq hat.I ha) (fun va s' z=>?_) fun Z Z y=>y)
  obtain ⟨rfl,ta,rfl,na⟩:=z
  refine seqS hat h2 h1 (ih.E X hat.I h1) fun p v s' e' at' q Z=>?_
  obtain ⟨b,hb,h3⟩:=ask_some e';clear e'
  obtain ⟨hl,h4⟩:=grd_some h3;clear h3
  have hl:=of_decide_eq_true hl
  rw [asStr_of hb] at q
  obtain ⟨tb,rfl,nb⟩:=q
  have hs:lenLine≤sizeLine:=by decide
  refine wpAny_mono (wpAny_toks (PySem.SB.iadd (E:=fun Z Z=>False) (Q:=fun v s₁=>∃ t' k,v=PySem.Value.str (a++b) t'∧s₁={ s' with toks:=k }) (fun t' k=>⟨t',k,rfl,rfl⟩) (Nat.le_trans hl hs))) (fun v s₁ z=>?_) fun Z Z y=>y.2.elim
  obtain ⟨tk1,t',k,rfl,rfl⟩:=z
  exact storeS (at'.go (GoS.toks (tk:=k)) tk1) h4 ⟨t',rfl,by rw [Str.length_append];exact hl⟩
theorem soundX_zero:SoundX C d 0 where
  X:=fun Z Z Z h=>nov h
  XS:=fun Z Z Z h=>nov h
theorem snd_XS {l:List Stmt} (ix:SoundX C d n) (X:Cx d st A (env.locals::F) (env::fr)) (hat:At F st s₀ env B μ₀ fm B' μ s) (hst:st=true→∀ f,r≠.ex f) (h:execsK (ExN K0 C n) st fm l=some r):
    wpAny (model prog w0) A (execs l env) (PostS F st s₀ env B μ₀ r) (PostSX F fr st s₀ env B μ₀ r) s:=by
  induction l using List.casesOn with
  | nil=>exact sx_nil hat h
  | cons e l=>exact sx_cons ix X hat hst h
end
end Mine
end
section
open PySem PySem.W PySem.Calls PyProof.Rows
namespace Mine
section
variable {A:Around} {F:List Addr} {st:Bool} {B B' B₂:Addr→Prop} {μ μ₂ μ₀:Option Addr} {env:Env} {fm fm₂:Fm} {s₀ s s':Shared} {h h':Heap} {I:Addr}
noncomputable def bare (env:Env) (fm:Fm) (μ:Option Addr) (s:Shared):Shared:={ s with heap:=without s.heap (ownA env fm.mu μ) }
theorem At.agree (x:At F st s₀ env B μ₀ fm B' μ s) {b:Addr} (e:∃ o,s₀.heap.get? b=some o):(bare env fm μ s).heap.get? b=s.heap.get? b:=by
  obtain ⟨o,e⟩:=e
  exact without_not fun m=>ne_new (x.O.new b m) e rfl
theorem At.rebase (x:At F st s₀ env B μ₀ fm B' μ s):At F st (bare env fm μ s) env B' μ₀ fm B' μ s where
  G₀:=by
    have Gs:=x.G₀.go x.g.go
    refine ⟨fun a o q=>(x.agree ⟨o,x.G₀.k a o q⟩).trans (Gs.k a o q),Gs.apart,fun b hb=>?_,?_,?_,?_,Gs.tab.at fun p hp=>?_,Gs.codes⟩
    · obtain ⟨h1,h2,h3,h4,o,ho,n⟩:=Gs.apartF b hb
      obtain ⟨Z,Z,Z,Z,o',ho',Z⟩:=x.G₀.apartF b hb;clear hb
      exact ⟨h1,h2,h3,h4,o,(x.agree ⟨o',ho'⟩).trans ho,n⟩
    · obtain ⟨Z,⟨o',Z,Z,ho',Z⟩,Z⟩:=x.G₀.b
      obtain ⟨mb,a,r⟩:=Gs.b
      exact ⟨mb,a.at fun o q=>(x.agree ⟨o',ho'⟩).trans q,r⟩
    · obtain ⟨Z,⟨o',Z,Z,ho',Z⟩,Z⟩:=x.G₀.dig
      exact Gs.lim.at fun o q=>(x.agree ⟨o',ho'⟩).trans q
    · obtain ⟨Z,⟨o',Z,Z,ho',Z⟩,Z⟩:=x.G₀.dig
      obtain ⟨mc,a,r⟩:=Gs.dig
      exact ⟨mc,a.at fun o q=>(x.agree ⟨o',ho'⟩).trans q,r⟩
    · obtain ⟨e1,e2⟩:=x.G₀.tab.has hp;clear hp
      exact ⟨fun o q=>(x.agree e1).trans q,fun o q=>(x.agree e2).trans q⟩
  g:=GoS.of_keeps ⟨s.heap,s.toks,rfl,without_stays⟩
  tk:=Nat.le_refl _
  O:=⟨x.O.nd,fun b hb=>without_in hb,x.O.b,x.O.cel,x.O.has,x.O.fr⟩
  hB:=fun Z b=>b
  I:=x.I
  mu₀:=x.mu₀
theorem At.unbase (x:At F st s₀ env B μ₀ fm B' μ s) (y:At F st (bare env fm μ s) env B' μ₀ fm₂ B₂ μ₂ s'):At F st s₀ env B μ₀ fm₂ B₂ μ₂ s' where
  G₀:=x.G₀
  g:=by
    have hx:=x.g
    have hy:=y.g
    have ag:∀ b o,s₀.heap.get? b=some o→(bare env fm μ s).heap.get? b=s.heap.get? b:=fun b o e=>x.agree ⟨o,e⟩
    induction st with
    | true=>
      obtain ⟨h1,t1,rfl,k1⟩:=hx
      obtain ⟨h2,t2,rfl,k2⟩:=hy
      exact ⟨h2,t2,rfl,fun b o e=>k2 b o ((ag b o e).trans (k1 b o e))⟩
    | false=>
      have hx:Go F s₀ s:=hx
      have hy:Go F (bare env fm μ s) s':=hy
      refine ⟨⟨fun b o e t f=>hy.ext.keep b o ((ag b o e).trans (hx.ext.keep b o e t f)) t f,fun b ps t e=>?_,fun b o f e n=>?_⟩,fun Z=>y.I.gi.tab,hy.os.trans hx.os,fun i gs e=>hy.gens i gs (hx.gens i gs e),fun b=>hy.bare (hx.bare b)⟩
      · obtain ⟨m,hm⟩:=hx.ext.grow b ps t e
        obtain ⟨m',hm'⟩:=hy.ext.grow b _ t ((ag b _ e).trans hm);clear hm
        exact ⟨m++m',by rw [hm',Array.append_assoc]⟩
      · obtain ⟨sl,z⟩:=hx.ext.fr b o f e n
        obtain ⟨sl',z'⟩:=hy.ext.fr b _ f ((ag b _ e).trans z) n;clear n
        exact ⟨sl',z'⟩
  tk:=Nat.le_trans x.tk y.tk
  O:=by
    refine ⟨y.O.nd,fun b hb=>?_,y.O.b,y.O.cel,y.O.has,y.O.fr⟩
    induction e:s₀.heap.get? b with
    | none=>rfl
    | some o=>
      have n:=y.O.new b hb
      rw [x.agree ⟨o,e⟩] at n
      obtain ⟨o',q⟩:=x.g.go.ext.there (x.g.go.tab x.G₀.tab) (fun b hb=>(x.G₀.apartF b hb).ex) ⟨o,e⟩
      rw [n] at q;cases q
  hB:=fun b hb=>y.hB b (x.hB b hb)
  I:=y.I
  mu₀:=y.mu₀
theorem At.skip {tk:Tok} (x:At F st s₀ env B μ₀ fm B' μ s) (hI:s₀.heap.get? I=none) (nI:I∉ownA env fm.mu μ) (bI:B' I) (ex:∃ o,h'.get? I=some o) (k:Heap.ExtBut I s.heap h') (htk:s.toks≤tk):At F st s₀ env B μ₀ fm B' μ { s with heap:=h',toks:=tk }:=
  have P:=Pass.same k bI
  x.change hI P htk (fun Z=>ex) (fun m=>absurd m nI) (fun Z=>bI) rfl rfl rfl (fun Z hc=>absurd (mem_cel (mem_of_lookup hc)) nI) (P.ns x.I.ns fun e=>nI (e▸mem_loc)) (fun y u e=>P.cel (x.I.cel y u e) fun c hc q=>nI (q▸mem_cel (mem_of_lookup hc))) (P.mu x.I.mu fun b hb e=>nI (e▸mem_mu hb))
theorem At.drop {tk:Tok} (x:At F st s₀ env B μ₀ fm B' μ s) (hI:s₀.heap.get? I=none) (nI:I∉ownA env fm.mu μ) (bI:B' I) (nB:∀ b,B b→b≠I) (k:Heap.ExtBut I s.heap h') (htk:s.toks≤tk):At F st s₀ env B μ₀ fm (fun b=>B' b∧b≠I) μ { s with heap:=h',toks:=tk }:=
  have P:Pass B' (fun b=>B' b∧b≠I) I s.heap h':=⟨k,bI,fun Z x=>x.1,fun Z n x=>⟨x,n⟩⟩
  x.change hI P htk (fun e=>absurd rfl e.2) (fun m=>absurd m nI) (fun e=>absurd rfl (nB _ e)) rfl rfl rfl (fun Z hc=>absurd (mem_cel (mem_of_lookup hc)) nI) (P.ns x.I.ns fun e=>nI (e▸mem_loc)) (fun y u e=>P.cel (x.I.cel y u e) fun c hc q=>nI (q▸mem_cel (mem_of_lookup hc))) (P.mu x.I.mu fun b hb e=>nI (e▸mem_mu hb))
end
section
variable {C:CallSem} {d n:Nat} {A:Around} {F:List Addr} {fr:List Env} {st:Bool} {B B':Addr→Prop} {μ μ₀:Option Addr} {env:Env} {fm:Fm} {s₀ s s':Shared} {r:SR}
theorem noted_back {x:PySem.Value} (X:Cx d st A (env.locals::F) (env::fr)) (hst:st=true→∀ f,r≠.ex f) (y:PostSX F fr st s₀ env B μ₀ r x s):
    notedBy (model prog w0) A env (fun e s'=>cameBackBy (model prog w0) A env (PostSX F fr st s₀ env B μ₀ r) e s') x s:=by
  obtain ⟨fm,B',μ,s₁,rfl,hat,tk,y⟩:=y
  have hst':st=false:=by
    induction st with
    | false=>rfl
    | true=>exact absurd rfl (hst rfl fm)
  unfold notedBy
  refine wpAny_mono (note_ok (E:=fun e s'=>cameBackBy (model prog w0) A env (PostSX F fr st s₀ env B μ₀ (.ex fm)) e s') hat.I.gi X.fk (X.frames hst') rfl hat.O.fr y) (fun Z s' z1=>?_) fun Z Z z=>z
  obtain ⟨z,tk'⟩:=z1
  have:=back_ok (A:=A) rfl hat.O.fr z
  unfold cameBackBy at this ⊢
  exact wpAny_mono this (fun Z s'' z1=>by obtain ⟨q,tk''⟩:=z1;exact ⟨fm,B',μ,s₁,rfl,hat,Nat.le_trans tk (Nat.le_trans tk' tk''),.inr q⟩) fun Z s'' z2=>by obtain ⟨q,tk''⟩:=z2;exact ⟨fm,B',μ,s₁,rfl,hat,Nat.le_trans tk (Nat.le_trans tk' tk''),.inr q⟩
theorem while_test {l:Expr} {op:CmpOp} {c:Int} {k:Nat} {q pos:Pos} {r:Res Bool} {whole:Sem Value} (sc:SC C d) (ih:Sound C d n) (X:Cx d st A F fr) (I:FI F st env B μ fm s)
    (h:cmpT K0 C (EvN K0 C n) st fm l op (.Constant (.int c) k q)=some r):
    wpAny (model prog w0) A (isTrue (.Compare l [op] [.Constant (.int c) k q] pos) env whole) (Post F st s r fun b c s'=>c=b∧1≤s'.toks) (PostX F fr s r) s:=by
  obtain ⟨hm,h⟩:=grd_some h
  obtain ⟨r₁,h1,h2,h3⟩:=sub_E h ih X I
  refine wpAny_isTrue_Compare1 (seqG (.refl ..) h1 h2 fun p v s' e g Z tk q=>?_) (not_tt hm)
  have I':=I.go g.go tk
  obtain ⟨r₂,k1,k2,k3⟩:=rbind_first (h3 p e)
  induction n using Nat.casesOn with
  | zero=>exact nov k1
  | succ n=>
    obtain rfl:=rok_some (show rok (PV.int c)=some r₂ from k1)
    obtain ⟨r₃,c1,c2,c3⟩:=rbind_first (k3 _ rfl)
    have g':GoS F st s' { s' with toks:=s'.toks+1 }:=GoS.toks
    have I₂:=I'.go g'.go (Nat.le_succ _)
    refine wpAny_Constant_int (wpAny_with_toks (n:=1) (Nat.le_add_left 1 _) (wpAny_mono (seqG (Q:=fun v s₃=>1≤s₃.toks→wpAny (model prog w0) A (truthy v) (Post F st s r fun b c s'=>c=b∧1≤s'.toks) (PostX F fr s r) s₃) (g.trans g') (cmp_ok sc X I₂ c1 (q.go g'.go I'.bd) (VV.of (p:=.int c) ⟨_,rfl⟩)) c2 fun p₃ v₃ s₃ e₃ g₃ g₃' tk₃ q₃ h1=>
      wpAny_mono (wpAny_toks_of h1 (truth_tail (E:=PostX F fr s r) (c3 p₃ e₃) (VV.of (μ:=μ) q₃) g₃')) (fun c s₄ z=>?_) fun Z Z y=>y.2) (fun Z Z y=>y) fun Z Z y Z=>y))
    obtain ⟨y,g,p,e,q⟩:=z
    exact ⟨g,p,e,q,y⟩
theorem At.told (x:At F st s₀ env B μ₀ fm B' μ s) (h:1≤s.toks):At F st s₀ env B μ₀ { fm with tk:=true } B' μ s:=
  ⟨x.G₀,x.g,x.tk,x.O,x.hB,⟨x.I.gi,x.I.bd,x.I.sc,x.I.kind,x.I.glo,x.I.bui,x.I.nt,x.I.bl,x.I.ns,x.I.cel,x.I.mu,fun Z Z=>Nat.pos_iff_ne_zero.mp h,x.I.code⟩,x.mu₀⟩
theorem sx_While {l:Expr} {op:CmpOp} {c:Int} {kc:Nat} {qc rc pos:Pos} {b:List Stmt} (sc:SC C d) (ih:∀ m,m≤n→Sound C d m) (ix:∀ m,m≤n→SoundX C d m) (X:Cx d st A (env.locals::F) (env::fr)) (hat:At F st s₀ env B μ₀ fm B' μ s) (hst:st=true→∀ f,r≠.ex f)
    (h:execE K0 C (n+1) st fm (.While (.Compare l [op] [.Constant (.int c) kc qc] rc) b [] pos)=some r):
    wpAny (model prog w0) A (exec (.While (.Compare l [op] [.Constant (.int c) kc qc] rc) b [] pos) env) (PostS F st s₀ env B μ₀ r) (PostSX F fr st s₀ env B μ₀ r) s:=by
  refine wpAny_While (codeAny_whileLoop (fun k s=>k≤n+1∧∃ fm B' μ,At F st s₀ env B μ₀ fm B' μ s∧execE K0 C k st fm (.While (.Compare l [op] [.Constant (.int c) kc qc] rc) b [] pos)=some r) (fun k s z=>?_) (n+1) ⟨Nat.le_refl _,fm,B',μ,hat,h⟩)
  obtain ⟨hk,fm,B',μ,hat,h⟩:=z
  induction k using Nat.casesOn with
  | zero=>exact nov h
  | succ k=>
    have hk:=Nat.le_of_succ_le_succ hk
    have h:sbind (cmpT K0 C (EvN K0 C k) st fm l op (.Constant (.int c) kc qc)) fm (fun c2=>bif c2 then ask (execEs K0 C k st fm b) fun q=>thenS q fun f=>execE K0 C k st f (.While (.Compare l [op] [.Constant (.int c) kc qc] rc) b [] pos) else some (.nx { fm with tk:=true }))=some r:=h
    obtain ⟨r₁,h1⟩:=sbind_some h
    refine wpAny_mono (seqS hat h h1 (while_test sc (ih k hk) X hat.I h1) fun p c s' e' a q Z=>?_) (fun Z Z z=>z) fun x s' y=>noted_back X hst y
    obtain ⟨rfl,ht⟩:=q
    induction c with
    | false=>
      cases e'
      rw [if_neg (by decide)]
      exact wpAny_execs_nil ⟨rfl,_,_,a.told ht⟩
    | true=>
      rw [if_pos rfl]
      obtain ⟨r₂,h2,h3⟩:=ask_some e';clear e'
      have hst₂:st=true→∀ f,r₂≠.ex f:=fun e f q=>by
        subst q;cases h3;exact hst e f rfl
      refine wpAny_mono ((ix k hk).XS X a hst₂ h2) (fun fl s' q=>?_) fun x s' y=>?_
      · induction r₂ with
        | nx f=>obtain ⟨rfl,B2,μ2,a2⟩:=q;exact ⟨k,Nat.lt_succ_self _,Nat.le_succ_of_le hk,f,B2,μ2,a2,h3⟩
        | rt v f=>cases h3;obtain ⟨vv,B2,μ2,rfl,z,z2⟩:=q;exact ⟨vv,B2,μ2,rfl,z,z2⟩
        | ex f=>exact q.elim
      · obtain ⟨f,B2,μ2,s₁,rfl,z,z2,z3⟩:=y
        cases h3
        exact noted_back X hst ⟨f,B2,μ2,s₁,rfl,z,z2,z3⟩
end
end Mine
end
section
open PySem PySem.W PySem.Calls PyProof.Rows
namespace Mine
section
variable {C:CallSem} {d n:Nat} {A:Around} {F:List Addr} {fr:List Env} {st:Bool} {B B':Addr→Prop} {μ μ₀:Option Addr} {env:Env} {fm:Fm} {s₀ s s':Shared} {r:SR}
theorem PostSX.unbase {v:PySem.Value} (x:At F st s₀ env B μ₀ fm B' μ s) (y:PostSX F fr st (bare env fm μ s) env B' μ₀ r v s'):PostSX F fr st s₀ env B μ₀ r v s':=by
  obtain ⟨f,B2,μ2,s₁,e,a,z,z'⟩:=y
  exact ⟨f,B2,μ2,s₁,e,x.unbase a,z,z'⟩
theorem pv_vv {p:PV} {v:PySem.Value} {h:Heap} (e:pvOf v=some p) (ok:okPV p):VV B h μ p v:=VV.of (vr_simple e ok)
structure Turn (F:List Addr) (st:Bool) (s₀:Shared) (env:Env) (B:Addr→Prop) (μ₀:Option Addr) (Ia:Addr) (fp:List Addr) (St:Nat→Heap→Prop) (i:Nat) (fm:Fm) (B':Addr→Prop) (μ:Option Addr) (s:Shared):Prop where
  at_:At F st s₀ env B μ₀ fm B' μ s
  bI:B' Ia
  own:∀ b∈fp,b∉ownA env fm.mu μ
  ex:∀ b∈fp,∃ o,s.heap.get? b=some o
  st:St i s.heap
structure LoopF (F:List Addr) (s₀:Shared) (env:Env) (B:Addr→Prop) (l:List PV) (Ia:Addr) (fp:List Addr) (Pi:Nat→Value→Prop) (St:Nat→Heap→Prop):Prop where
  newI:s₀.heap.get? Ia=none
  stays:∀ b∈fp,¬ isT b∧b∉env.locals::F
  nB:∀ b,B b→b≠Ia
  Ifp:Ia∈fp
  item:∀ i u,Pi i u→∃ p,l[i]?=some p∧pvOf u=some p∧okPV p
  stI:∀ i h,St i h→∃ o,h.get? Ia=some o
  frame:∀ i h h',St i h→(∀ b∈fp,∀ o,h.get? b=some o→h'.get? b=some o)→St i h'
section
variable {l:List PV} {Ia:Addr} {fp:List Addr} {Pi:Nat→Value→Prop} {St:Nat→Heap→Prop} {i:Nat}
theorem loop_start {s₁ s₂:Shared} (a:At F st s₀ env B μ₀ fm B' μ s₁) (W:Walk0 B' l Ia fp Pi St s₁ s₂) (Wk:Walks prog w0 A Ia fp [Ia] l.length Pi St):LoopF F s₀ env B l Ia fp Pi St∧Turn F st s₀ env B μ₀ Ia fp St 0 fm (fun b=>B' b∨b=Ia) μ s₂:=by
  have no:∀ b,B' b→b≠Ia:=fun b hb e=>by
    obtain ⟨o,q⟩:=a.I.bd.ex b hb;clear hb
    rw [e,W.new] at q;cases q
  have out:∀ b∈fp,¬ B' b:=fun b hb hB=>by
    rcases W.out b hb with rfl | hb'
    · exact no _ hB rfl
    · exact hb' hB
  obtain ⟨ob,rfl⟩:=W.same
  have kp:∀ b o,s₁.heap.get? b=some o→(s₁.heap.push ob).get? b=some o:=fun b o e=>Heap.get?_push_of_some _ e
  refine ⟨⟨?_,fun b hb=>⟨fun t=>out b hb (a.I.bd.t _ t),fun f=>out b hb (a.I.bd.f _ f)⟩,fun b hb=>no b (a.hB b hb),Wk.sub _ (List.mem_cons_self ..),W.at_,W.stI,Wk.frame⟩,
    a.wide (fun b hb=>.inl hb) (fun b hb=>hb.imp_right fun e=>by rw [e];exact W.new) kp (Nat.le_refl _) (GoS.of_keeps ⟨_,_,rfl,kp⟩) fun b hb=>?_,.inr rfl,fun b hb m=>out b hb (a.O.b _ m),W.ex,W.st⟩
  · induction e:s₀.heap.get? Ia with
    | none=>rfl
    | some o=>
      obtain ⟨o',q⟩:=a.g.go.ext.there (a.g.go.tab a.G₀.tab) (fun b hb=>(a.G₀.apartF b hb).ex) ⟨o,e⟩
      rw [W.new] at q;cases q
  · rcases hb with hb | rfl
    · obtain ⟨o,ho⟩:=a.I.bd.ex b hb;exact ⟨o,kp _ _ ho⟩
    · exact W.stI 0 _ W.st
theorem ext1 {h h':Heap} (k:∀ b o,b∉[Ia]→h.get? b=some o→h'.get? b=some o):Heap.ExtBut Ia h h':=fun b o n e=>k b o (fun m=>by
  rcases List.mem_cons.mp m with m | m
  · exact n m
  · cases m) e
theorem Turn.item {h':Heap} {tk:Tok} (L:LoopF F s₀ env B l Ia fp Pi St) (T:Turn F st s₀ env B μ₀ Ia fp St i fm B' μ s) (hSt:St (i+1) h') (k:Heap.ExtBut Ia s.heap h') (htk:s.toks≤tk):Turn F st s₀ env B μ₀ Ia fp St (i+1) fm B' μ { s with heap:=h',toks:=tk }:=
  ⟨T.at_.skip L.newI (T.own _ L.Ifp) T.bI (L.stI _ _ hSt) k htk,T.bI,T.own,fun b hb=>by
    by_cases e:b=Ia
    · subst e;exact L.stI _ _ hSt
    · obtain ⟨o,ho⟩:=T.ex b hb;exact ⟨o,k b o e ho⟩,hSt⟩
theorem Turn.bound {f:Fm} {s₄:Shared} (L:LoopF F s₀ env B l Ia fp Pi St) (T:Turn F st s₀ env B μ₀ Ia fp St i fm B' μ s) (a:At F st s₀ env B μ₀ f B' μ s₄) (mu:f.mu=fm.mu) (k:∀ b o,b∉ownA env fm.mu μ→s.heap.get? b=some o→s₄.heap.get? b=some o):Turn F st s₀ env B μ₀ Ia fp St i f B' μ s₄:=
  ⟨a,T.bI,fun b hb=>by rw [mu];exact T.own b hb,fun b hb=>let ⟨o,ho⟩:=T.ex b hb;⟨o,k b o (T.own b hb) ho⟩,L.frame i _ _ T.st fun b hb o e=>k b o (T.own b hb) e⟩
theorem Turn.ran {g:Fm} {B2:Addr→Prop} {μ2:Option Addr} {s₅:Shared} (L:LoopF F s₀ env B l Ia fp Pi St) (T:Turn F st s₀ env B μ₀ Ia fp St i fm B' μ s) (a:At F st (bare env fm μ s) env B' μ₀ g B2 μ2 s₅):Turn F st s₀ env B μ₀ Ia fp St i g B2 μ2 s₅:=by
  have old:∀ b∈fp,∀ o,s.heap.get? b=some o→(bare env fm μ s).heap.get? b=some o∧s₅.heap.get? b=some o:=fun b hb o ho=>
    have e1:(bare env fm μ s).heap.get? b=some o:=(without_not (T.own b hb)).trans ho
    ⟨e1,a.g.go.ext.keep b o e1 (L.stays b hb).1 fun m=>(L.stays b hb).2 (List.mem_cons_of_mem _ m)⟩
  refine ⟨T.at_.unbase a,a.hB _ T.bI,fun b hb m=>?_,fun b hb=>let ⟨o,ho⟩:=T.ex b hb;⟨o,(old b hb o ho).2⟩,L.frame _ _ _ T.st fun b hb o e=>(old b hb o e).2⟩
  obtain ⟨o,ho⟩:=T.ex b hb
  exact nomatch (a.O.new b m).symm.trans (old b hb o ho).1
inductive LoopI (C:CallSem) (N:Nat) (F:List Addr) (st:Bool) (s₀:Shared) (env:Env) (B:Addr→Prop) (μ₀:Option Addr) (Ia:Addr) (fp:List Addr) (St:Nat→Heap→Prop) (x:Str) (l:List PV) (b:List Stmt) (r:SR) (k:Nat) (s:Shared):Prop
  | mk (hk:k≤N) (i:Nat) (fm:Fm) (B₁:Addr→Prop) (μ:Option Addr) (hi:i≤l.length) (T:Turn F st s₀ env B μ₀ Ia fp St i fm B₁ μ s) (h:forE K0 C k st fm x (l.drop i) b=some r)
noncomputable abbrev LoopE (A:Around) (F:List Addr) (fr:List Env) (st:Bool) (s₀:Shared) (env:Env) (B:Addr→Prop) (μ₀:Option Addr) (r:SR):Value→Shared→Prop:=
  notedBy (model prog w0) A env fun e s'=>cameBackBy (model prog w0) A env (PostSX F fr st s₀ env B μ₀ r) e s'
theorem forE_cons {k i:Nat} {x:Str} {b:List Stmt} (hlt:i < l.length) (h:forE K0 C (k+1) st fm x (l.drop i) b=some r):ask (setN fm x l[i]) (fun f=>ask (execEs K0 C k st f b) fun q=>thenS q fun g=>forE K0 C k st g x (l.drop (i+1)) b)=some r:=by
  rw [List.drop_eq_getElem_cons hlt] at h
  exact h
theorem turn_body {N k:Nat} {x:Str} {b:List Stmt} (ix:SoundX C d k) (X:Cx d st A (env.locals::F) (env::fr)) (hst:st=true→∀ f,r≠.ex f) (hk:k+1≤N) (hi:i+1≤l.length) (L:LoopF F s₀ env B l Ia fp Pi St) (T:Turn F st s₀ env B μ₀ Ia fp St (i+1) fm B' μ s)
    (h:ask (execEs K0 C k st fm b) (fun q=>thenS q fun g=>forE K0 C k st g x (l.drop (i+1)) b)=some r):
    wpAny (model prog w0) A (execs b env) (fun f s₃=>match f with
      | .next | .cont=>∃ m,m < k+1∧LoopI C N F st s₀ env B μ₀ Ia fp St x l b r m s₃
      | .brk=>PostS F st s₀ env B μ₀ r .next s₃
      | .ret v=>PostS F st s₀ env B μ₀ r (.ret v) s₃) (LoopE A F fr st s₀ env B μ₀ r) s:=by
  obtain ⟨r₂,h2,h1⟩:=ask_some h;clear h
  induction r₂ with
  | nx g=>
    refine wpAny_mono (ix.XS X T.at_.rebase (fun Z Z e=>by cases e) h2) (fun fl s₅ z1=>?_) fun x s' z2=>by obtain ⟨Z,Z,Z,Z,e,Z,Z,Z⟩:=z2;exact nomatch e
    obtain ⟨e,B2,μ2,a5⟩:=z1
    subst e
    exact ⟨k,Nat.lt_succ_self _,Nat.le_of_succ_le hk,i+1,g,B2,μ2,hi,T.ran L a5,h1⟩
  | rt v g=>
    cases h1
    exact wpAny_mono (ix.XS X T.at_.rebase (fun Z Z e=>by cases e) h2) (fun fl s₅ z1=>by obtain ⟨vv,B2,μ2,e,a,q⟩:=z1;subst e;exact ⟨vv,B2,μ2,rfl,T.at_.unbase a,q⟩) fun x s' z2=>by obtain ⟨Z,Z,Z,Z,e,Z,Z,Z⟩:=z2;exact nomatch e
  | ex g=>
    cases h1
    exact wpAny_mono (ix.XS X T.at_.rebase hst h2) (fun Z Z q=>q.elim) fun x s' y=>noted_back X hst (PostSX.unbase T.at_ y)
inductive Item (Pi:Nat→Value→Prop) (St:Nat→Heap→Prop) (Ia:Addr) (i:Nat) (s:Shared) (v:Option Value) (s':Shared):Prop
  | mk (u:Value) (h':Heap) (tk:Tok) (e:v=some u) (es:s'={ s with heap:=h',toks:=tk }) (p:Pi i u) (q:St (i+1) h') (k:∀ b o,b∉[Ia]→s.heap.get? b=some o→h'.get? b=some o)
inductive ItEnd (Ia:Addr) (s:Shared) (v:Option Value) (s':Shared):Prop
  | mk (h':Heap) (tk:Tok) (e:v=none) (es:s'={ s with heap:=h',toks:=tk }) (k:∀ b o,b∉[Ia]→s.heap.get? b=some o→h'.get? b=some o)
theorem loop_ok {N:Nat} {x:Str} {xp:Pos} {b:List Stmt} {s₂:Shared} (ix:∀ m,m≤N→SoundX C d m) (X:Cx d st A (env.locals::F) (env::fr)) (hst:st=true→∀ f,r≠.ex f) (Wk:Walks prog w0 A Ia fp [Ia] l.length Pi St) (L:LoopF F s₀ env B l Ia fp Pi St) (T:Turn F st s₀ env B μ₀ Ia fp St 0 fm B' μ s₂)
    (h:forE K0 C N st fm x l b=some r):codeAny (model prog w0) A (.forLoop (.Name x xp) (.ref Ia) b [] env) (fun r' s'=>match r' with | .ok f=>PostS F st s₀ env B μ₀ r f s' | .error e=>cameBackBy (model prog w0) A env (PostSX F fr st s₀ env B μ₀ r) e s') s₂:=by
  refine codeAny_forLoop (LoopI C N F st s₀ env B μ₀ Ia fp St x l b r) (fun k s z1=>?_) N ⟨Nat.le_refl _,0,fm,_,μ,Nat.zero_le _,T,h⟩
  obtain ⟨hk,i,fm,B₁,μ,hi,hT,h⟩:=z1
  induction k using Nat.casesOn with
  | zero=>exact nov h
  | succ k=>
    by_cases hlt:i < l.length
    · obtain ⟨f,hs,h1⟩:=ask_some (forE_cons hlt h);clear h
      refine wpAny_mono (wpAny_toks (Wk.item i s (Item Pi St Ia i s) (LoopE A F fr st s₀ env B μ₀ r) hlt hT.st fun v h' tk p q k=>⟨v,h',tk,rfl,rfl,p,q,k⟩)) (fun v s' z1=>?_) fun Z Z z=>z.2
      obtain ⟨tk,u,h',tk',ev,es,hP,hSt,hk'⟩:=z1
      subst ev;subst es
      obtain ⟨p,p1,p2,p3⟩:=L.item i u hP;clear hP
      obtain rfl:=Option.some.inj ((List.getElem?_eq_getElem hlt).symm.trans p1);clear p1
      have T3:=hT.item (tk:=tk') L hSt (ext1 hk') tk
      exact wpAny_assign_Name (wpAny_mono (store_ok T3.at_ hs (pv_vv p2 p3)) (fun Z s₄ z1=>by obtain ⟨a4,Z,mu4,k4⟩:=z1;exact turn_body (ix k (Nat.le_of_succ_le hk)) X hst hk hlt L (T3.bound L a4 mu4 k4) h1) fun Z Z z=>noted_back X hst z)
    · have e:=Nat.le_antisymm hi (Nat.le_of_not_lt hlt)
      clear hlt hi;subst e
      rw [List.drop_length] at h
      have e:=Option.some.inj h
      clear h hst ix;subst e
      refine wpAny_mono (wpAny_toks (Wk.done s (ItEnd Ia s) (LoopE A F fr st s₀ env B μ₀ (.nx fm)) hT.st fun h' tk k=>⟨h',tk,rfl,rfl,k⟩)) (fun v s' z1=>?_) fun Z Z z=>z.2
      obtain ⟨tk,h',tk',ev,es,hk'⟩:=z1
      subst ev;subst es
      exact wpAny_execs_nil ⟨rfl,_,μ,hT.at_.drop (h':=h') (tk:=tk') L.newI (hT.own _ L.Ifp) hT.bI L.nB (ext1 hk') tk⟩
end
inductive Itd (F:List Addr) (st:Bool) (env:Env) (B':Addr→Prop) (s:Shared) (r₁:Res (List PV)) (itv:Value) (s₂:Shared):Prop
  | mk (l:List PV) (Ia:Addr) (fp:List Addr) (Pi:Nat→Value→Prop) (St:Nat→Heap→Prop) (s₁:Shared) (e:itv=.ref Ia) (e1:r₁=.ok l) (g:GoS (env.locals::F) st s s₁) (tk:s.toks≤s₁.toks) (W:Walk0 B' l Ia fp Pi St s₁ s₂)
theorem sx_For {x:Str} {xp:Pos} {it:Expr} {b:List Stmt} {pos:Pos} (ih:∀ m,m≤n→Sound C d m) (ix:∀ m,m≤n→SoundX C d m) (X:Cx d st A (env.locals::F) (env::fr)) (hat:At F st s₀ env B μ₀ fm B' μ s) (hst:st=true→∀ f,r≠.ex f)
    (h:grd (plainIter it) (sbind (iterE K0 C n st fm it) fm fun l=>forE K0 C n st fm x l b)=some r):
    wpAny (model prog w0) A (exec (.For (.Name x xp) it b [] pos) env) (PostS F st s₀ env B μ₀ r) (PostSX F fr st s₀ env B μ₀ r) s:=by
  obtain ⟨hpl,h2⟩:=grd_some h;clear h
  obtain ⟨r₁,h1⟩:=sbind_some h2
  induction n using Nat.casesOn with
  | zero=>exact nov h1
  | succ n=>
  rw [h1] at h2
  have exc:∀ {x:Value} {s':Shared},s.toks≤s'.toks→PostX (env.locals::F) (env::fr) s r₁ x s'→PostSX F fr st s₀ env B μ₀ r x s':=fun tk z1=>by
    obtain ⟨e,y⟩:=z1
    subst e
    cases h2
    exact ⟨fm,B',μ,s,rfl,hat,tk,.inl y⟩
  refine wpAny_For (wpAny_mono (wpAny_toks (iter_ok (ih n (Nat.le_succ n)) X hat.I (.refl ..) h1 id (Q:=Itd F st env B' s r₁) fun l Ia fp Pi St s₁ s₂ e g Z tk Z W=>⟨l,Ia,fp,Pi,St,s₁,rfl,e,g,tk,W⟩))
    (fun xv s₁ ⟨tk1,hq⟩=>wpAny_mono (wpAny_toks hq) (fun itv s₂ ⟨tk2,q⟩=>?_) fun x s' z1=>by obtain ⟨tk2,y⟩:=z1;exact exc (Nat.le_trans tk1 tk2) y) fun x s' z2=>by obtain ⟨tk,y⟩:=z2;exact exc tk y) (plainIter_fold hpl)
  obtain ⟨l,Ia,fp,Pi,St,s₁,rfl,rfl,g,tk,W⟩:=q
  obtain ⟨L,T⟩:=loop_start (hat.go g tk) W (W.walks A X.handled)
  exact loop_ok ix X hst (W.walks A X.handled) L T h2
end
end Mine
end
section
open PySem PySem.W PySem.Calls PyProof.Rows
namespace Mine
section
variable {C:CallSem} {d n:Nat} {A:Around} {F:List Addr} {fr:List Env} {st:Bool} {B B':Addr→Prop} {μ μ₀:Option Addr} {env:Env} {fm fm':Fm} {s₀ s s':Shared} {r:SR}
theorem glob_eq {v:PySem.Value} {u:PySem.Value} {B:Addr→Prop} {h:Heap} (q:VV B h μ (.glob v) u):u=v:=by exact q
theorem sx_Raise {x:PySem.Str} {np cpos pos:Pos} {e:PySem.Expr} (ih:Sound C d n) (X:Cx d st A (env.locals::F) (env::fr)) (hat:At F st s₀ env B μ₀ fm B' μ s)
    (h:grd (isTyp "ValueError" (nameE K0 fm x)&&notStar e) (sbind (evalE K0 C n st fm e) fm fun u=>grd (solid u) (some (.ex fm)))=some r):
    wpAny (model prog w0) A (exec (.Raise (some (.Call (.Name x np) [e] [] cpos)) none pos) env) (PostS F st s₀ env B μ₀ r) (PostSX F fr st s₀ env B μ₀ r) s:=by
  obtain ⟨hc,h2⟩:=grd_some h;clear h
  obtain ⟨hx,hn⟩:=and_tt hc;clear hc
  obtain ⟨r₁,h1⟩:=sbind_some h2
  have hp:(backTo cpos (starEach [e] env)).all (!·.1)=true:=plain_args (by simp only [List.all_cons,List.all_nil,Bool.and_true];exact hn)
  refine wpAny_Raise_call PySem.F.excCall_ValueError PySem.F.excRaise_ValueError X.handled ?_ (wpAny_mono (name_eq hat.I (isTyp_of hx)) (fun f s' ⟨e',q⟩=>?_) fun Z Z y=>y)
  · rw [List.any_eq_false];intro a ha;have:=List.all_eq_true.mp hp a ha;simpa using this
  subst e'
  refine ⟨glob_eq q,evalArgs_all hp rfl (wpAny_items_cons (seqS hat h2 h1 (ih.E X hat.I h1) fun p v s' e' a q g=>wpAny_items_nil (wpAny_pure ⟨rfl,by simp [sizeLine_eq],fun h' e hm=>?_⟩)) (starEach_cons hn))⟩
  cases (grd_some e').2
  have hN:=hm.newExc
  exact ⟨fm,B',μ,s',rfl,a,Nat.le_refl _,.inl ⟨Go.of_keeps ⟨h',s'.toks,rfl,hN.keeps⟩,e,rfl,.new s'.heap (Ext.refl _ _) a.I.gi.tab hN⟩⟩
theorem constOf_of {e:Expr} {v:PV} (h:constOf e=some v):∃ c k p,e=.Constant c k p∧constE c=some v:=by
  obtain ⟨⟨c,k,p,rfl⟩,Z,hv⟩:=ask_some h;clear h
  exact ⟨c,k,p,rfl,hv⟩
theorem plainB_ok {E:Value→Shared→Prop}:∀ {hb:List Stmt} {fm:Fm} {s:Shared},At F st s₀ env B μ₀ fm B' μ s→plainB fm hb=some r→wpAny (model prog w0) A (execs hb env) (PostS F st s₀ env B μ₀ r) E s
  | [],fm,s,hat,h=>by cases h;exact wpAny_execs_nil ⟨rfl,B',μ,hat⟩
  | b::hb,fm,s,hat,h=>by
    refine wpAny_execs_cons ?_
    revert h
    show plainStep fm (kindS b) (fun f=>plainB f hb)=some r→_
    generalize kindS b=k
    induction k with
    | asg x px e q=>
      intro h
      obtain ⟨v,hc,h1⟩:=ask_some (show ask (constOf e) (fun v=>ask (setN fm x v) fun f=>plainB f hb)=some r from h)
      clear h
      obtain ⟨f,hf,h2⟩:=ask_some h1;clear h1
      obtain ⟨c,k,p,rfl,hv⟩:=constOf_of hc;clear hc
      refine wpAny_Assign_Name (wpAny_mono (wpAny_toks (const_ok (F:=env.locals::F) (st:=st) (B:=B') (E:=E) hv)) (fun u s₁ z1=>?_) fun Z Z y=>y.2) rfl
      obtain ⟨tk,g,p,e,q⟩:=z1
      cases e
      exact wpAny_mono (store_ok (hat.go g tk) hf (VV.of q)) (fun Z s₂ y=>plainB_ok y.1 h2) fun Z Z y=>y
    | ret e _=>
      intro h
      obtain ⟨v,hc,h1⟩:=ask_some (show ask (constOf e) (fun v=>some (SR.rt v fm))=some r from h)
      clear h
      cases h1
      obtain ⟨c,k,p,rfl,hv⟩:=constOf_of hc;clear hc
      refine wpAny_Return_some (wpAny_mono (wpAny_toks (const_ok (F:=env.locals::F) (st:=st) (B:=B') (E:=E) hv)) (fun u s₁ z1=>?_) fun Z Z y=>y.2)
      obtain ⟨tk,g,p,e,q⟩:=z1
      cases e
      exact ⟨u,B',μ,rfl,hat.go g tk,VV.of q⟩
    | _=>exact fun h=>nov h
theorem sx_Try {b hb:List Stmt} {x:Str} {xp hp pos:Pos} (ix:SoundX C d n) (X:Cx d st A (env.locals::F) (env::fr)) (hat:At F st s₀ env B μ₀ fm B' μ s) (hst:st=true→∀ f,r≠.ex f)
    (h:ask (execEs K0 C n st fm b) (fun q=>match q with
      | .ex f=>handled K0 st x hb f
      | r=>some r)=some r):
    wpAny (model prog w0) A (exec (.Try b [.ExceptHandler (some (.Name x xp)) none hb hp] [] [] pos) env) (PostS F st s₀ env B μ₀ r) (PostSX F fr st s₀ env B μ₀ r) s:=by
  obtain ⟨r₁,h1,h2⟩:=ask_some h;clear h
  induction r₁ with
  | nx f=>
    cases h2
    refine wpAny_Try_except (wpAny_mono (ix.XS X hat (fun Z Z e=>by cases e) h1) (fun fl s' z10=>?_) fun x s' z2=>by obtain ⟨Z,Z,Z,Z,e,Z,Z,Z⟩:=z2;exact nomatch e)
    obtain ⟨e,z1,z2,z3⟩:=z10
    subst e
    exact wpAny_execs_nil ⟨rfl,z1,z2,z3⟩
  | rt v f=>
    cases h2
    refine wpAny_Try_except (wpAny_mono (ix.XS X hat (fun Z Z e=>by cases e) h1) (fun fl s' z10=>?_) fun x s' z2=>by obtain ⟨Z,Z,Z,Z,e,Z,Z,Z⟩:=z2;exact nomatch e)
    obtain ⟨vv,B2,μ2,e,z1,z2⟩:=z10
    subst e
    exact ⟨vv,B2,μ2,rfl,z1,z2⟩
  | ex f=>
    obtain ⟨hc,hh⟩:=grd_some h2;clear h2
    obtain ⟨hx,hc1⟩:=and_tt hc;clear hc
    have hc:=not_tt hc1
    induction st with
    | true=>exact nomatch hc1
    | false=>
    induction hb using List.casesOn with
    | nil=>exact nomatch hc1
    | cons b₀ suite=>
    refine wpAny_Try_except (wpAny_mono (ix.XS X hat (fun e=>nof e) h1) (fun Z Z q=>q.elim) fun e s' z1=>?_)
    obtain ⟨f',B2,μ2,s₁,ef,a,tk,y⟩:=z1
    cases ef
    refine wpAny_mono (note_ok a.I.gi X.fk (X.frames rfl) rfl a.O.fr y) (fun Z s₂ z1=>?_) fun Z Z y=>y
    obtain ⟨z,tk₂⟩:=z1
    obtain ⟨g,ea,L,rfl,Z,Z,Z,hL,base,a0,hb',hw⟩:=z
    refine wpAny_landsW hw fun h' k1 k2=>?_
    have g3:=go_of_base g hb' k1.1 k2
    have a3:At F false s₀ env B μ₀ f B2 μ2 { s₂ with heap:=h' }:=a.go g3 (Nat.le_trans tk tk₂)
    refine wpAny_handleBy_builtin (X:="ValueError") (b:=true) PySem.F.isExc_ValueError PySem.F.notTuple_ValueError PySem.F.self_ValueError (wpAny_mono (name_eq a3.I (isTyp_of hx)) (fun c s₃ z1=>?_) fun Z Z y=>y)
    obtain ⟨e,q⟩:=z1
    subst e
    refine ⟨glob_eq q,k1.there,?_⟩
    rw [if_pos rfl]
    obtain ⟨f1,f2,f3,f4⟩:=k1
    exact wpAny_setFlight_noneW f1 f3 f4.at fun h'' j1 j2 j3 j4=>plainB_ok (a.go (go_of_base g3 hb' j1 (fun b o e n=>⟨o.slots,j4 b o e n⟩)) (Nat.le_trans tk tk₂)) hh
theorem own_keepB (x:At F st s₀ env B μ₀ fm B' μ s) (k:∀ b o,b∉ownA env fm.mu μ→s.heap.get? b=some o→s'.heap.get? b=some o):KeepB B' s.heap s'.heap:=fun b o q nb=>k b o (fun m=>nb (x.O.b b m)) q
theorem inOrder_ok {E:Value→Shared→Prop}:∀ {ns:List Str} {vs:List PV} {vvs:List Value} {fm:Fm} {s:Shared},At F st s₀ env B μ₀ fm B' μ s→setNs fm ns vs=some fm'→VRs B' s.heap vs vvs →
    wpAny (model prog w0) A (assignInOrder (ns.map fun n=>bindName env n) vvs) (fun Z s'=>At F st s₀ env B μ₀ fm' B' μ s') E s
  | [],[],vvs,fm,s,hat,h,q=>by obtain rfl:=q;cases h;exact wpAny_assignInOrder_none hat
  | [],_::_,_,_,_,_,h,_=>nov h
  | _::_,[],_,_,_,_,h,_=>nov h
  | x::ns,v::vs,vvs,fm,s,hat,h,q=>by
    obtain ⟨u,us,rfl,q1,q2⟩:=q
    obtain ⟨f,hf,h1⟩:=ask_some (show ask (setN fm x v) (fun f=>setNs f ns vs)=some fm' from h);clear h
    exact wpAny_assignInOrder_more (wpAny_bindName (wpAny_mono (store_ok hat hf (VV.of q1)) (fun Z s₁ z1=>by obtain ⟨a,Z,Z,k⟩:=z1;exact inOrder_ok a h1 (VRs.keep (own_keepB hat k) (fun Z Z Z q=>q) q2)) fun Z Z y=>y))
theorem inOrderT_ok {E:Value→Shared→Prop}:∀ {ts:List Expr} {ns:List Str} {vs:List PV} {vvs:List Value} {fm:Fm} {s:Shared},tgtNames ts=some ns→At F st s₀ env B μ₀ fm B' μ s→setNs fm ns vs=some fm'→VRs B' s.heap vs vvs →
    wpAny (model prog w0) A (assignInOrder ((assignEach ts env).map (·.2)) vvs) (fun Z s'=>At F st s₀ env B μ₀ fm' B' μ s') E s
  | [],ns,vs,vvs,fm,s,hn,hat,h,q=>by
    cases hn
    exact inOrder_ok hat h q
  | t::ts,ns,vs,vvs,fm,s,hn,hat,h,q=>by
    obtain ⟨⟨x,p,rfl⟩,Z,hn1⟩:=ask_some (show ask (nmK (kindE t)) (fun q=>ask (tgtNames ts) fun xs=>some (q.x::xs))=some ns from hn);clear hn
    obtain ⟨ns',h1,hn2⟩:=ask_some hn1;clear hn1
    cases hn2
    induction vs using List.casesOn with
    | nil=>exact nov h
    | cons v vs=>
      obtain ⟨u,us,rfl,q1,q2⟩:=q
      obtain ⟨f,hf,h2⟩:=ask_some (show ask (setN fm x v) (fun f=>setNs f ns' vs)=some fm' from h);clear h
      exact wpAny_assignInOrder_more (wpAny_assign_Name (wpAny_mono (store_ok hat hf (VV.of q1)) (fun Z s₁ z1=>by obtain ⟨a,Z,Z,k⟩:=z1;exact inOrderT_ok h1 a h2 (VRs.keep (own_keepB hat k) (fun Z Z Z q=>q) q2)) fun Z Z y=>y))
theorem tgt_each:∀ {ts:List Expr} {ns:List Str},tgtNames ts=some ns→(assignEach ts env).length=ns.length∧(assignEach ts env).findIdx? (·.1)=none
  | [],ns,h=>by cases h;exact ⟨rfl,rfl⟩
  | t::ts,ns,h=>by
    obtain ⟨⟨x,p,rfl⟩,Z,h2⟩:=ask_some (show ask (nmK (kindE t)) (fun q=>ask (tgtNames ts) fun xs=>some (q.x::xs))=some ns from h);clear h
    obtain ⟨ns',h1,h3⟩:=ask_some h2;clear h2
    cases h3
    obtain ⟨k1,k2⟩:=tgt_each h1;clear h1
    refine ⟨congrArg (·+1) k1,?_⟩
    show List.findIdx? (·.1) ((false,assign (.Name x p) env)::assignEach ts env)=none
    rw [List.findIdx?_cons,k2];rfl
theorem setNs_len:∀ {ns:List Str} {vs:List PV} {fm:Fm},setNs fm ns vs=some fm'→ns.length=vs.length
  | [],[],_,_=>rfl
  | [],_::_,_,h=>nov h
  | _::_,[],_,h=>nov h
  | x::ns,v::vs,fm,h=>by
    obtain ⟨f,Z,h1⟩:=ask_some (show ask (setN fm x v) (fun f=>setNs f ns vs)=some fm' from h);clear h
    exact congrArg (·+1) (setNs_len h1)
theorem VRs.rev {h:Heap}:∀ {l:List PV} {vs:List Value},VRs B h l vs→VRs B h l.reverse vs.reverse
  | [],_,x=>by obtain rfl:=x;rfl
  | p::l,_,x=>by
    obtain ⟨v,r,rfl,h1,h2⟩:=x
    rw [List.reverse_cons,List.reverse_cons]
    exact VRs.append (VRs.rev h2) (ConsR.mk v [] rfl h1 rfl)
theorem swapV_ok {α:Type} {names:List Str} {o:Option (List Str)} {b1 b2 b4 b5 b6:Bool} {u:α} {f:Option (List Str)→α} (h:swapV names b1 b2 b4 b5 b6=some o):
    (if b1=true then f none else if b2=true then f none else if b4=true then f none else if b5=true then f none else if b6=true then u else f (some names))=f o:=by
  induction b1 with
  | true=>cases h;rfl
  | false=>induction b2 with
    | true=>exact nov h
    | false=>induction b4 with
      | true=>cases h;rfl
      | false=>induction b5 with
        | true=>cases h;rfl
        | false=>induction b6 with
          | true=>exact nov h
          | false=>cases h;rfl
theorem swapT_sc {sc:Scope} {ts:List Expr} {k:Nat} {tp:Pos} {e:Expr} {o:Option (List Str)} (hs:env.scope=sc) (h:swapT sc ts e=some o):swappedStores [.Tuple ts k tp] e env=pure o:=by
  subst hs
  induction e using PySem.Expr.casesOn with
  | Tuple vs ke pe=>
    have e:swappedStores [.Tuple ts k tp] (.Tuple vs ke pe) env=(if sw1 env.scope ts vs=true then pure none else if sw2 vs=true then pure none else if sw4 ts (swN env.scope ts)=true then pure none else if vs.all (foldedForSure 8)=true then pure none else
      if vs.all (constantsAlone 8)=true then unsupported "assign.tuple-of-constant-expressions:order-of-the-stores" else pure (some (swN env.scope ts))):=by kernel_rfl
    exact e.trans (swapV_ok (f:=(pure:Option (List Str)→Sem _)) h)
  | _=>cases h;rfl
theorem swapT_ok {ts:List Expr} {k:Nat} {tp:Pos} {e:Expr} {o:Option (List Str)} (I:FI F st env B μ fm s) (h:swapT fm.scope ts e=some o):swappedStores [.Tuple ts k tp] e env=pure o:=swapT_sc I.sc h
theorem unpack_ok {E:Value→Shared→Prop} {Q:List Value→Shared→Prop} {l:List PV} {p:PV} {v:Value} {m:Nat} (hh:A.handled=none) (hp:tupVs p=some l) (q:VR B s.heap p v) (hm:m=l.length)
    (hQ:∀ vs h',VRs B s.heap l vs→(∀ b o,s.heap.get? b=some o→h'.get? b=some o)→Q vs { s with heap:=h' }):wpAny (model prog w0) A (unpackItems v m none) Q E s:=by
  have key:∀ {h':Heap},Heap.ExtBut s.heap.objs.size s.heap h'→∀ b o,s.heap.get? b=some o→h'.get? b=some o:=fun e b o q=>e b o (Nat.ne_of_lt (Heap.lt_size q)) q
  have sz:∀ {vs:List Value},VRs B s.heap l vs→m=vs.toArray.size:=fun hv=>by rw [hm,List.size_toArray,hv.length]
  induction p using PV.casesOn with
  | tup=>cases hp;obtain ⟨a,vs,rfl,Z,ht,Z,hv⟩:=q;cases sz hv;exact unpackItems_tuple hh ht fun h' e=>hQ vs h' hv (key e)
  | list=>cases hp;obtain ⟨a,vs,rfl,Z,ht,Z,hv⟩:=q;cases sz hv;exact kun_itemsOf hh ht fun h' e=>hQ vs h' hv (key e)
  | _=>exact nov hp
inductive TupS (F:List Addr) (st:Bool) (s₀:Shared) (env:Env) (B:Addr→Prop) (μ₀:Option Addr) (ts:List Expr) (o:Option (List Str)) (r:SR) (v:Value) (s':Shared):Prop
  | mk (l:List PV) (p:PV) (fm:Fm) (μ:Option Addr) (B₁:Addr→Prop) (hp:tupVs p=some l) (a:At F st s₀ env B μ₀ fm B₁ μ s') (q:VR B₁ s'.heap p v) (hs:nx (setT fm ts o l)=some r)
theorem setT_ok {E:Value→Shared→Prop} {ts:List Expr} {k:Nat} {tp pos:Pos} {e:Expr} {o:Option (List Str)} (hh:A.handled=none) (ho:swappedStores [.Tuple ts k tp] e env=pure o)
    (h:wpAny (model prog w0) A (eval e env) (TupS F st s₀ env B μ₀ ts o r) E s):wpAny (model prog w0) A (exec (.Assign [.Tuple ts k tp] e pos) env) (PostS F st s₀ env B μ₀ r) E s:=by
  induction o with
  | none=>
    refine Assign_Tuple (wpAny_mono h (fun v s' z1=>?_) fun Z Z y=>y) swaps_tup ho
    obtain ⟨l,p,fm₁,μ₁,B₁,hp,a,q,hs⟩:=z1
    obtain ⟨f,hs2,rfl⟩:=nx_some hs;clear hs
    obtain ⟨ns,hns,hq⟩:=ask_some hs2;clear hs2
    obtain ⟨k1,k2⟩:=tgt_each (env:=env) hns
    rw [arm_assign_Tuple]
    refine wpAny_bind (wpAny_standAt ?_)
    unfold unpack
    rw [k2]
    refine wpAny_bind (wpAny_holding (unpack_ok hh hp q (k1.trans (setNs_len hq)) fun vs h' hv hk=>?_))
    exact wpAny_mono (inOrderT_ok hns (a.go (GoS.of_keeps ⟨h',s'.toks,rfl,hk⟩) (Nat.le_refl _)) hq (VRs.keep (fun b o q Z=>hk b o q) (fun Z Z Z q=>q) hv)) (fun Z s₂ y=>⟨rfl,B₁,μ₁,y⟩) fun Z Z y=>y
  | some ns=>
    refine Assign_Tuple_swapped (wpAny_mono h (fun v s' z1=>?_) fun Z Z y=>y) swaps_tup ho
    obtain ⟨l,p,fm₁,μ₁,B₁,hp,a,q,hs⟩:=z1
    obtain ⟨f,hq,rfl⟩:=nx_some hs;clear hs
    refine unpack_ok hh hp q (by have:=setNs_len (show setNs fm₁ ns.reverse l.reverse=some f from hq);rwa [List.length_reverse,List.length_reverse] at this) fun vs h' hv hk=>?_
    exact wpAny_mono (inOrder_ok (a.go (GoS.of_keeps ⟨h',s'.toks,rfl,hk⟩) (Nat.le_refl _)) hq (VRs.keep (fun b o q Z=>hk b o q) (fun Z Z Z q=>q) hv).rev) (fun Z s₂ y=>⟨rfl,B₁,μ₁,y⟩) fun Z Z y=>y
theorem sx_TupSet {ts:List Expr} {k:Nat} {tp pos:Pos} {e:Expr} {o:Option (List Str)} (ih:Sound C d n) (X:Cx d st A (env.locals::F) (env::fr)) (hat:At F st s₀ env B μ₀ fm B' μ s) (ho:swapT fm.scope ts e=some o) (h:sbind (evalE K0 C n st fm e) fm (setTv fm ts o)=some r):
    wpAny (model prog w0) A (exec (.Assign [.Tuple ts k tp] e pos) env) (PostS F st s₀ env B μ₀ r) (PostSX F fr st s₀ env B μ₀ r) s:=by
  obtain ⟨r₁,h1⟩:=sbind_some h
  refine setT_ok X.handled (swapT_ok hat.I ho) (seqS hat h h1 (ih.E X hat.I h1) fun p v s' e' a q Z=>?_)
  obtain ⟨vs,hv,hs⟩:=ask_some e';clear e'
  exact ⟨vs,p,fm,μ,B',hv,a,by cases p<;>first | exact q | exact nov hv,hs⟩
theorem sx_Tuple {ts:List Expr} {k:Nat} {tp pos:Pos} {e:Expr} (ih:Sound C d n) (X:Cx d st A (env.locals::F) (env::fr)) (hat:At F st s₀ env B μ₀ fm B' μ s)
    (h:ask (swapT fm.scope ts e) (fun o=>sbind (evalE K0 C n st fm e) fm (setTv fm ts o))=some r):
    wpAny (model prog w0) A (exec (.Assign [.Tuple ts k tp] e pos) env) (PostS F st s₀ env B μ₀ r) (PostSX F fr st s₀ env B μ₀ r) s:=by
  obtain ⟨o,ho,h1⟩:=ask_some h;clear h
  exact sx_TupSet ih X hat ho h1
end
end Mine
end
section
open PySem PySem.W PySem.Calls PyProof.Rows
namespace Mine
section
variable {C:CallSem} {d n:Nat} {A:Around} {F:List Addr} {fr:List Env} {st:Bool} {B B' B'':Addr→Prop} {μ μ₀:Option Addr} {env:Env} {fm fm':Fm} {s₀ s s':Shared} {r:SR} {h h':Heap}
theorem At.newList {a:Addr} {k:Nat} (x:At F st s₀ env B μ₀ fm B' μ s) (hm:fm.mu=none) (ha:s.heap.get? a=some (listOf #[] k)) (new:s₀.heap.get? a=none) (no:a∉ownA env fm.mu μ) (ba:B' a) (nF:a∉env.locals::F):
    At F st s₀ env B μ₀ { fm with mu:=some (.list []) } B' (some a) s:=by
  have hμ:μ=none:=by have:=x.I.mu;rw [hm] at this;exact this
  subst hμ
  have hown:ownA env (some (.list [])) (some a)=env.locals::(env.cells.map (·.2)++[a]):=rfl
  have hold:ownA env fm.mu none=env.locals::(env.cells.map (·.2)++[]):=by rw [hm];rfl
  have mem:∀ b,b∈ownA env (some (.list [])) (some a)→b∈ownA env fm.mu none∨b=a:=fun b hb=>by
    rw [hown] at hb;rw [hold]
    rcases List.mem_cons.mp hb with hb | hb
    · exact .inl (hb▸List.mem_cons_self ..)
    · rcases List.mem_append.mp hb with hb | hb
      · exact .inl (List.mem_cons_of_mem _ (List.mem_append_left _ hb))
      · exact .inr (List.mem_singleton.mp hb)
  have vv:∀ {p:PV} {v:PySem.Value},VV B' s.heap none p v→VV B' s.heap (some a) p v:=fun {p v} z=>by
    cases p<;>first | exact z | (obtain ⟨Z,e,Z⟩:=z;cases e)
  refine ⟨x.G₀,x.g,x.tk,⟨?_,fun b hb=>?_,fun b hb=>?_,x.O.cel,x.O.has,x.O.fr⟩,x.hB,⟨x.I.gi,x.I.bd,x.I.sc,x.I.kind,x.I.glo,x.I.bui,x.I.nt,x.I.bl,?_,x.I.cel,⟨a,[],k,rfl,ba,x.G₀.tab.notT new,nF,ha,Nat.zero_le _,rfl⟩,x.I.tk,x.I.code⟩,fun a e=>by have:=x.mu₀ a e;cases this⟩
  · have nd:=x.O.nd
    rw [hold] at nd no
    rw [hown]
    rw [List.append_nil] at nd no
    obtain ⟨n1,n2⟩:=List.nodup_cons.mp nd
    refine List.nodup_cons.mpr ⟨fun m=>?_,List.nodup_append.mpr ⟨n2,List.nodup_cons.mpr ⟨by simp,List.nodup_nil⟩,fun b hb c hc e=>?_⟩⟩
    · rcases List.mem_append.mp m with m | m
      · exact n1 m
      · exact no ((List.mem_singleton.mp m)▸List.mem_cons_self ..)
    · rw [e,List.mem_singleton.mp hc] at hb
      exact no (List.mem_cons_of_mem _ hb)
  · rcases mem b hb with hb | rfl
    · exact x.O.new b hb
    · exact new
  · rcases mem b hb with hb | rfl
    · exact x.O.b b hb
    · exact ba
  · obtain ⟨m,hn,hmm⟩:=x.I.ns
    exact ⟨m,hn,fun y v e=>let ⟨w',a,b⟩:=hmm y v e;⟨w',a,vv b⟩⟩
theorem At.push {o:Obj} {k:Tok} (x:At F st s₀ env B μ₀ fm B' μ s) (hf:o.isFreed=false) (hk:s.toks≤k):
    At F st s₀ env B μ₀ fm (fun b=>B' b∨b=s.heap.objs.size) μ { s with heap:=s.heap.push o,toks:=k }∧s₀.heap.get? s.heap.objs.size=none∧s.heap.objs.size∉ownA env fm.mu μ∧s.heap.objs.size∉env.locals::F:=by
  have hn:=size_new s.heap
  have kp:∀ b o',s.heap.get? b=some o'→(s.heap.push o).get? b=some o':=fun b o' e=>Heap.get?_push_of_some _ e
  have exN:∀ b,B' b→b≠s.heap.objs.size:=fun b hb e=>by
    obtain ⟨o,q⟩:=x.I.bd.ex b hb;clear hb
    rw [e,hn] at q;cases q
  refine ⟨x.wide (fun b hb=>.inl hb) (fun b hb=>hb.imp_right fun e=>by rw [e];exact hn) kp hk (GoS.of_keeps ⟨_,_,rfl,kp⟩) fun b hb=>?_,?_,fun m=>exN _ (x.O.b _ m) rfl,fun m=>exN _ (x.I.bd.f _ m) rfl⟩
  · rcases hb with hb | rfl
    · obtain ⟨o,q⟩:=x.I.bd.ex b hb;exact ⟨o,kp _ _ q⟩
    · exact ⟨o,Heap.get?_push_size _ hf⟩
  · induction e:s₀.heap.get? s.heap.objs.size with
    | none=>rfl
    | some o=>
      obtain ⟨o',q⟩:=x.g.go.ext.there (x.g.go.tab x.G₀.tab) (fun b hb=>(x.G₀.apartF b hb).ex) ⟨o,e⟩
      rw [hn] at q;cases q
theorem setN_mu {x:Str} {v:PV} {f:Fm} {m:Option MO} (h:setN fm x v=some f):setN { fm with mu:=m } x v=some { f with mu:=m }:=by
  rcases setN_of h with ⟨hx,rfl⟩ | ⟨hx,hs,rfl⟩
  · show (match fm.scope.names.lookup x with | some .local=>_ | some .cell=>_ | _=>_)=_
    rw [hx]
  · show (match fm.scope.names.lookup x with | some .local=>_ | some .cell=>_ | _=>_)=_
    rw [hx];exact grd_t hs
theorem sx_OwnList {x:Str} {xp lp pos:Pos} (hat:At F st s₀ env B μ₀ fm B' μ s) (h:ownList fm x=some r):
    wpAny (model prog w0) A (exec (.Assign [.Name x xp] (.List [] lp) pos) env) (PostS F st s₀ env B μ₀ r) (PostSX F fr st s₀ env B μ₀ r) s:=by
  obtain ⟨hm,h1⟩:=grd_some h;clear h
  obtain ⟨f,hf,h2⟩:=ask_some h1;clear h1
  cases h2
  refine wpAny_Assign_Name (wpAny_List (wpAny_items_nil ⟨Nat.zero_le _,?_⟩)) rfl
  obtain ⟨a1,n1,n2,n3⟩:=hat.push (o:={ cls:=.type "list",data:=.seq #[] }) (k:=s.toks) rfl (Nat.le_refl _)
  have a2:=a1.newList (Option.isNone_iff_eq_none.mp hm) (Heap.get?_push_size _ rfl) n1 n2 (.inr rfl) n3
  exact wpAny_mono (store_ok a2 (setN_mu hf) (vv:=.ref s.heap.objs.size) ⟨_,rfl,rfl⟩) (fun Z s' y=>⟨rfl,_,_,y.1⟩) fun Z Z y=>y
end
end Mine
end
section
open PySem PySem.W PySem.Calls PyProof.Rows
namespace Mine
section
variable {C:CallSem} {d n:Nat} {A:Around} {F:List Addr} {fr:List Env} {st:Bool} {B B' B'':Addr→Prop} {μ μ₀:Option Addr} {env:Env} {fm fm':Fm} {s₀ s s':Shared} {r:SR} {h h':Heap}
theorem sx_OwnTuple {x y:Str} {px py lp tp pos pe:Pos} {kx ke:Nat} {e:Expr} (ih:Sound C d n) (X:Cx d st A (env.locals::F) (env::fr)) (hat:At F st s₀ env B μ₀ fm B' μ s)
    (ho:swapT fm.scope [.Name x px,.Name y py] (.Tuple [.List [] lp,e] ke pe)=some (some [x,y])) (hm:fm.mu=none) (h:sbind (evalE K0 C n st fm e) fm (newPair fm x y e)=some r):
    wpAny (model prog w0) A (exec (.Assign [.Tuple [.Name x px,.Name y py] kx tp] (.Tuple [.List [] lp,e] ke pe) pos) env) (PostS F st s₀ env B μ₀ r) (PostSX F fr st s₀ env B μ₀ r) s:=by
  obtain ⟨r₁,h1⟩:=sbind_some h
  have hnot:∀ rest,starEach (e::rest) env=(false,eval e env)::starEach rest env:=fun rest=>by
    cases e with
    | Starred=>induction n using Nat.casesOn with
      | zero=>exact nov h1
      | succ n=>exact nov h1
    | _=>rfl
  refine Assign_Tuple_swapped (names:=[x,y]) (wpAny_Tuple (wpAny_items_cons (wpAny_List (wpAny_items_nil ⟨Nat.zero_le _,?_⟩)) rfl)) swaps_tup (swapT_ok hat.I ho)
  obtain ⟨a1,n1,n2,n3⟩:=hat.push (o:={ cls:=.type "list",data:=.seq #[] }) (k:=s.toks) rfl (Nat.le_refl _)
  refine wpAny_items_cons (seqS a1 h h1 (ih.E X a1.I h1) fun p v s₂ e' a q g=>wpAny_items_nil ⟨by show 2≤sizeLine;decide,?_⟩) (hnot _)
  obtain ⟨hc,e1⟩:=grd_some e';clear e'
  obtain ⟨f,hf,e3⟩:=ask_some e1;clear e1
  obtain ⟨f',hg,rfl⟩:=nx_some e3;clear e3
  have L2:s₂.heap.get? s.heap.objs.size=some (listOf #[] 0):=g.go.ext.keep _ _ (Heap.get?_push_size _ rfl) (a1.G₀.tab.notT n1) n3
  have hT:IsTup (s₂.heap.push { cls:=.type "tuple",data:=.seq [.ref s.heap.objs.size,v].toArray }) s₂.heap.objs.size #[.ref s.heap.objs.size,v]:=IsTup.new _ _
  refine unpackItems_tuple (s:={ s₂ with heap:=s₂.heap.push { cls:=.type "tuple",data:=.seq [.ref s.heap.objs.size,v].toArray } }) (items:=#[.ref s.heap.objs.size,v]) X.handled hT fun h' he=>?_
  have kp':∀ b o',s₂.heap.get? b=some o'→h'.get? b=some o':=fun b o' e=>have e2:=Heap.get?_push_of_some _ e;he b o' (Nat.ne_of_lt (Heap.lt_size e2)) e2
  have a4:=(a.go (s':={ s₂ with heap:=h' }) (GoS.of_keeps ⟨h',s₂.toks,rfl,kp'⟩) (Nat.le_refl _)).newList hm (kp' _ _ L2) n1 n2 (.inr rfl) n3
  refine wpAny_assignInOrder_more (wpAny_bindName (wpAny_mono (store_ok a4 hf (vv:=v) (VV.of (VR.keep (fun b o q Z=>kp' b o q) (fun Z Z Z q=>q) (q.solid (and_tt hc).1)))) (fun Z s₅ z1=>?_) fun Z Z y=>y))
  obtain ⟨a5,Z,Z,Z⟩:=z1
  exact wpAny_assignInOrder_more (wpAny_bindName (wpAny_mono (store_ok a5 hg (vv:=.ref s.heap.objs.size) ⟨_,rfl,rfl⟩) (fun Z s₆ z1=>by obtain ⟨a6,Z,Z,Z⟩:=z1;exact wpAny_assignInOrder_none ⟨rfl,_,_,a6⟩) fun Z Z y=>y))
theorem At.setList {a:Addr} {l l₀:List PV} {vs:List Value} {k:Nat} (x:At F st s₀ env B μ₀ fm B' (some a) s) (hm:fm.mu=some (.list l₀)) (sb:Heap.SameBut a s.heap h') (hl:h'.get? a=some (listOf vs.toArray k)) (hn:l.length≤lenLine) (hv:VRs B' s.heap l vs):
    At F st s₀ env B μ₀ { fm with mu:=some (.list l) } B' (some a) { s with heap:=h' }:=by
  have mm:a∈muA fm.mu (some a):=by rw [hm];exact List.mem_cons_self ..
  have hown:a∈ownA env fm.mu (some a):=mem_mu mm
  have P:=Pass.same sb.extBut (x.O.b _ hown)
  refine x.store (tk:=s.toks) hown sb.extBut (Nat.le_refl _) ⟨_,hl⟩ (by rw [hm];rfl) rfl rfl (fun n hc=>absurd rfl (x.mu_cell mm (p:=(n,_)) (mem_of_lookup hc))) (P.ns x.I.ns (x.mu_ne mm).symm) (fun z u e=>P.cel (x.I.cel z u e) fun c hc=>x.mu_cell mm (p:=(z,c)) (mem_of_lookup hc))
    ⟨a,vs,k,rfl,x.O.b _ hown,x.notT hown,fun m=>?_,hl,hn,P.vrs hv⟩
  rcases List.mem_cons.mp m with m | m
  · exact x.mu_ne mm m
  · exact x.notF hown m
inductive MuList (fm:Fm) (l:List PV):Prop
  | mk (h:fm.mu=some (.list l))
theorem muList_of {l:List PV} (h:muList fm=some l):fm.mu=some (.list l):=by
  unfold muList at h
  induction e:fm.mu with
  | none=>rw [e] at h;exact nov h
  | some m=>induction m with
    | list l'=>rw [e] at h;cases h;rfl
    | inst=>rw [e] at h;exact nov h
theorem muInst_of {q:Addr×List (Str×PV)} (h:muInst fm=some q):fm.mu=some (.inst q.1 q.2):=by
  unfold muInst at h
  induction e:fm.mu with
  | none=>rw [e] at h;exact nov h
  | some m=>induction m with
    | list l'=>rw [e] at h;exact nov h
    | inst=>rw [e] at h;cases h;rfl
theorem isOwn_of {v:Option PV} (h:isOwn v=true):v=some .own:=by
  induction v with
  | none=>exact nof h
  | some p=>cases p<;>first | rfl | exact nof h
theorem own_list {l:List PV} (x:At F st s₀ env B μ₀ fm B' μ s) (hm:fm.mu=some (.list l)):MuL (env.locals::F) B' s.heap l.length (VRs B' s.heap l) μ:=by
  have m:=x.I.mu
  rw [hm] at m;exact m
theorem own_inst {D:Addr} {fs:List (Str×PV)} (x:At F st s₀ env B μ₀ fm B' μ s) (hm:fm.mu=some (.inst D fs)):MuO (env.locals::F) B' s.heap D (VRf B' s.heap fs) μ:=by
  have m:=x.I.mu
  rw [hm] at m;exact m
theorem sx_Append {x:Str} {p q rp pos:Pos} {e:Expr} {l:List PV} (ih:Sound C d n) (X:Cx d st A (env.locals::F) (env::fr)) (hat:At F st s₀ env B μ₀ fm B' μ s)
    (hx:nameE K0 fm x=some .own) (hm:fm.mu=some (.list l)) (hl:l.length≤1000) (hq:(q.endLine==rp.line)=true) (hn:notStar e=true) (h:sbind (evalE K0 C n st fm e) fm (appTo fm l)=some r):
    wpAny (model prog w0) A (exec (.Expr (.Call (.Attribute (.Name x p) (Str.ofString "append") q) [e] [] rp) pos) env) (PostS F st s₀ env B μ₀ r) (PostSX F fr st s₀ env B μ₀ r) s:=by
  obtain ⟨r₁,h1⟩:=sbind_some h
  obtain ⟨a,vs,k,rfl,b1,b2,b3,b4,b5,b6⟩:=own_list hat hm
  refine wpAny_Expr_any (methodCall_eq rfl hq (by show 1+0 < 20;decide) (by simp only [List.all_cons,List.all_nil,Bool.and_true];exact hn) rfl (wpAny_mono (name_eq hat.I hx) (fun ov s' z1=>?_) fun Z Z y=>y)) (by unfold interactive;rw [hat.I.sc,hat.I.kind];rfl) rfl
  obtain ⟨e',qv⟩:=z1
  subst e'
  obtain ⟨a',e1,rfl⟩:=qv
  cases e1
  refine getMethod_list_append b4 rfl rfl ?_
  show wpAny _ _ (callWith rp (.builtin "list.append") [.ref a] (backTo rp (starEach [e] env)) []) _ _ _
  rw [starEach_cons hn]
  refine PySem.P.append_list (x:=eval e env) (seqS hat h h1 (ih.E X hat.I h1) fun p v s₂ e' at2 qv g=>?_)
  obtain ⟨hs,e2⟩:=grd_some e';clear e'
  obtain rfl:=Option.some.inj e2
  obtain ⟨a',vs',k',e1,c1,c2,c3,c4,c5,c6⟩:=own_list at2 hm
  cases e1
  have hlen:=c6.length
  refine ⟨vs'.toArray,k',by rw [List.size_toArray,hlen,sizeLine_eq];lia,c4,rfl,B',some a,at2.setList (vs:=vs'++[v]) hm (Heap.SameBut.update ..) (k:=if (vs'.toArray.push v).size==vs'.toArray.size then k' else k'+1) ?_ ?_ (VRs.append c6 (ConsR.mk v [] rfl (qv.solid hs) rfl))⟩
  · have:=PySem.IsL.update (h:=s₂.heap) (l:=a) c4 (fun xs=>xs.push v)
    rw [← List.push_toArray]
    exact this
  · rw [List.length_append]
    exact Nat.le_trans (Nat.add_le_add_right hl 1) (by decide)
theorem VRf.refKey {B:Addr→Prop} {a:Str}:∀ {fs:List (Str×PV)} {es:List DictEntry},VRf B h fs es→es.any (·.refKey)=false
  | [],es,x=>by obtain rfl:=x;rfl
  | p::fs,es,x=>by
    obtain ⟨t,v,r,rfl,Z,h2⟩:=x
    rw [List.any_cons,VRf.refKey (a:=a) h2];rfl
theorem VRf.len {B:Addr→Prop}:∀ {fs:List (Str×PV)} {es:List DictEntry},VRf B h fs es→es.length=fs.length
  | [],es,x=>by obtain rfl:=x;rfl
  | p::fs,es,x=>by
    obtain ⟨t,v,r,rfl,Z,h2⟩:=x
    exact congrArg (·+1) (VRf.len h2)
theorem VRf.put {B:Addr→Prop} {a:Str} {v:PV} {vv:Value} {tk:Tok} (hv:VR B h v vv):∀ {fs:List (Str×PV)} {es:List DictEntry},VRf B h fs es→VRf B h (put a v fs) (putL a (PyData.keyHash w0.params a) (.str a tk) vv es)
  | [],es,x=>by obtain rfl:=x;exact EntR.mk tk vv [] rfl hv rfl
  | (y,u)::fs,es,x=>by
    obtain ⟨t,v',r,rfl,h1,h2⟩:=x
    by_cases q:(y==a)=true
    · have p1:Mine.put a v ((y,u)::fs)=_:=if_pos q
      rw [p1]
      have p2:putL a (PyData.keyHash w0.params a) (.str a tk) vv ({ hash:=PyData.keyHash w0.params y,key:=.str y t,val:=v' }::r)=_:=if_pos (q:(Value.str y t).isStr a=true)
      rw [p2]
      obtain rfl:=beq_iff_eq.mp q
      exact EntR.mk t vv r rfl hv h2
    · have p1:Mine.put a v ((y,u)::fs)=_:=if_neg q
      rw [p1]
      have p2:putL a (PyData.keyHash w0.params a) (.str a tk) vv ({ hash:=PyData.keyHash w0.params y,key:=.str y t,val:=v' }::r)=_:=if_neg (q:¬ (Value.str y t).isStr a=true)
      rw [p2]
      exact EntR.mk t v' _ rfl h1 (VRf.put hv h2)
theorem putL_len {a:PySem.Str} {hs:Int} {k v:PySem.Value}:∀ {es:List DictEntry},(putL a hs k v es).length≤es.length+1
  | []=>Nat.le_refl _
  | e::es=>by
    unfold putL
    split
    · simp
    · have:=putL_len (a:=a) (hs:=hs) (k:=k) (v:=v) (es:=es)
      simp;lia
theorem At.setField {d:Addr} {D:Addr} {fs fs₀:List (Str×PV)} {es:List DictEntry} {k:Nat} {tk:Tok} (x:At F st s₀ env B μ₀ fm B' (some (d+1)) s) (hm:fm.mu=some (.inst D fs₀)) (hi:s.heap.get? (d+1)=some (instObj D d)) (sb:Heap.SameBut d s.heap h') (hl:h'.get? d=some (dictOf es k)) (htk:s.toks≤tk)
    (hv:VRf B' s.heap fs es):At F st s₀ env B μ₀ { fm with mu:=some (.inst D fs) } B' (some (d+1)) { s with heap:=h',toks:=tk }:=by
  have mm:d∈muA fm.mu (some (d+1)):=by rw [hm];exact List.mem_cons_of_mem _ (List.mem_cons_self ..)
  have mm1:d+1∈muA fm.mu (some (d+1)):=by rw [hm];exact List.mem_cons_self ..
  have hown:d∈ownA env fm.mu (some (d+1)):=mem_mu mm
  have hown1:d+1∈ownA env fm.mu (some (d+1)):=mem_mu mm1
  have P:=Pass.same sb.extBut (x.O.b _ hown)
  have nF:∀ b,b∈muA fm.mu (some (d+1))→b∉env.locals::F:=fun b hb m=>by
    rcases List.mem_cons.mp m with m | m
    · exact x.mu_ne hb m
    · exact x.notF (mem_mu hb) m
  exact x.store hown sb.extBut htk ⟨_,hl⟩ (by rw [hm];rfl) rfl rfl (fun n hc=>absurd rfl (x.mu_cell mm (p:=(n,_)) (mem_of_lookup hc))) (P.ns x.I.ns (x.mu_ne mm).symm) (fun z u e=>P.cel (x.I.cel z u e) fun c hc=>x.mu_cell mm (p:=(z,c)) (mem_of_lookup hc))
    ⟨d,es,k,rfl,x.O.b _ hown1,x.O.b _ hown,x.notT hown1,x.notT hown,nF _ mm1,nF _ mm,(sb.2 _ (Nat.succ_ne_self d)).trans hi,hl,P.vrf hv⟩
theorem put_attr {a:Str} {D dd:Addr} {es:List DictEntry} {fs:List (Str×PV)} {k:Nat} {v:Value} {Q:Unit→Shared→Prop} {E:Value→Shared→Prop} (G:GI F s.heap) (I:InstAt s.heap (dd+1) (instObj D dd) D (some (dictOf es k))) (hv:VRf B s.heap fs es) (hl:fs.length≤100) (hs:storeIn K0 D a=true)
    (h:∀ tk u,s.toks≤tk→(s.heap.update dd (Obj.putName a (PyData.keyHash w0.params a) (.str a u) v)).get? dd=some (dictOf (putL a (PyData.keyHash w0.params a) (.str a u) v es) (putN a es k))→Q () { s with heap:=s.heap.update dd (Obj.putName a (PyData.keyHash w0.params a) (.str a u) v),toks:=tk }):
    wpAny (model prog w0) A (PySem.setAttr (.ref (dd+1)) a v) Q E s:=by
  have hg:s.heap.get? dd=some (dictOf es k):=I.dict
  obtain ⟨hs1,s4⟩:=and_tt hs;clear hs
  obtain ⟨hs2,s3⟩:=and_tt hs1;clear hs1
  obtain ⟨s1,s2⟩:=and_tt hs2;clear hs2
  refine set_plain G.k I (beq_iff_eq.mp s1) (osa_open (s:={ s with toks:=s.toks+1 }) G.k I s2 (beq_iff_eq.mp s3) fun b=>?_)
  obtain ⟨cd,hcd,hd'⟩:=any_some s4;clear s4
  refine wpAny_bind (wpAny_pure (wpAny_bind (wpAny_bind (wpAny_loadPart I.at_ (wpAny_bind ((looks_clsIn G.k hcd).here (s:={ s with toks:=s.toks+1 }) ?_))))))
  rw [hd']
  refine wpAny_pure (a:=some dd) (wpAny_bind (wpAny_pure (wpAny_bind ?_)))
  unfold nsSet
  refine wpAny_bind (wpAny_bind (wpAny_askSetting (wpAny_pure (wpAny_bind (wpAny_mkText (wpAny_bind (wpAny_loadPart hg ?_)))))))
  dsimp only
  have hrk:(!es.toArray.any (·.key.isStr a)&&es.toArray.any (·.refKey))=false:=by
    rw [← Array.any_toList,← Array.any_toList]
    show (!es.any (·.key.isStr a)&&es.any (·.refKey))=false
    rw [VRf.refKey (a:=a) hv,Bool.and_false]
  rw [aRefKeyMayBeTheName_at,hrk]
  refine wpAny_updatePart hg ?_
  have hnew:∀ (tk:Tok),(s.heap.update dd (Obj.putName a (PyData.keyHash w0.params a) (.str a tk) v)).get? dd=some (dictOf (putL a (PyData.keyHash w0.params a) (.str a tk) v es) (putN a es k)):=fun tk=>by
    have:=Heap.get?_update_self (h:=s.heap) (Obj.putName a (PyData.keyHash w0.params a) (.str a tk) v) hg (by rw [putName_dict];rfl)
    rw [putName_dict] at this
    exact this
  refine wpAny_bind (wpAny_lookBehind (hnew _) (pastItsLine_dict (by rw [List.size_toArray,sizeLine_eq];exact Nat.le_trans putL_len (by rw [hv.len];exact Nat.le_trans (Nat.add_le_add_right hl 1) (by decide)))) (wpAny_pure (h _ _ ?_ (hnew _))))
  exact Nat.le_succ_of_le (Nat.le_succ _)
theorem sx_SetAttr {x a:Str} {xp ap pos:Pos} {e:Expr} (ih:Sound C d n) (X:Cx d st A (env.locals::F) (env::fr)) (hat:At F st s₀ env B μ₀ fm B' μ s) (h:sbind (evalE K0 C n st fm e) fm (ownAttr K0 fm x a)=some r):
    wpAny (model prog w0) A (exec (.Assign [.Attribute (.Name x xp) a ap] e pos) env) (PostS F st s₀ env B μ₀ r) (PostSX F fr st s₀ env B μ₀ r) s:=by
  obtain ⟨r₁,h1⟩:=sbind_some h
  refine plainObj_wpAny_Assign_Attribute (seqS hat h h1 (ih.E X hat.I h1) fun p v s₁ e' at1 qv g=>?_) swaps_attr
  obtain ⟨hx,e2⟩:=grd_some e';clear e'
  obtain ⟨⟨D,fs⟩,hm,e3⟩:=ask_some e2;clear e2
  obtain ⟨hc,e4⟩:=grd_some e3;clear e3
  obtain rfl:=Option.some.inj e4
  obtain ⟨hc1,c4⟩:=and_tt hc;clear hc
  obtain ⟨hc2,c3⟩:=and_tt hc1;clear hc1
  have hm:=muInst_of hm
  refine wpAny_mono (name_eq at1.I (isOwn_of hx)) (fun ov s' z1=>?_) fun Z Z y=>y
  obtain ⟨e4,q⟩:=z1
  subst e4
  obtain ⟨dd,es,k,rfl,b1,b2,b3,b4,b5,b6,b7,b8,b9⟩:=own_inst at1 hm
  obtain ⟨a',e1,rfl⟩:=q
  cases e1
  exact put_attr at1.I.gi ⟨b7,rfl,rfl,b8⟩ b9 (of_decide_eq_true c4) c3 fun tk u htk hn=>⟨rfl,B',_,at1.setField hm b7 (Heap.SameBut.update ..) hn htk (VRf.put (qv.solid (and_tt hc2).1) b9)⟩
end
end Mine
end
section
open PySem PySem.W PySem.Calls PyProof.Rows
namespace Mine
section
variable {C:CallSem} {d n:Nat} {A:Around} {F:List Addr} {fr:List Env} {st:Bool} {B B' B'':Addr→Prop} {μ μ₀:Option Addr} {env:Env} {fm fm':Fm} {s₀ s s':Shared} {r:SR} {h h':Heap}
theorem sx_NewList {x:PySem.Str} {xp lp pos:Pos} (hat:At F st s₀ env B μ₀ fm B' μ s) (h:nx (setN fm x (.list []))=some r):
    wpAny (model prog w0) A (exec (.Assign [.Name x xp] (.List [] lp) pos) env) (PostS F st s₀ env B μ₀ r) (PostSX F fr st s₀ env B μ₀ r) s:=by
  refine wpAny_Assign_Name (wpAny_List (wpAny_items_nil ⟨Nat.zero_le _,?_⟩)) rfl
  have kp:∀ b o',s.heap.get? b=some o'→(s.heap.push { cls:=.type "list",data:=.seq [].toArray }).get? b=some o':=fun b o' e=>Heap.get?_push_of_some _ e
  exact storeS (hat.go (GoS.of_keeps ⟨_,s.toks,rfl,kp⟩) (Nat.le_refl _)) h (VV.of (vr_newList (vs:=[]) hat.I.bd (Nat.zero_le _) rfl))
theorem notComp_of {e:Expr} {rE:Res PV} (h:evalE K0 C n st fm e=some rE):notComp e=true:=by
  induction n using Nat.casesOn with
  | zero=>exact nov h
  | succ n=>
    revert h
    show evalK K0 C (EvN K0 C n) st fm (kindE e)=some rE→_
    generalize kindE e=k
    induction k with
    | other=>exact fun h=>nov h
    | _=>exact fun Z=>rfl
theorem sx_Asg {x:Str} {px q:Pos} {e:Expr} (ih:Sound C d n) (X:Cx d st A (env.locals::F) (env::fr)) (hat:At F st s₀ env B μ₀ fm B' μ s) (h:sbind (evalE K0 C n st fm e) fm (fun v=>nx (setN fm x v))=some r):
    wpAny (model prog w0) A (exec (.Assign [.Name x px] e q) env) (PostS F st s₀ env B μ₀ r) (PostSX F fr st s₀ env B μ₀ r) s:=by
  obtain ⟨r₁,h1⟩:=sbind_some h
  exact sx_AssignName ih X hat h (swaps_name (notComp_of h1))
theorem sx_Pair {x y:Str} {px py pl pt pe q:Pos} {kx ke:Nat} {e:Expr} (ih:Sound C d n) (X:Cx d st A (env.locals::F) (env::fr)) (hat:At F st s₀ env B μ₀ fm B' μ s)
    (h:ask (swapT fm.scope [.Name x px,.Name y py] (.Tuple [.List [] pl,e] ke pe)) (fun o=>bif mutNames.contains x then grd (noMu fm&&o==some [x,y]) (sbind (evalE K0 C n st fm e) fm (newPair fm x y e)) else sbind (evalE K0 C n st fm (.Tuple [.List [] pl,e] ke pe)) fm (setTv fm [.Name x px,.Name y py] o))=some r):
    wpAny (model prog w0) A (exec (.Assign [.Tuple [.Name x px,.Name y py] kx pt] (.Tuple [.List [] pl,e] ke pe) q) env) (PostS F st s₀ env B μ₀ r) (PostSX F fr st s₀ env B μ₀ r) s:=by
  obtain ⟨o,ho,h1⟩:=ask_some h;clear h
  revert h1
  induction mutNames.contains x with
  | true=>
    intro h1
    obtain ⟨hc,h2⟩:=grd_some h1;clear h1
    exact sx_OwnTuple ih X hat (by rw [ho,beq_iff_eq.mp (and_tt hc).2]) (Option.isNone_iff_eq_none.mp (and_tt hc).1) h2
  | false=>intro h1;exact sx_TupSet ih X hat ho h1
theorem sx_App {x m:Str} {p q t pos:Pos} {e:Expr} (ih:Sound C d n) (X:Cx d st A (env.locals::F) (env::fr)) (hat:At F st s₀ env B μ₀ fm B' μ s)
    (h:(bif isOwn (nameE K0 fm x) then ask (muList fm) fun l=>grd (m==Str.ofString "append"&&decide (l.length≤1000)&&(q.endLine==t.line)&&notStar e) (sbind (evalE K0 C n st fm e) fm (appTo fm l)) else sbind (evalE K0 C n st fm (.Call (.Attribute (.Name x p) m q) [e] [] t)) fm fun Z=>some (.nx fm))=some r):
    wpAny (model prog w0) A (exec (.Expr (.Call (.Attribute (.Name x p) m q) [e] [] t) pos) env) (PostS F st s₀ env B μ₀ r) (PostSX F fr st s₀ env B μ₀ r) s:=by
  revert h
  induction hx:isOwn (nameE K0 fm x) with
  | false=>exact fun h=>sx_Expr ih X hat h rfl
  | true=>
    intro h
    obtain ⟨l,hm,h1⟩:=ask_some h;clear h
    obtain ⟨hc,h2⟩:=grd_some h1;clear h1
    obtain ⟨hc1,c4⟩:=and_tt hc;clear hc
    obtain ⟨hc2,c3⟩:=and_tt hc1;clear hc1
    have c2:=of_decide_eq_true (and_tt hc2).2
    obtain rfl:=beq_iff_eq.mp (and_tt hc2).1
    exact sx_Append ih X hat (isOwn_of hx) (muList_of hm) c2 c3 c4 h2
theorem snd_X {e:Stmt} (sc:SC C d) (ih:∀ m,m≤n→Sound C d m) (ix:∀ m,m≤n→SoundX C d m) (X:Cx d st A (env.locals::F) (env::fr)) (hat:At F st s₀ env B μ₀ fm B' μ s) (hst:st=true→∀ f,r≠.ex f) (h:execE K0 C (n+1) st fm e=some r):
    wpAny (model prog w0) A (exec e env) (PostS F st s₀ env B μ₀ r) (PostSX F fr st s₀ env B μ₀ r) s:=by
  have i1:=ih n (Nat.le_refl _)
  have x1:=ix n (Nat.le_refl _)
  revert h
  show execK K0 C (EvN K0 C n) (ExN K0 C n) st fm (kindS e)=some r→_
  generalize kindS e=k
  induction k with
  | nil x px pl q=>
    intro h
    have h:(bif mutNames.contains x then ownList fm x else nx (setN fm x (.list [])))=some r:=h
    revert h
    induction mutNames.contains x with
    | true=>exact fun h=>sx_OwnList hat h
    | false=>exact fun h=>sx_NewList hat h
  | pair=>exact fun h=>sx_Pair i1 X hat h
  | asg=>exact fun h=>sx_Asg i1 X hat h
  | tup=>exact fun h=>sx_Tuple i1 X hat h
  | att=>exact fun h=>sx_SetAttr i1 X hat h
  | ife=>exact fun h=>sx_If i1 x1 X hat hst h
  | «for»=>exact fun h=>sx_For ih ix X hat hst h
  | ret0=>exact fun h=>sx_ReturnNone hat h
  | ret=>exact fun h=>sx_Return i1 X hat h
  | raise=>exact fun h=>sx_Raise i1 X hat h
  | «try»=>exact fun h=>sx_Try x1 X hat hst h
  | aug=>exact fun h=>sx_Aug i1 X hat h
  | wh=>exact fun h=>sx_While sc ih ix X hat hst h
  | app=>exact fun h=>sx_App i1 X hat h
  | expr=>exact fun h=>sx_Expr i1 X hat (grd_some h).2 (grd_some h).1
  | other=>exact fun h=>nov h
theorem soundX_all (sc:SC C d) (rx:RX) (it:ITR d):∀ n m,m≤n→SoundX C d m
  | 0,m,hm=>by cases Nat.le_zero.mp hm;exact soundX_zero
  | n+1,m,hm=>by
    rcases Nat.lt_or_ge m (n+1) with h | h
    · exact soundX_all sc rx it n m (by lia)
    · obtain rfl:=Nat.le_antisymm hm h
      have ix:=soundX_all sc rx it n
      have ih:∀ m,m≤n→Sound C d m:=fun m hm=>sound_all sc rx it n m hm
      exact ⟨fun X hat hst h=>snd_X sc ih ix X hat hst h,fun X hat hst h=>snd_XS (ix n (Nat.le_refl _)) X hat hst h⟩
end
end Mine
end
section
open PySem PySem.W PySem.Calls PyProof.Rows
namespace Mine
structure CxF (d:Nat) (st:Bool) (A:Around) (F:List Addr) (fr:List Env):Prop where
  handled:A.handled=none
  depth:A.depth+20*d+15≤900
  units:A.units+100*d+80≤9000
  frames:st=false→A.frames=some fr
  fk:∀ env∈fr,env.scope.kind≠.module∧∃ L,env.frame=some L∧L∈F
  fa:∀ b∈F,∃ env∈fr,env.frame=some b
theorem CxC.toF {d st A F fr} (X:CxC (d+1) st A F fr):CxF d st A F fr:=⟨X.handled,by have:=X.depth;lia,by have:=X.units;lia,X.frames,X.fk,X.fa⟩
theorem CxF.room {d st A F fr} (x:CxF d st A F fr):A.depth < recursionLimit:=by have:=x.depth;unfold recursionLimit;lia
theorem CxF.inner {d st A F fr} {env:Env} (x:CxF d st A F fr) (hk:env.scope.kind≠.module) (hf:env.frame=some env.locals):Cx d st (A.deeper env) (env.locals::F) (env::fr) where
  handled:=x.handled
  depth:=by have:=x.depth;show A.depth+1+20*d≤900;lia
  units:=by have:=x.units;show A.units+3+100*d≤9000;lia
  frames:=fun e=>by show A.frames.map (env::·)=_;rw [x.frames e];rfl
  fk:=fun e he=>by
    rcases List.mem_cons.mp he with rfl | he
    · exact ⟨hk,_,hf,List.mem_cons_self ..⟩
    · obtain ⟨h1,L,h2,h3⟩:=x.fk e he;clear he
      exact ⟨h1,L,h2,List.mem_cons_of_mem _ h3⟩
  fa:=fun b hb=>by
    rcases List.mem_cons.mp hb with rfl | hb
    · exact ⟨env,List.mem_cons_self ..,hf⟩
    · obtain ⟨e,he,h⟩:=x.fa b hb;clear hb
      exact ⟨e,List.mem_cons_of_mem _ he,h⟩
  depth':=by have:=x.depth;show A.depth+1+20*d+(if st then 0 else 10)≤900;split<;>lia
  units':=by have:=x.units;show A.units+3+100*d+(if st then 20 else 60)≤9000;split<;>lia
theorem bindL_look {ko:PySem.Str→Option NameKind} {x:PySem.Str} {w:PySem.Value} (hx:ko x=some .local):∀ {l:List (PySem.Str×PySem.Value)} {m:PySem.Str→Option PySem.Value},(∀ w',(x,w')∈l→w'=w)→(m x=some w∨(x,w)∈l)→bindL ko l m x=some w
  | [],m,_,h=>by
    rcases h with h | h
    · unfold bindL;exact h
    · cases h
  | (n,v)::r,m,hc,h=>by
    unfold bindL
    refine bindL_look hx (fun w' hw=>hc w' (List.mem_cons_of_mem _ hw)) ?_
    by_cases e:n=x
    · subst e
      rw [if_pos hx]
      exact .inl (by show (if n=n then some v else m n)=some w;rw [if_pos rfl,hc v (List.mem_cons_self ..)])
    · rcases h with h | h
      · refine .inl ?_
        split
        · exact (if_neg (Ne.symm e)).trans h
        · exact h
      · rcases List.mem_cons.mp h with h | h
        · cases h;exact absurd rfl e
        · exact .inr h
theorem bindC_look {ko:PySem.Str→Option NameKind} {x:PySem.Str} {w:PySem.Value} (hx:ko x≠some .local):∀ {l:List (PySem.Str×PySem.Value)} {m:PySem.Str→Option PySem.Value},(∀ w',(x,w')∈l→w'=w)→(m x=some w∨(x,w)∈l)→bindC ko l m x=some w
  | [],m,_,h=>by
    rcases h with h | h
    · unfold bindC;exact h
    · cases h
  | (n,v)::r,m,hc,h=>by
    unfold bindC
    refine bindC_look hx (fun w' hw=>hc w' (List.mem_cons_of_mem _ hw)) ?_
    by_cases e:n=x
    · subst e
      rw [if_neg hx]
      exact .inl (by show (if n=n then some v else m n)=some w;rw [if_pos rfl,hc v (List.mem_cons_self ..)])
    · rcases h with h | h
      · refine .inl ?_
        split
        · exact h
        · exact (if_neg (Ne.symm e)).trans h
      · rcases List.mem_cons.mp h with h | h
        · cases h;exact absurd rfl e
        · exact .inr h
theorem cellsFrom_has {x:PySem.Str}:∀ {names:List (PySem.Str×NameKind)} {n:Nat} {acc:List (PySem.Str×Addr)},((acc.lookup x).isSome=true∨(x,NameKind.cell)∈names)→((cellsFrom n names acc).lookup x).isSome=true
  | [],n,acc,h=>by
    unfold cellsFrom
    rcases h with h | h
    · exact h
    · cases h
  | (y,k)::r,n,acc,h=>by
    unfold cellsFrom
    split
    · rename_i hk
      refine cellsFrom_has ?_
      by_cases e:x=y
      · subst e;exact .inl (by rw [List.lookup_cons];simp)
      · rcases h with h | h
        · exact .inl (by rw [List.lookup_cons,beq_eq_false_iff_ne.mpr e];exact h)
        · rcases List.mem_cons.mp h with h | h
          · cases h;exact absurd rfl e
          · exact .inr h
    · rename_i hk
      refine cellsFrom_has ?_
      rcases h with h | h
      · exact .inl h
      · rcases List.mem_cons.mp h with h | h
        · cases h;exact absurd rfl hk
        · exact .inr h
theorem cellsFrom_keys:∀ {names:List (PySem.Str×NameKind)} {n:Nat} {acc:List (PySem.Str×Addr)},(cellsFrom n names acc).map (·.1)=((names.filter (·.2==.cell)).map (·.1)).reverse++acc.map (·.1)
  | [],n,acc=>by unfold cellsFrom;rfl
  | (y,k)::r,n,acc=>by
    unfold cellsFrom
    split
    · rename_i hk
      rw [cellsFrom_keys,List.filter_cons,if_pos hk]
      simp
    · rename_i hk
      rw [cellsFrom_keys,List.filter_cons,if_neg hk]
theorem noDup_nodup:∀ {l:List PySem.Str},noDup l=true→l.Nodup
  | [],_=>List.nodup_nil
  | x::r,h=>by
    obtain ⟨h1,h2⟩:=and_tt (a:=!r.contains x) (b:=noDup r) h
    refine List.nodup_cons.mpr ⟨fun m=>?_,noDup_nodup h2⟩
    rw [List.contains_iff_mem.mpr m] at h1;cases h1
theorem lookup_nodup {α:Type} {p:PySem.Str×α}:∀ {l:List (PySem.Str×α)},(l.map (·.1)).Nodup→p∈l→l.lookup p.1=some p.2
  | [],_,h=>by cases h
  | q::l,hn,h=>by
    rw [List.map_cons] at hn
    obtain ⟨h1,h2⟩:=List.nodup_cons.mp hn;clear hn
    rw [List.lookup_cons]
    rcases List.mem_cons.mp h with rfl | h
    · simp
    · have:p.1≠q.1:=fun e=>h1 (e▸List.mem_map_of_mem h)
      rw [beq_eq_false_iff_ne.mpr this]
      exact lookup_nodup h2 h
theorem cells_look {names:List (PySem.Str×NameKind)} {n:Nat} {p:PySem.Str×Addr} (hn:noDup (names.map (·.1))=true) (hp:p∈cellsFrom n names []):(cellsFrom n names []).lookup p.1=some p.2:=by
  refine lookup_nodup ?_ hp
  rw [cellsFrom_keys,List.map_nil,List.append_nil]
  refine List.pairwise_reverse.mpr ?_
  have:=(noDup_nodup hn).sublist ((List.filter_sublist (p:=fun x:PySem.Str×NameKind=>x.2==.cell) (l:=names)).map (·.1))
  exact this.imp fun h=>h.symm
theorem bindPV_mem {α:Type} {ps:List PySem.Str} {ds args:List α} {kw bs:List (PySem.Str×α)} (h:bindPV ps ds args kw=some bs):(∀ x v w,(x,v)∈bs→(x,w)∈bs→v=w)∧∀ p∈bs,p.1∈ps:=by
  have key:∀ {sl:List (PySem.Str×α)} {p},p∈ps.filterMap (fun n=>(List.lookup n sl).map (n,·))→List.lookup p.1 sl=some p.2∧p.1∈ps:=fun {sl p} hp=>by
    obtain ⟨n,hn,e⟩:=List.mem_filterMap.mp hp;clear hp
    obtain ⟨v,h1,rfl⟩:=Option.map_eq_some_iff.mp e;clear e
    exact ⟨h1,hn⟩
  obtain ⟨sl,Z,h1⟩:=ask_some h;clear h
  obtain ⟨Z,h2⟩:=grd_some h1
  obtain rfl:=Option.some.inj h2
  refine ⟨fun x v w h1 h2=>?_,fun p hp=>(key hp).2⟩
  exact Option.some.inj ((key h1).1.symm.trans (key h2).1)
theorem RL.mem {R:PV→PySem.Value→Prop}:∀ {l:List (PySem.Str×PV)} {vs},RL R l vs→∀ {x v},(x,v)∈l→∃ w,(x,w)∈vs∧R v w
  | [],_,_,_,_,h=>by cases h
  | p::l,_,⟨v,r,e,h1,x⟩,y,u,h=>by
    subst e
    rcases List.mem_cons.mp h with h | h
    · cases h;exact ⟨v,List.mem_cons_self ..,h1⟩
    · obtain ⟨w,a,b⟩:=RL.mem x h;clear h
      exact ⟨w,List.mem_cons_of_mem _ a,b⟩
theorem look_filter {α:Type} {p:(PySem.Str×α)→Bool} {l:List (PySem.Str×α)} {x:PySem.Str} {v:α} (h:(l.filter p).lookup x=some v):(x,v)∈l∧p (x,v)=true:=List.mem_filter.mp (mem_of_lookup h)
section
variable {C:CallSem} {d n:Nat} {A:Around} {F:List Addr} {fr:List Env} {st:Bool} {B B' B'':Addr→Prop} {μ μ₀:Option Addr} {env:Env} {fm fm':Fm} {s₀ s s₂ s':Shared} {r:SR} {h h':Heap}
theorem mu_ex {B:Addr→Prop} {mo:Option MO} (hmu:MuI F B h mo μ):∀ b∈muA mo μ,∃ o,h.get? b=some o:=fun b hb=>by
  rcases mo with Z | (l | ⟨D,fs⟩)
  · cases hb
  · obtain ⟨c,vs,n',rfl,Z,Z,Z,h5,Z⟩:=hmu
    obtain rfl:=List.mem_singleton.mp hb;exact ⟨_,h5⟩
  · obtain ⟨dd,es,n',rfl,Z,Z,Z,Z,Z,Z,h8,h9,Z⟩:=hmu
    rcases List.mem_cons.mp hb with rfl | hb
    · exact ⟨_,h8⟩
    · obtain rfl:=List.mem_singleton.mp hb;exact ⟨_,h9⟩
theorem mu_move {F':List Addr} {B B':Addr→Prop} {mo:Option MO} (hmu:MuI F B h mo μ) (kp:∀ b o,h.get? b=some o→h'.get? b=some o) (kb:KeepB B h h') (hB:∀ b o,h.get? b=some o→B' b→B b) (m:∀ b∈muA mo μ,B' b∧b∉F'):MuI F' B' h' mo μ:=by
  rcases mo with Z | (l | ⟨D,fs⟩)
  · exact hmu
  · obtain ⟨c,vs,n',rfl,h2,h3,h4,h5,h6,h7⟩:=hmu
    have ⟨m1,m2⟩:=m c (List.mem_cons_self ..)
    exact ⟨c,vs,n',rfl,m1,h3,m2,kp _ _ h5,h6,VRs.keep kb hB h7⟩
  · obtain ⟨dd,es,n',rfl,h2,h3,h4,h5,h6,h7,h8,h9,h10⟩:=hmu
    have ⟨m1,n1⟩:=m (dd+1) (List.mem_cons_self ..)
    have ⟨m2,n2⟩:=m dd (List.mem_cons_of_mem _ (List.mem_cons_self ..))
    exact ⟨dd,es,n',rfl,m1,m2,h4,h5,n1,n2,kp _ _ h8,kp _ _ h9,VRf.keep kb hB h10⟩
theorem entry_At {fd:FuncData} {bs:List (PySem.Str×PV)} {bvs:List (PySem.Str×PySem.Value)} {mo:Option MO} (G₀:GI F s₀.heap) (D₀:Bd F B s₀.heap) (g:GoS F st s₀ s) (tk0:s₀.toks≤s.toks)
    (hmu:MuI F (fun b=>B b∨b∈muA mo μ) s.heap mo μ) (mnew:∀ b∈muA mo μ,s₀.heap.get? b=none) (mnd:(muA mo μ).Nodup)
    (hE:env.scope=fd.scope∧env.globals=fd.globals∧env.builtins=fd.builtins∧env.code=fd.code∧env.frame=some env.locals∧env.locals=s.heap.objs.size∧env.cells=cellsFrom (s.heap.objs.size+1) fd.scope.names [])
    (hok:fnOk K0 fd=true) (hnd:noDup (fd.scope.names.map (·.1))=true) (hcon:∀ x v w,(x,v)∈bvs→(x,w)∈bvs→v=w) (hb:RL (VV (fun b=>B b∨b∈muA mo μ) s.heap μ) bs bvs)
    (tk2:s.toks≤s₂.toks) (x:InCallC s env.locals (bindL env.kindOf bvs fun Z=>none) env.cells (bindC env.kindOf bvs fun Z=>none) s₂):
    At F st s₀ env B μ (frameOf fd.scope bs mo fd.code) (fun b=>B b∨b∈ownA env mo μ) μ s₂:=by
  obtain ⟨e1,e2,e3,e4,e5,e6,e7⟩:=hE
  simp only [fnOk,Bool.and_eq_true,beq_iff_eq] at hok
  obtain ⟨⟨⟨⟨⟨⟨f1,f2⟩,f3⟩,f4⟩,f5⟩,f6⟩,f7⟩:=hok
  have kp:=x.toInCall.keep
  have there:∀ b,(∃ o,s₀.heap.get? b=some o)→∃ o,s.heap.get? b=some o:=fun b q=>g.go.ext.there (g.go.tab G₀.tab) (fun b hb=>(G₀.apartF b hb).ex) q
  have lt:∀ b,(∃ o,s₀.heap.get? b=some o)→b < s.heap.objs.size:=fun b q=>let ⟨_,e⟩:=there b q;Heap.lt_size e
  have muEx:=mu_ex hmu
  have geL:s.heap.objs.size≤env.locals:=Nat.le_of_eq e6.symm
  have ltM:∀ b∈muA mo μ,b < s.heap.objs.size:=fun b hb=>let ⟨_,e⟩:=muEx b hb;Heap.lt_size e
  have cge:∀ p∈env.cells,env.locals < p.2:=fun p hp=>x.above p.1 p.2 hp
  have newGe:∀ b,s.heap.objs.size≤b→s₀.heap.get? b=none:=fun b hb=>by
    induction e:s₀.heap.get? b with
    | none=>rfl
    | some o=>exact absurd (lt b ⟨o,e⟩) (Nat.not_lt.mpr hb)
  have oldB:∀ b,B b→b < s.heap.objs.size:=fun b hb=>lt b (D₀.ex b hb)
  have own:∀ b∈ownA env mo μ,(s.heap.objs.size≤b)∨b∈muA mo μ:=fun b hb=>by
    rcases List.mem_cons.mp hb with rfl | hb
    · exact .inl geL
    · rcases List.mem_append.mp hb with hb | hb
      · obtain ⟨p,hp,rfl⟩:=List.mem_map.mp hb;clear hb
        exact .inl (Nat.le_of_lt (Nat.lt_of_le_of_lt geL (cge p hp)))
      · exact .inr hb
  have ownNew:∀ b∈ownA env mo μ,s₀.heap.get? b=none:=fun b hb=>by
    rcases own b hb with h | h
    · exact newGe b h
    · exact mnew b h
  have g₂:GoS F st s₀ s₂:=g.trans (GoS.of_keeps (by obtain ⟨h',tk',rfl⟩:=x.toInCall.same;exact ⟨h',tk',rfl,kp⟩))
  have exL:∃ o,s₂.heap.get? env.locals=some o∧∀ vs,o.data≠.fields vs:=by
    obtain ⟨o,es,ep,ho,hd,Z⟩:=x.toInCall.ns
    exact ⟨o,ho,fun vs q=>by rw [hd] at q;cases q⟩
  have newL:s₀.heap.get? env.locals=none:=newGe _ geL
  have hB2:∀ b o,s.heap.get? b=some o→(B b∨b∈ownA env mo μ)→B b∨b∈muA mo μ:=fun b o e hb=>by
    rcases hb with hb | hb
    · exact .inl hb
    · rcases own b hb with h | h
      · exact absurd (Heap.lt_size e) (Nat.not_lt.mpr h)
      · exact .inr h
  have kb:KeepB (fun b=>B b∨b∈muA mo μ) s.heap s₂.heap:=fun b o q Z=>kp b o q
  have vv:∀ {p:PV} {v:PySem.Value},VV (fun b=>B b∨b∈muA mo μ) s.heap μ p v→VV (fun b=>B b∨b∈ownA env mo μ) s₂.heap μ p v:=fun {p v} z=>by
    cases p<;>first | exact VR.keep kb hB2 z | exact z
  have nT:∀ b∈ownA env mo μ,¬ isT b:=fun b hb=>G₀.tab.notT (ownNew b hb)
  have nF:∀ b∈ownA env mo μ,b∉F:=fun b hb m=>by
    obtain ⟨Z,Z,Z,Z,o,ho,Z⟩:=G₀.apartF b m;clear m
    exact ne_new (ownNew b hb) ho rfl
  have cmem:∀ {y c},env.cells.lookup y=some c→c∈ownA env mo μ:=fun {y c} hc=>mem_cel (p:=(y,c)) (mem_of_lookup hc)
  have nML:∀ b∈muA mo μ,b∉env.locals::F:=fun b hb m=>by
    rcases List.mem_cons.mp m with m | m
    · exact Nat.ne_of_lt (Nat.lt_of_lt_of_le (ltM b hb) geL) m
    · exact nF b (mem_mu hb) m
  have ko:∀ y,env.kindOf y=fd.scope.names.lookup y:=fun y=>by unfold Env.kindOf;rw [e1]
  refine ⟨G₀,g₂,Nat.le_trans tk0 tk2,⟨?_,ownNew,fun b hb=>.inr hb,fun n c hc=>⟨_,x.cell n c hc⟩,fun y hy=>?_,e5⟩,fun b hb=>.inl hb,
    ⟨G₀.cons g₂.go newL exL,⟨fun b t=>.inl (D₀.t b t),fun b f=>?_,fun b hb=>?_⟩,e1,f7,e2.trans f4,e3.trans f5,nT _ mem_loc,.inr mem_loc,⟨_,x.toInCall.ns,fun y v e=>?_⟩,fun y v e=>?_,?_,(fun Z e=>nomatch e),fun Z=>e4⟩,fun a e=>e⟩
  · refine List.nodup_cons.mpr ⟨fun m=>?_,List.nodup_append.mpr ⟨List.pairwise_map.mpr x.apart,mnd,fun a ha b hb e=>?_⟩⟩
    · rcases List.mem_append.mp m with m | m
      · obtain ⟨p,hp,e⟩:=List.mem_map.mp m;clear m
        exact Nat.ne_of_gt (cge p hp) e
      · exact Nat.not_lt.mpr geL (ltM _ m)
    · obtain ⟨p,hp,rfl⟩:=List.mem_map.mp ha;clear ha
      exact Nat.ne_of_gt (Nat.lt_trans (Nat.lt_of_lt_of_le (ltM b hb) geL) (cge p hp)) e
  · rw [e7]
    rw [e1] at hy
    exact Option.isSome_iff_exists.mp (cellsFrom_has (.inr (mem_of_lookup hy)))
  · rcases List.mem_cons.mp f with rfl | f
    · exact .inr mem_loc
    · exact .inl (D₀.f b f)
  · rcases hb with hb | hb
    · obtain ⟨o,ho⟩:=there b (D₀.ex b hb);exact ⟨o,kp _ _ ho⟩
    · rcases List.mem_cons.mp hb with rfl | hb
      · obtain ⟨o,ho,Z⟩:=exL;exact ⟨o,ho⟩
      · rcases List.mem_append.mp hb with hb | hb
        · obtain ⟨p,hp,rfl⟩:=List.mem_map.mp hb;clear hb
          have hl:env.cells.lookup p.1=some p.2:=by rw [e7] at hp ⊢;exact cells_look hnd hp
          obtain ⟨o,ho,Z⟩:=x.cell _ _ hl;clear hl
          exact ⟨o,ho⟩
        · obtain ⟨o,ho⟩:=muEx b hb;exact ⟨o,kp _ _ ho⟩
  · obtain ⟨h1,h2⟩:=look_filter e;clear e
    obtain ⟨u,k1,k2⟩:=hb.mem h1;clear h1
    refine ⟨u,bindL_look (by rw [ko];exact beq_iff_eq.mp h2) (fun w' hw=>hcon _ _ _ hw k1) (.inr k1),vv k2⟩
  · obtain ⟨h1,h2⟩:=look_filter e;clear e
    obtain ⟨u,k1,k2⟩:=hb.mem h1;clear h1
    rw [Bool.and_eq_true] at h2
    have hcell:fd.scope.names.lookup y=some .cell:=beq_iff_eq.mp h2.1
    have hl:(env.cells.lookup y).isSome=true:=by rw [e7];exact cellsFrom_has (.inr (mem_of_lookup hcell))
    obtain ⟨c,hc⟩:=Option.isSome_iff_exists.mp hl;clear hl
    obtain ⟨o,ho,hd⟩:=x.cell y c hc
    rw [bindC_look (w:=u) (by rw [ko,hcell];intro q;cases q) (fun w' hw=>hcon _ _ _ hw k1) (.inr k1)] at hd
    refine ⟨c,o,u,hc,ho,hd,.inr (cmem hc),nT _ (cmem hc),fun m=>?_,?_⟩
    · rcases List.mem_cons.mp m with m | m
      · exact Nat.ne_of_gt (cge (y,c) (mem_of_lookup hc)) m
      · exact nF _ (cmem hc) m
    · exact VR.keep kb hB2 (k2.solid h2.2)
  · exact mu_move hmu kp kb hB2 fun b hb=>⟨.inr (mem_mu hb),nML b hb⟩
end
end Mine
end
section
set_option tactic.hygienic true
open PySem PySem.W PySem.Calls PyProof.Rows
namespace Mine
section
variable {C:CallSem} {d n:Nat} {A:Around} {F:List Addr} {fr:List Env} {st:Bool} {B B' B'':Addr→Prop} {μ μ₀:Option Addr} {env:Env} {fm fm':Fm} {s₀ s s₁ s₂ s':Shared} {r:SR} {h h' base:Heap} {L:Addr}
theorem BaseOf.back (g:Go F s₀ s₁) (hL:s₀.heap.get? L=none) (b:BaseOf (L::F) s₁.heap base):BaseOf F s₀.heap base where
  keep:=fun a o e t f=>b.keep a o (g.ext.keep a o e t f) t fun m=>by
    rcases List.mem_cons.mp m with m | m
    · exact ne_new hL e m
    · exact f m
  grow:=fun a ps t e=>by
    obtain ⟨m,hm⟩:=g.ext.grow a ps t e;clear e
    obtain ⟨m',hm'⟩:=b.grow a _ t hm;clear hm
    exact ⟨m++m',by rw [hm',Array.append_assoc]⟩
  tab:=b.tab
theorem leave_ok {x:PySem.Value} {E:PySem.Value→Shared→Prop} (hfr:A.frames=some (env::fr)) (fk:∀ e∈env::fr,e.scope.kind≠.module∧∃ L,e.frame=some L∧L∈env.locals::F) (a:At F st s₀ env B μ₀ fm B' μ s₁) (y:ExcX (env.locals::F) (env::fr) s₁ s x):
    wpAny (model prog w0) A (leaving env x) (fun Z s'=>ExcR F fr s₀ s' x) E s:=by
  have hf:=a.O.fr
  have hL:=a.O.new _ mem_loc
  have G:=a.I.gi
  have fin:∀ {e:Addr} {base a0 h'},Go (env.locals::F) s₁ s→BaseOf (env.locals::F) s₁.heap base→s.heap.UpToSlots h'→Heap.FlyingW base fr e (.type "ValueError") a0 h'→ExcR F fr s₀ { s with heap:=h' } (.ref e):=fun g hb u k=>
    ⟨a.g.go.transL hL (go_of_base g hb k.1 u),_,rfl,.fly _ _ (hb.back a.g.go hL) k⟩
  rcases y with ⟨g,e,rfl,⟨h0,hx,ht,hn⟩ | ⟨base,a0,hb,hw⟩⟩ | ⟨g,e,L',rfl,env',outer',he',hL',base,a0,hb,hw⟩
  · have hB:=base_without G hx ht
    have hF:s.heap.FunFrames (without h0 (env.locals::F)) (env::fr):=frames_without G hx hn.keeps fk
    obtain ⟨ob,t,ho,hc,hd⟩:=hn.there
    have hen:(without h0 (env.locals::F)).get? e=none:=by
      induction q:(without h0 (env.locals::F)).get? e with
      | none=>rfl
      | some o=>have:=without_stays e o q;rw [hn.new] at this;cases this
    have hst:(without h0 (env.locals::F)).StaysIn s.heap:=fun b o q=>hn.keeps b o (without_stays b o q)
    refine wpAny_leaving_firstW (a0:=t) hfr hF hf ho hst hen hd rfl rfl fun h' z1=>by obtain ⟨k1,⟨Z,Z,k2⟩,k3,k4⟩:=z1;exact fin (a0:=t) g hB k4 ⟨k1,hen,k2,by rw [hc] at k3;exact k3⟩
  · exact wpAny_leaves_onW hfr hf hw fun h' k u=>fin g hb u k
  · injection he' with e1 e2
    subst e1;subst e2
    rw [hf] at hL';cases hL'
    unfold leaving
    refine wpAny_bind (wpAny_noteFrame_againW hf hw.2.2.2 (wpAny_landsW hw fun h' k u=>?_))
    obtain ⟨k1,k2,⟨Z,Z,k3⟩,k4⟩:=k
    exact fin g hb u ⟨k1,k2,k3,k4⟩
theorem dflt_vr {v:PySem.Value} {p:PV} (e:dfltPV v=some p):VR B h p v∧p≠.own:=by
  cases v with
  | none=>cases e;exact ⟨rfl,nofun⟩
  | bool=>cases e;exact ⟨rfl,nofun⟩
  | str x t=>
    obtain ⟨hl,e1⟩:=grd_some e;clear e
    obtain rfl:=Option.some.inj e1;exact ⟨Exists.intro _ ⟨rfl,of_decide_eq_true hl⟩,nofun⟩
  | _=>exact nov e
theorem dflts_rs:∀ {vs:List PySem.Value} {ds:List PV},vs.mapM dfltPV=some ds→RS (VV B h μ) ds vs
  | [],ds,e=>by simp at e;subst e;rfl
  | v::vs,ds,e=>by
    rw [List.mapM_cons] at e
    induction h1:dfltPV v with
    | none=>rw [h1] at e;cases e
    | some p=>
      rw [h1] at e
      induction h2:vs.mapM dfltPV with
      | none=>rw [h2] at e;cases e
      | some l=>rw [h2] at e;cases e;exact ⟨v,vs,rfl,VV.of (dflt_vr h1).1,dflts_rs h2⟩
theorem defaults_ok {v:PySem.Value} {ds:List PV} (X:K0.In s.heap) (e:defaultsOf K0 v=some ds):∃ o:Option (Array PySem.Value),(∀ M,Looks M s.heap (seqItems? v) o)∧RS (VV B s.heap μ) ds (o.getD #[]).toList:=by
  cases v with
  | none=>
    cases e
    exact ⟨none,fun M A Q E s' k q=>wpAny_pure q,by show RS _ [] [];rfl⟩
  | ref t=>
    obtain ⟨⟨oc,od,dt,sl⟩,ho,e1⟩:=ask_some e;clear e
    obtain ⟨hc,e2⟩:=grd_some e1;clear e1
    obtain ⟨vs,hv,e3⟩:=ask_some e2;clear e2
    obtain rfl:=(beq_iff_eq.mp hc:oc=_)
    cases dt with
    | seq ws n=>
      cases hv
      exact ⟨some vs,fun M A Q E s' k q=>wpAny_seqItems (k _ _ (X _ _ ho)) rfl q,dflts_rs e3⟩
    | _=>exact nov hv
  | _=>exact nov e
theorem fn_ok {a:Addr} {oc:PySem.Value} {od:Option Addr} {sl:Array (Option PySem.Value)} {fd:FuncData} {args:List PV} {kw:List (PySem.Str×PV)} {vs:List PySem.Value} {kvs:List (PySem.Str×PySem.Value)} {mo:Option MO} {rS:SR}
    (X:CxF d st A F fr) (sx:SoundX C d fuel) (G₀:GI F s₀.heap) (D₀:Bd F B s₀.heap) (g:GoS F st s₀ s) (tk0:s₀.toks≤s.toks)
    (hmu:MuI F (fun b=>B b∨b∈muA mo μ) s.heap mo μ) (mnew:∀ b∈muA mo μ,s₀.heap.get? b=none) (mnd:(muA mo μ).Nodup)
    (hK:K0.lookup a=some ⟨oc,od,.func fd,sl⟩) (hok:fnOk K0 fd=true) (h:runFn K0 C st fd args kw mo=some rS) (hst:st=true→∀ f,rS≠.ex f)
    (qa:RS (VV (fun b=>B b∨b∈muA mo μ) s.heap μ) args vs) (qk:RL (VV (fun b=>B b∨b∈muA mo μ) s.heap μ) kw kvs):
    codeAny (model prog w0) A (.call (.ref a) ⟨vs,kvs⟩) (fun res s'=>match res with
      | .ok (.ret v)=>∃ env B' μ' fm,((rS=.nx fm∧v=.none)∨∃ p,rS=.rt p fm∧VV B' s'.heap μ' p v)∧At F st s₀ env B μ fm B' μ' s'
      | .ok _=>False
      | .error e=>(∃ f,rS=.ex f)∧ExcR F fr s₀ s' e) s:=by
  have hok':=hok
  simp only [fnOk,Bool.and_eq_true,Bool.not_eq_true',beq_iff_eq] at hok'
  obtain ⟨⟨⟨⟨⟨⟨f1,f2⟩,f3⟩,f4⟩,f5⟩,f6⟩,f7⟩:=hok'
  have XK:=(G₀.go g.go).k
  obtain ⟨ps,hp,h0⟩:=ask_some h
  obtain ⟨ds,hd,h1⟩:=ask_some h0;clear h0
  obtain ⟨b,hbody,h2⟩:=ask_some h1;clear h1
  obtain ⟨bs,hbs,h3⟩:=ask_some h2;clear h2
  obtain ⟨hc,h⟩:=grd_some h3;clear h3
  have hbody:=bodyV_of hbody
  obtain ⟨c1,hc1⟩:=and_tt hc;clear hc
  obtain ⟨c2,c3⟩:=and_tt hc1;clear hc1
  have c1:=not_tt c1
  have c2:=not_tt c2
  have c3:=and_tt c3
  obtain ⟨o,ho,hrs⟩:=defaults_ok (B:=fun b=>B b∨b∈muA mo μ) (μ:=μ) XK hd;clear hd
  obtain ⟨bvs,hbv,hrl⟩:=bind_rel hrs qa qk hbs;clear hbs
  have hB:=bind_ok hp ho rfl hbv
  obtain ⟨m1,m2⟩:=bindPV_mem hbv;clear hbv
  have hcl:fd.closure=[]:=List.isEmpty_iff.mp f6
  have hps:∀ x∈ps,∃ p∈fd.params.args,p.arg=x:=fun x hx=>by
    obtain ⟨Z,e⟩:=grd_some hp;clear hp
    obtain rfl:=Option.some.inj e;exact List.mem_map.mp hx
  refine codeAny_call_function X.room (XK _ _ hK) rfl c2 c1 hbody (codeRec_of XK f3) ?_
  refine hB _ _ _ _ ?_
  rw [hcl]
  refine wpAny_mono (wpAny_toks (wpAny_newFunctionEnv_cells (Q:=fun env s'=>env=newEnv fd.scope s.heap.objs.size fd.globals (cellsFrom (s.heap.objs.size+1) fd.scope.names []) (fd.qualname++".<locals>.") (some a) fd.code none fd.builtins ∧
    InCallC s env.locals (bindL env.kindOf bvs fun Z=>none) env.cells (bindC env.kindOf bvs fun Z=>none) s') f7 (fun x hx=>?_) fun env he s' x=>⟨he,x⟩)) (fun env s₂ ⟨tk2,he,x⟩=>?_) fun Z Z y=>y.2
  · obtain ⟨p,hpm,e⟩:=hps _ (m2 x hx);clear hx
    have:=List.all_eq_true.mp c3.2 p hpm
    rw [Bool.or_eq_true,beq_iff_eq,beq_iff_eq,e] at this
    exact this.imp_right fun q=>⟨q,cellsFrom_has (.inr (mem_of_lookup q))⟩
  · have hE:env.scope=fd.scope∧env.globals=fd.globals∧env.builtins=fd.builtins∧env.code=fd.code∧env.frame=some env.locals∧env.locals=s.heap.objs.size∧env.cells=cellsFrom (s.heap.objs.size+1) fd.scope.names []:=by
      subst he;exact ⟨rfl,rfl,rfl,rfl,rfl,rfl,rfl⟩
    have hat:=entry_At G₀ D₀ g tk0 hmu mnew mnd hE hok c3.1 m1 hrl tk2 x
    have hk:env.scope.kind≠.module:=by rw [hE.1,f7];intro q;cases q
    have Xi:Cx d st (A.deeper env) (env.locals::F) (env::fr):=X.inner hk hE.2.2.2.2.1
    refine ⟨hat.I.gi.lim,codeAny_func (wpAny_mono (sx.XS Xi hat hst h) (fun fl s' q=>?_) fun e s' y=>?_)⟩
    · induction rS with
      | nx f=>obtain ⟨rfl,B2,μ2,a2⟩:=q;exact ⟨env,B2,μ2,f,.inl ⟨rfl,rfl⟩,a2⟩
      | rt v f=>obtain ⟨vv,B2,μ2,rfl,a2,q⟩:=q;exact ⟨env,B2,μ2,f,.inr ⟨v,rfl,q⟩,a2⟩
      | ex f=>exact q.elim
    · obtain ⟨f,B2,μ2,s₃,rfl,a2,tk3,y⟩:=y
      have hst':st=false:=by
        induction st with
        | false=>rfl
        | true=>exact absurd rfl (hst rfl f)
      exact wpAny_mono (leave_ok (E:=fun Z Z=>False) (Xi.frames hst') Xi.fk a2 y) (fun Z s₄ z=>⟨⟨f,rfl⟩,z⟩) fun Z Z z=>z.elim
end
end Mine
end
section
set_option tactic.hygienic true
open PySem PySem.W PySem.Calls PyProof.Rows
namespace Mine
section
variable {C:CallSem} {d n:Nat} {A:Around} {F:List Addr} {fr:List Env} {st:Bool} {B B' B'':Addr→Prop} {μ μ₀:Option Addr} {env:Env} {fm fm':Fm} {s₀ s s₁ s₂ s':Shared} {h h':Heap} {r:Res PV}
theorem VRs.rs:∀ {l:List PV} {vs:List PySem.Value},VRs B h l vs→RS (VR B h) l vs
  | [],_,x=>by exact x
  | _::_,_,x=>by obtain ⟨v,r,e,h1,h2⟩:=x;exact ⟨v,r,e,h1,VRs.rs h2⟩
theorem RS.mono {R R':PV→PySem.Value→Prop} (h:∀ p v,R p v→R' p v):∀ {l vs},RS R l vs→RS R' l vs
  | [],_,x=>x
  | _::_,_,⟨v,r,e,h1,x⟩=>⟨v,r,e,h _ _ h1,RS.mono h x⟩
theorem end_vr {p:PV} {v:PySem.Value} (a:At F st s₀ env B μ₀ fm B' μ s') (q:VR B' s'.heap p v):VR B s'.heap p v:=VR.keep (fun Z Z e Z=>e) (fun b Z Z hb=>a.hB b hb) q
theorem end_list {l:List PV} (D:Bd F B s₀.heap) (a:At F st s₀ env B μ₀ fm B' μ s') (hm:fm.mu=some (.list l)) {v:PySem.Value} (q:VV B' s'.heap μ .own v):VR B s'.heap (.list l) v:=by
  have mu:=a.I.mu
  rw [hm] at mu
  obtain ⟨c,vs,k,rfl,h2,h3,h4,h5,h6,h7⟩:=mu
  obtain ⟨c',e,rfl⟩:=q
  cases e
  have new:s₀.heap.get? c=none:=a.O.new c (mem_mu (by rw [hm];exact List.mem_cons_self ..))
  refine ⟨c,vs,rfl,fun hb=>?_,⟨_,h5,rfl,_,rfl⟩,h6,VRs.keep (fun Z Z e Z=>e) (fun b Z Z hb=>a.hB b hb) h7⟩
  obtain ⟨o,e⟩:=D.ex c hb;clear hb
  exact ne_new new e rfl
theorem noExc_some {r₀:R PV} (h:noExc st r₀=some r):r₀=some r∧(st=true→r≠.exc):=by
  obtain ⟨x,e,h1⟩:=ask_some h;clear h
  obtain ⟨hc,h2⟩:=grd_some h1;clear h1
  obtain rfl:=Option.some.inj h2
  exact ⟨e,fun e q=>by subst e;subst q;exact nof hc⟩
theorem sc_fun {a:Addr} {oc:PySem.Value} {od:Option Addr} {sl:Array (Option PySem.Value)} {fd:FuncData} {args:List PV} {kw:List (PySem.Str×PV)} {vs:List PySem.Value} {kvs:List (PySem.Str×PySem.Value)}
    (X:CxC (d+1) st A F fr) (sx:SoundX C d fuel) (G:GI F s.heap) (D:Bd F B s.heap)
    (hK:K0.lookup a=some ⟨oc,od,.func fd,sl⟩) (hok:fnOk K0 fd=true) (h:endOf (runFn K0 C st fd args kw none)=some r) (hst:st=true→r≠.exc)
    (qa:VRs B s.heap args vs) (qk:RL (VR B s.heap) kw kvs):
    codeAny (model prog w0) A (.call (.ref a) ⟨vs,kvs⟩) (CR (EPs F st B s r) (PostX F fr s r)) s:=by
  obtain ⟨rS,h1,h2⟩:=ask_some h;clear h
  have hst':st=true→∀ f,rS≠.ex f:=fun e f q=>by
    subst q
    cases h2
    exact hst e rfl
  have up:∀ p v,VR B s.heap p v→VV (fun b=>B b∨b∈muA none none) s.heap none p v:=fun p v z=>VV.of (VR.keep (fun Z Z e Z=>e) (fun b Z Z hb=>hb.resolve_right (List.not_mem_nil)) z)
  refine codeAny_mono (fn_ok (mo:=none) (μ:=none) (B:=B) X.toF sx G D (.refl ..) (Nat.le_refl _) rfl (fun b hb=>nomatch hb) List.nodup_nil hK hok h1 hst' (RS.mono up qa.rs) (RL.mono up qk)) fun res s' z=>?_
  induction res with
  | error e=>
    obtain ⟨⟨f,rfl⟩,z⟩:=z
    cases h2
    exact ⟨rfl,z⟩
  | ok fl=>
  cases fl with
  | ret v=>
    obtain ⟨env,B2,μ2,fm2,hr,a⟩:=z
    rcases hr with ⟨rfl,rfl⟩ | ⟨p,rfl,q⟩
    · cases h2
      exact ⟨a.g,_,rfl,rfl⟩
    · have h2:retV fm2 p=some r:=h2
      induction p using PV.casesOn with
      | own=>
        obtain ⟨l,hl,h3⟩:=ask_some (show ask (muList fm2) (fun l=>rok (.list l))=some r from h2);clear h2
        obtain rfl:=rok_some h3
        exact ⟨a.g,_,rfl,end_list D a (muList_of hl) q⟩
      | _=>
        obtain rfl:=rok_some h2
        exact ⟨a.g,_,rfl,end_vr a (q.solid rfl)⟩
  | _=>exact z.elim
theorem under_F {Ca:Addr} {rest:List PySem.Value} {kvs:List (PySem.Str×PySem.Value)} (X:CxC (d+1) st A F fr):CxF d st (A.under (.builtin "type.__call__" ⟨.ref Ca::rest,kvs⟩)) F fr where
  handled:=X.handled
  depth:=by have:=X.depth;rw [depth_under_kw];lia
  units:=by have:=X.units;show A.units+1+100*d+80≤9000;lia
  frames:=X.frames
  fk:=X.fk
  fa:=X.fa
theorem sc_cls {a:Addr} {args:List PV} {kw:List (PySem.Str×PV)} {vs:List PySem.Value} {kvs:List (PySem.Str×PySem.Value)}
    (X:CxC (d+1) st A F fr) (sx:SoundX C d fuel) (G:GI F s.heap) (D:Bd F B s.heap)
    (h:clsR K0 C st a args kw=some r) (hst:st=true→r≠.exc)
    (qa:VRs B s.heap args vs) (qk:RL (VR B s.heap) kw kvs):
    codeAny (model prog w0) A (.call (.ref a) ⟨vs,kvs⟩) (CR (EPs F st B s r) (PostX F fr s r)) s:=by
  obtain ⟨hm,h11⟩:=grd_some h;clear h
  obtain ⟨o,hi,h12⟩:=ask_some h11;clear h11
  obtain ⟨v,rfl,h13⟩:=ask_some h12;clear h12
  obtain ⟨hp,gs,dr,tks,os⟩:=s
  have k2:∀ b o,hp.get? b=some o→((hp.push emptyDict).push (instObj a hp.objs.size)).get? b=some o:=fun b o e=>Heap.get?_push_of_some _ (Heap.get?_push_of_some _ e)
  have n0:=size_new hp
  have nd:(hp.push emptyDict).objs.size=hp.objs.size+1:=Heap.size_push ..
  have n1:hp.get? (hp.objs.size+1)=none:=by
    induction e:hp.get? (hp.objs.size+1) with
    | none=>rfl
    | some o=>exact absurd (Heap.lt_size e) (Nat.not_lt.mpr (Nat.le_succ _))
  have g1:((hp.push emptyDict).push (instObj a hp.objs.size)).get? (hp.objs.size+1)=some (instObj a hp.objs.size):=by heap_get
  have g0:((hp.push emptyDict).push (instObj a hp.objs.size)).get? hp.objs.size=some (dictOf [] 0):=Heap.get?_push_of_some _ (Heap.get?_push_size _ rfl)
  have oldB:∀ b,B b→b≠hp.objs.size+1∧b≠hp.objs.size:=fun b hb=>by
    obtain ⟨o,e⟩:=D.ex b hb;clear hb
    exact ⟨ne_new n1 e,ne_new n0 e⟩
  have gK:GoS F st ⟨hp,gs,dr,tks,os⟩ ⟨(hp.push emptyDict).push (instObj a hp.objs.size),gs,dr,tks,os⟩:=GoS.of_keeps ⟨_,tks,rfl,k2⟩
  cases v with
  | ref f=>
    obtain ⟨fd,hfd,h14⟩:=ask_some (show ask (funOf K0 f) (fun fd=>grd (fnOk K0 fd&&isFn K0 (.ref f)) (ask (runFn K0 C st fd (.own::args) kw (some (.inst a []))) (madeR a)))=some r from h13);clear h13
    obtain ⟨hc,h15⟩:=grd_some h14;clear h14
    obtain ⟨hok,hfn⟩:=and_tt hc;clear hc
    obtain ⟨⟨oc,od,dt,sl⟩,hlk,h2⟩:=ask_some hfd;clear hfd
    obtain rfl:=fdOf_of h2
    obtain ⟨rS,h1,h16⟩:=ask_some h15;clear h15
    have hst':st=true→∀ f,rS≠.ex f:=fun e f q=>by
      subst q
      cases h16
      exact hst e rfl
    have hmA:muA (some (.inst a [])) (some (hp.objs.size+1))=[hp.objs.size+1,hp.objs.size]:=rfl
    have up:∀ p v,VR B hp p v→VV (fun b=>B b∨b∈muA (some (.inst a [])) (some (hp.objs.size+1))) ((hp.push emptyDict).push (instObj a hp.objs.size)) (some (hp.objs.size+1)) p v:=fun p v z=>VV.of (VR.keep (fun b o e Z=>k2 b o e) (fun b o e hb=>by
      rcases hb with hb | hb
      · exact hb
      · rw [hmA] at hb
        rcases List.mem_cons.mp hb with rfl | hb
        · rw [n1] at e;cases e
        · obtain rfl:=List.mem_singleton.mp hb;rw [n0] at e;cases e) z)
    refine make_core (makes_of G.k hm) (looks_findIn G.k hi) (fun self=>bind_fn G.k self (beq_iff_eq.mp hfn)) (.inl rfl) ?_
    have mnew:∀ b∈muA (some (.inst a [])) (some (hp.objs.size+1)),hp.get? b=none:=fun b hb=>by
      rw [hmA] at hb
      rcases List.mem_cons.mp hb with rfl | hb
      · exact n1
      · obtain rfl:=List.mem_singleton.mp hb;exact n0
    have nT:∀ b,hp.get? b=none→¬ isT b:=fun b e=>G.tab.notT e
    have nF:∀ b,hp.get? b=none→b∉F:=fun b e m=>by
      obtain ⟨Z,Z,Z,Z,o,ho,Z⟩:=G.apartF b m;clear m
      exact ne_new e ho rfl
    refine codeAny_mono (fn_ok (s₀:=⟨hp,gs,dr,tks,os⟩) (mo:=some (.inst a [])) (μ:=some (hp.objs.size+1)) (B:=B) (under_F X) sx G D gK (Nat.le_refl _)
      ⟨hp.objs.size,[],0,rfl,.inr (List.mem_cons_self ..),.inr (List.mem_cons_of_mem _ (List.mem_cons_self ..)),nT _ n1,nT _ n0,nF _ n1,nF _ n0,g1,g0,rfl⟩
      mnew (by rw [hmA];exact List.nodup_cons.mpr ⟨by simp,List.nodup_cons.mpr ⟨by simp,List.nodup_nil⟩⟩) hlk hok h1 hst' ⟨.ref (hp.objs.size+1),vs,rfl,⟨_,rfl,rfl⟩,RS.mono up qa.rs⟩ (RL.mono up qk)) fun res s' z=>?_
    induction res with
    | error e=>
      obtain ⟨⟨f,rfl⟩,z⟩:=z
      cases h16
      exact ⟨rfl,z⟩
    | ok fl=>
    cases fl with
    | ret v=>
      obtain ⟨env,B2,μ2,fm2,hr,ha⟩:=z
      rcases hr with ⟨rfl,rfl⟩ | ⟨p,rfl,q⟩
      · obtain ⟨⟨D',fs⟩,hmu,h17⟩:=ask_some (show ask (muInst fm2) (fun q=>grd (q.1==a) (rok (.inst a q.2)))=some r from h16);clear h16
        obtain ⟨hD,h18⟩:=grd_some h17;clear h17
        obtain rfl:=beq_iff_eq.mp hD
        obtain rfl:=rok_some h18
        have hmu:=muInst_of hmu
        have hμ:=ha.mu₀ _ rfl
        subst hμ
        have mu:=ha.I.mu
        rw [hmu] at mu
        obtain ⟨dd,es,k,e1,h2,h3,h4,h5,h6,h7,h8,h9,h10⟩:=mu
        have e2:dd=hp.objs.size:=by have:=Option.some.inj e1;exact (Nat.succ.inj this).symm
        subst e2
        refine ⟨rfl,ha.g,_,rfl,?_⟩
        exact ⟨_,es,k,rfl,fun hb=>(oldB _ hb).1 rfl,fun hb=>(oldB _ hb).2 rfl,h8,h9,VRf.keep (fun Z Z e Z=>e) (fun b Z Z hb=>ha.hB b hb) h10⟩
      · cases h16
    | _=>exact z.elim
  | builtin g=>
    obtain ⟨hc,h19⟩:=grd_some (show grd (g=="object.__init__"&&(args.isEmpty&&kw.isEmpty)) (rok (.inst a []))=some r from h13);clear h13
    obtain rfl:=rok_some h19
    obtain ⟨hg,he⟩:=and_tt hc;clear hc
    obtain rfl:=beq_iff_eq.mp hg
    induction args using List.casesOn with
    | cons=>exact nof (and_tt he).1
    | nil=>
      induction kw using List.casesOn with
      | cons=>exact nof (and_tt he).2
      | nil=>
      obtain rfl:_=[]:=qa
      obtain rfl:_=[]:=qk
      have Y:=makes_of (M:=model prog w0) G.k hm
      refine make_core Y (looks_findIn G.k hi) (fun self=>Looks.of_pure (oi_bind self)) (.inr ⟨rfl,rfl⟩) ?_
      have t1:Looks (model prog w0) ((hp.push emptyDict).push (instObj a hp.objs.size)) (typeOf (.ref (hp.objs.size+1))) (.ref a):=(Looks.ld g1).andThen .now
      have t2:Looks (model prog w0) ((hp.push emptyDict).push (instObj a hp.objs.size)) (isInstance (.ref (hp.objs.size+1)) (.type "object")) true:=t1.andThen (Y.top.keeps k2)
      refine codeAny_call_builtin oi_plain entry_oi (@check_slot (model prog w0) _ _ _ "object.__init__" "object" "__init__" (.ref (hp.objs.size+1)) [] [] _ oi_kind oi_split t2 (oi_args (.ref (hp.objs.size+1))) ?_)
      rw [oi_run]
      refine wpAny_pure (And.intro rfl ⟨gK,_,rfl,?_⟩)
      exact ⟨hp.objs.size,[],0,rfl,fun hb=>(oldB _ hb).1 rfl,fun hb=>(oldB _ hb).2 rfl,g1,g0,rfl⟩
  | _=>exact nov h13
theorem sc_all (rx:RX) (it:∀ d,ITR d):∀ n,SC (callAt K0 n) n
  | 0=>fun X G D h=>nov h
  | n+1=>fun X G D h qa qk=>by
    have sx:SoundX (callAt K0 n) n fuel:=soundX_all (sc_all rx it n) rx (it n) fuel fuel (Nat.le_refl _)
    obtain ⟨h1,hst⟩:=noExc_some h;clear h
    obtain ⟨⟨oc,od,dt,sl⟩,hK,h2⟩:=ask_some h1;clear h1
    cases dt with
    | func fd=>
      obtain ⟨hok,h3⟩:=grd_some (show grd (fnOk K0 fd) (endOf (runFn K0 (callAt K0 n) _ fd _ _ none))=some _ from h2);clear h2
      exact sc_fun X sx G D hK hok h3 hst qa qk
    | cls=>exact sc_cls X sx G D h2 hst qa qk
    | _=>exact nov h2
end
end Mine
end
section
open PySem PySem.W
namespace Mine
open PySem.Sre
noncomputable def iterM:Nat→M→M
  | 0,m=>m
  | n+1,m=>iterM n m.step
theorem iterM_add:∀ a b m,iterM (a+b) m=iterM b (iterM a m)
  | 0,b,m=>by rw [Nat.zero_add];rfl
  | a+1,b,m=>by rw [Nat.add_right_comm];exact iterM_add a b m.step
noncomputable def Leads (P:M→Prop) (N:Nat) (Q:M→Prop):Prop:=∀ m,P m→∃ n,n≤N∧Q (iterM n m)
theorem Leads.trans {P Q R:M→Prop} {a b:Nat} (x:Leads P a Q) (y:Leads Q b R):Leads P (a+b) R:=fun m h=>by
  obtain ⟨n,h1,h2⟩:=x m h;clear h
  obtain ⟨k,h3,h4⟩:=y _ h2;clear h2
  exact ⟨n+k,Nat.add_le_add h1 h3,by rw [iterM_add];exact h4⟩
theorem Leads.le {P Q:M→Prop} {a b:Nat} (x:Leads P a Q) (h:a≤b):Leads P b Q:=fun m hm=>(x m hm).imp fun Z y=>⟨Nat.le_trans y.1 h,y.2⟩
theorem Leads.to {P Q R:M→Prop} {a:Nat} (x:Leads P a Q) (h:∀ m,Q m→R m):Leads P a R:=fun m hm=>(x m hm).imp fun Z y=>⟨y.1,h _ y.2⟩
theorem Leads.one {P Q:M→Prop} (h:∀ m,P m→Q m.step):Leads P 1 Q:=fun m hm=>⟨1,Nat.le_refl _,h m hm⟩
noncomputable def Mk (G:Nat) (a:Array (Option Nat)) (vs:List (Option Nat)):Prop:=∃ r,a=(vs++r).toArray∧vs.length+r.length=G
noncomputable def wsum:List Sre.Frame→Nat
  | []=>0
  | f::r=>wsum r+1+f.kept.marks.size
noncomputable def kp (vs:List (Option Nat)) (li:Int) (b:Bool):Sre.Kept:={ lastmark:=(vs.length:Int) - 1,lastindex:=li,whole:=b,marks:=if b then vs.toArray else #[] }
structure MAt (code:Array Nat) (l:List Nat) (G pc pos:Nat) (vs:List (Option Nat)) (li:Int) (ls:Array Sre.Loop) (inn:Option Nat) (fs:List Sre.Frame) (ans:Option Bool) (m:M):Prop where
  code:m.code=code
  text:m.text=l.toArray
  lim:m.lim=l.length
  start:m.start=0
  adv:m.mustAdvance=false
  whole:m.wholeText=false
  pc:m.pc=pc
  pos:m.pos=pos
  out:m.outermost=true
  marks:Mk G m.marks vs
  lm:m.lastmark=(vs.length:Int) - 1
  li:m.lastindex=li
  ls:m.loops=ls
  inn:m.inner=inn
  fs:m.frames=fs
  wt:m.weight=wsum m.frames
  ans:m.answer=ans
  oc:m.outcome=none
section
variable {ans:Option Bool} {code:Array Nat} {l:List Nat} {G pc pos:Nat} {vs:List (Option Nat)} {li:Int} {ls:Array Sre.Loop} {inn:Option Nat} {fs:List Sre.Frame} {m:M}
theorem MAt.step_none (h:MAt code l G pc pos vs li ls inn fs none m) (hpc:pc < code.size):m.step=m.exec:=by
  unfold M.step
  rw [h.oc,h.ans,if_neg (by simp)]
  show (if m.pc < m.code.size then m.exec else _)=_
  rw [if_pos (by rw [h.pc,h.code];exact hpc)]
theorem MAt.word (h:MAt code l G pc pos vs li ls inn fs ans m) (k:Nat):m.word k=code.getD (pc+k) 0:=by unfold M.word;rw [h.code,h.pc]
theorem MAt.say (h:MAt code l G pc pos vs li ls inn fs ans m) (b:Bool) (s:Seen):MAt code l G pc pos vs li ls inn fs (some b) ({ m with seen:=s }.say b):=
  ⟨h.code,h.text,h.lim,h.start,h.adv,h.whole,h.pc,h.pos,h.out,h.marks,h.lm,h.li,h.ls,h.inn,h.fs,h.wt,rfl,h.oc⟩
theorem lit_yes (h0:code.getD pc 0=16) (hs:pc < code.size) (hp:pos < l.length) (hc:l.toArray.getD pos 0=code.getD (pc+1) 0):
    Leads (MAt code l G pc pos vs li ls inn fs none) 1 (MAt code l G (pc+2) (pos+1) vs li ls inn fs none):=Leads.one fun m h=>by
  rw [h.step_none hs]
  unfold M.exec
  rw [show ops[m.word 0]?=some .LITERAL by rw [h.word];show ops[code.getD pc 0]?=_;rw [h0];rfl]
  dsimp only
  rw [if_neg (by rw [h.pos,h.lim];lia)]
  have:accepts m.code m.pc (m.text.getD m.pos 0) (m.seen.add (m.word 0))=.ok (true,m.seen.add (m.word 0)):=by
    unfold accepts
    rw [h.code,h.pc,h.text,h.pos,h0]
    show Except.ok (l.toArray.getD pos 0==code.getD (pc+1) 0,_)=_
    rw [hc];simp
  rw [this]
  dsimp only
  exact ⟨h.code,h.text,h.lim,h.start,h.adv,h.whole,by show m.pc+itemWidth m.code m.pc=_;rw [h.pc,h.code];unfold itemWidth;rw [h0];rfl,by show m.pos+1=_;rw [h.pos],h.out,h.marks,h.lm,h.li,h.ls,h.inn,h.fs,h.wt,h.ans,h.oc⟩
theorem lit_no (h0:code.getD pc 0=16) (hs:pc < code.size) (hp:l.length≤pos∨l.toArray.getD pos 0≠code.getD (pc+1) 0):
    Leads (MAt code l G pc pos vs li ls inn fs none) 1 (MAt code l G pc pos vs li ls inn fs (some false)):=Leads.one fun m h=>by
  rw [h.step_none hs]
  unfold M.exec
  rw [show ops[m.word 0]?=some .LITERAL by rw [h.word];show ops[code.getD pc 0]?=_;rw [h0];rfl]
  dsimp only
  by_cases hl:l.length≤pos
  · rw [if_pos (by rw [h.pos,h.lim];exact hl)]
    exact h.say false _
  · rw [if_neg (by rw [h.pos,h.lim];exact hl)]
    have hc:=hp.resolve_left hl
    have:accepts m.code m.pc (m.text.getD m.pos 0) (m.seen.add (m.word 0))=.ok (false,m.seen.add (m.word 0)):=by
      unfold accepts
      rw [h.code,h.pc,h.text,h.pos,h0]
      show Except.ok (l.toArray.getD pos 0==code.getD (pc+1) 0,_)=_
      rw [beq_eq_false_iff_ne.mpr hc]
    rw [this]
    exact h.say false _
theorem at_ok {k:Nat} {b:Bool} (h0:code.getD pc 0=6) (hk:code.getD (pc+1) 0=k) (hs:pc < code.size) (hb:∀ m,MAt code l G pc pos vs li ls inn fs none m→m.isAt k=.ok b):
    Leads (MAt code l G pc pos vs li ls inn fs none) 1 (MAt code l G (if b then pc+2 else pc) pos vs li ls inn fs (if b then none else some false)):=Leads.one fun m h=>by
  rw [h.step_none hs]
  unfold M.exec
  rw [show ops[m.word 0]?=some .AT by rw [h.word];show ops[code.getD pc 0]?=_;rw [h0];rfl]
  dsimp only
  have e:({ m with seen:=m.seen.add (m.word 0) }:M).isAt (({ m with seen:=m.seen.add (m.word 0) }:M).word 1)=.ok b:=by
    have:({ m with seen:=m.seen.add (m.word 0) }:M).word 1=k:=(h.word 1).trans hk
    rw [this]
    exact hb m h
  rw [e]
  dsimp only
  induction b with
  | true=>exact ⟨h.code,h.text,h.lim,h.start,h.adv,h.whole,by show m.pc+2=_;rw [h.pc];rfl,h.pos,h.out,h.marks,h.lm,h.li,h.ls,h.inn,h.fs,h.wt,h.ans,h.oc⟩
  | false=>exact h.say false _
theorem begin_ok (h0:code.getD pc 0=6) (hk:code.getD (pc+1) 0=0) (hs:pc < code.size):
    Leads (MAt code l G pc 0 vs li ls inn fs none) 1 (MAt code l G (pc+2) 0 vs li ls inn fs none):=
  at_ok (b:=true) h0 hk hs fun m h=>by unfold M.isAt;dsimp only;rw [h.pos];rfl
theorem end_yes (h0:code.getD pc 0=6) (hk:code.getD (pc+1) 0=5) (hs:pc < code.size) (hp:pos=l.length):
    Leads (MAt code l G pc pos vs li ls inn fs none) 1 (MAt code l G (pc+2) pos vs li ls inn fs none):=
  at_ok (b:=true) h0 hk hs fun m h=>by show Except.ok (m.pos==m.lim||(m.pos+1==m.lim&&m.text.getD m.pos 0==10))=_;rw [h.pos,h.lim,hp];simp
theorem end_no (h0:code.getD pc 0=6) (hk:code.getD (pc+1) 0=5) (hs:pc < code.size) (hp:pos≠l.length) (hn:l.toArray.getD pos 0≠10):
    Leads (MAt code l G pc pos vs li ls inn fs none) 1 (MAt code l G pc pos vs li ls inn fs (some false)):=
  at_ok (b:=false) h0 hk hs fun m h=>by show Except.ok (m.pos==m.lim||(m.pos+1==m.lim&&m.text.getD m.pos 0==10))=_;rw [h.pos,h.lim,h.text,beq_eq_false_iff_ne.mpr hp,beq_eq_false_iff_ne.mpr hn];simp
theorem Mk.set {a:Array (Option Nat)} {v:Option Nat} (h:Mk G a vs) (hi:vs.length < G):Mk G (a.setIfInBounds vs.length v) (vs++[v]):=by
  obtain ⟨r,rfl,hl⟩:=h
  induction r using List.casesOn with
  | nil=>simp at hl;lia
  | cons x r=>exact ⟨r,by simp,by simpa [Nat.add_assoc,Nat.add_comm 1] using hl⟩
theorem Mk.none2 {a:Array (Option Nat)} (h:Mk G a vs) (hi:vs.length+2≤G):Mk G ((List.range (vs.length+2)).foldl (fun (a:Array (Option Nat)) (j:Nat)=>if (j:Int) > (vs.length:Int) - 1 then a.setIfInBounds j none else a) a) (vs++[none,none]):=by
  obtain ⟨r,rfl,hl⟩:=h
  match r,hl with
  | [],hl=>simp at hl;lia
  | [_],hl=>simp at hl;lia
  | x::y::r,hl=>
    have low:∀ k,k≤vs.length→∀ a:Array (Option Nat),(List.range k).foldl (fun (a:Array (Option Nat)) (j:Nat)=>if (j:Int) > (vs.length:Int) - 1 then a.setIfInBounds j none else a) a=a:=by
      intro k
      induction k with
      | zero=>intro _ _;rfl
      | succ k ih=>
        intro hk a
        rw [List.range_succ,List.foldl_append,ih (by lia)]
        simp only [List.foldl_cons,List.foldl_nil]
        rw [if_neg (by lia)]
    refine ⟨r,?_,by simp at hl ⊢;lia⟩
    rw [List.range_succ,List.range_succ,List.foldl_append,List.foldl_append,low _ (Nat.le_refl _)]
    simp only [List.foldl_cons,List.foldl_nil]
    rw [if_pos (by lia),if_pos (by lia)]
    apply Array.ext'
    simp
theorem Mk.extract {a:Array (Option Nat)} (h:Mk G a vs):a.extract 0 ((vs.length:Int) - 1+1).toNat=vs.toArray:=by
  obtain ⟨r,rfl,Z⟩:=h
  rw [show ((vs.length:Int) - 1+1).toNat=vs.length by lia]
  apply Array.ext'
  simp
theorem Mk.back {a:Array (Option Nat)} {us:List (Option Nat)} (h:Mk G a us) (hv:vs.length≤G):Mk G (vs.toArray++a.extract vs.toArray.size a.size) vs:=by
  obtain ⟨r,rfl,hl⟩:=h
  refine ⟨(us++r).drop vs.length,?_,?_⟩
  · apply Array.ext'
    simp [List.take_of_length_le]
  · simp;lia
theorem Mk.pre {a:Array (Option Nat)} {us:List (Option Nat)} (h:Mk G a (vs++us)):Mk G a vs:=by
  obtain ⟨r,rfl,hl⟩:=h
  exact ⟨us++r,by simp,by simp at hl ⊢;lia⟩
theorem MAt.keep (h:MAt code l G pc pos vs li ls inn fs ans m) (b:Bool):m.keep b=kp vs li b:=by
  unfold M.keep kp
  rw [h.lm,h.li,h.marks.extract]
theorem mark_ok (h0:code.getD pc 0=17) (h1:code.getD (pc+1) 0=vs.length) (hs:pc < code.size) (hG:vs.length < G):
    Leads (MAt code l G pc pos vs li ls inn fs none) 1 (MAt code l G (pc+2) pos (vs++[some pos]) (if vs.length % 2==1 then (vs.length / 2+1:Nat) else li) ls inn fs none):=Leads.one fun m h=>by
  rw [h.step_none hs]
  unfold M.exec
  rw [show ops[m.word 0]?=some .MARK by rw [h.word];show ops[code.getD pc 0]?=_;rw [h0];rfl]
  dsimp only
  rw [show ({ m with seen:=m.seen.add (m.word 0) }:M).word 1=vs.length from (h.word 1).trans h1]
  unfold M.mark
  dsimp only
  refine ⟨h.code,h.text,h.lim,h.start,h.adv,h.whole,by show m.pc+2=_;rw [h.pc],h.pos,h.out,?_,?_,?_,h.ls,h.inn,h.fs,h.wt,h.ans,h.oc⟩
  · show Mk G (Array.setIfInBounds (if (vs.length:Int)≤m.lastmark+1 then m.marks else _) vs.length (some m.pos)) _
    rw [if_pos (by rw [h.lm];lia),h.pos]
    exact h.marks.set hG
  · show max m.lastmark (vs.length:Int)=_
    rw [h.lm,List.length_append];simp only [List.length_singleton];lia
  · show (if vs.length % 2==1 then ((vs.length / 2+1:Nat):Int) else m.lastindex)=_
    rw [h.li]
theorem mark_skip (h0:code.getD pc 0=17) (h1:code.getD (pc+1) 0=vs.length+2) (hs:pc < code.size) (hG:vs.length+2 < G):
    Leads (MAt code l G pc pos vs li ls inn fs none) 1 (MAt code l G (pc+2) pos (vs++[none,none]++[some pos]) (if vs.length % 2==1 then ((vs.length+2) / 2+1:Nat) else li) ls inn fs none):=Leads.one fun m h=>by
  rw [h.step_none hs]
  unfold M.exec
  rw [show ops[m.word 0]?=some .MARK by rw [h.word];show ops[code.getD pc 0]?=_;rw [h0];rfl]
  dsimp only
  rw [show ({ m with seen:=m.seen.add (m.word 0) }:M).word 1=vs.length+2 from (h.word 1).trans h1]
  unfold M.mark
  dsimp only
  refine ⟨h.code,h.text,h.lim,h.start,h.adv,h.whole,by show m.pc+2=_;rw [h.pc],h.pos,h.out,?_,?_,?_,h.ls,h.inn,h.fs,h.wt,h.ans,h.oc⟩
  · show Mk G (Array.setIfInBounds (if ((vs.length+2:Nat):Int)≤m.lastmark+1 then m.marks else _) (vs.length+2) (some m.pos)) _
    rw [if_neg (by rw [h.lm];lia),h.pos,h.lm]
    have:=(h.marks.none2 (by lia)).set (v:=some pos) (by simpa using hG)
    simpa using this
  · show max m.lastmark ((vs.length+2:Nat):Int)=_
    rw [h.lm,List.length_append,List.length_append];simp only [List.length_cons,List.length_nil];lia
  · show (if (vs.length+2) % 2==1 then (((vs.length+2) / 2+1:Nat):Int) else m.lastindex)=_
    rw [h.li,Nat.add_mod_right]
end
end Mine
end
section
open PySem PySem.W
namespace Mine
open PySem.Sre
section
variable {acc:Nat→Bool} {ans:Option Bool} {code:Array Nat} {l:List Nat} {G pc pos n k:Nat} {vs us:List (Option Nat)} {li li':Int} {ls:Array Sre.Loop} {inn inn':Option Nat} {fs:List Sre.Frame} {m:M}
noncomputable def ItemAt (code:Array Nat) (i:Nat) (acc:Nat→Bool):Prop:=∀ c seen,∃ seen',accepts code i c seen=.ok (acc c,seen')
theorem getD_drop {l:List Nat} {p c:Nat} {r:List Nat} (h:l.drop p=c::r):l.toArray.getD p 0=c∧p < l.length∧l.drop (p+1)=r:=by
  have hp:p < l.length:=by
    rcases Nat.lt_or_ge p l.length with h' | h'
    · exact h'
    · rw [List.drop_of_length_le h'] at h;cases h
  rw [List.drop_eq_getElem_cons hp] at h
  injection h with h1 h2
  refine ⟨?_,hp,h2⟩
  rw [Array.getD_eq_getD_getElem?,List.getElem?_toArray,List.getElem?_eq_getElem hp]
  exact h1
theorem run_item (ha:ItemAt code k acc):∀ (r:List Nat) (p f:Nat) (seen:Seen),l.drop p=r→∃ seen',run code l.toArray k r.length p f seen=.ok (f+(r.takeWhile acc).length,seen')
  | [],p,f,seen,h=>⟨seen,rfl⟩
  | c::r,p,f,seen,h=>by
    obtain ⟨h1,h2,h3⟩:=getD_drop h;clear h
    obtain ⟨s',hs⟩:=ha c seen
    show ∃ seen',(accepts code k (l.toArray.getD p 0) seen>>=fun x=>_)=_
    rw [h1,hs]
    induction hc:acc c with
    | true=>
      obtain ⟨s₂,h4⟩:=run_item ha r (p+1) (f+1) s' h3;clear h3
      refine ⟨s₂,?_⟩
      show run code l.toArray k r.length (p+1) (f+1) s'=_
      rw [h4,List.takeWhile_cons,if_pos hc,List.length_cons,Nat.add_right_comm];rfl
    | false=>
      refine ⟨s',?_⟩
      show (pure (f,s'):Except String _)=_
      rw [List.takeWhile_cons,if_neg (by rw [hc];simp)];rfl
noncomputable def gb (pc pos n:Nat) (k:Sre.Kept):Sre.Frame:={ wait:=.giveBack,pc,pos,outermost:=true,count:=n,kept:=k }
theorem size_kp {b:Bool}:(kp vs li b).marks.size≤vs.length:=by unfold kp;cases b<;>simp
structure RepAt (code:Array Nat) (pc k:Nat) (acc:Nat→Bool):Prop where
  op:code.getD pc 0=24
  skip:code.getD (pc+1) 0=k
  least:code.getD (pc+2) 0=1
  most:code.getD (pc+3) 0=4294967295
  here:pc < code.size
  item:ItemAt code (pc+4) acc
theorem rep_run (h0:RepAt code pc k acc) (h:MAt code l G pc pos vs li ls inn fs none m) (hl:l.length≤1000000) (hp:pos≤l.length) (sn:Seen):
    ∃ s',run m.code m.text (m.pc+4) (min (if false=true then 1 else 4294967295) ((m.lim:Int) - m.pos).toNat) m.pos 0 sn=.ok (((l.drop pos).takeWhile acc).length,s'):=by
  have hlen:(l.drop pos).length=l.length - pos:=List.length_drop
  rw [h.code,h.text,h.pc,h.pos,h.lim]
  rw [show min (if false=true then 1 else 4294967295) ((l.length:Int) - pos).toNat=(l.drop pos).length by rw [if_neg Bool.false_ne_true,hlen,Int.toNat_sub];exact Nat.min_eq_right (Nat.le_trans (Nat.sub_le _ _) (Nat.le_trans hl (by decide)))]
  obtain ⟨s',hr⟩:=run_item (l:=l) h0.item (l.drop pos) pos 0 sn rfl
  exact ⟨s',by rw [hr,Nat.zero_add]⟩
theorem rep_yes (h0:RepAt code pc k acc) (hn:((l.drop pos).takeWhile acc).length=n+1) (hl:l.length≤1000000) (hp:pos≤l.length) (hw:wsum fs+1+vs.length≤16777216):
    Leads (MAt code l G pc pos vs li ls inn fs none) 1 (MAt code l G (pc+1+k) (pos+(n+1)) vs li ls inn (gb pc (pos+(n+1)) (n+1) (kp vs li inn.isSome)::fs) none):=Leads.one fun m h=>by
  rw [h.step_none h0.here]
  unfold M.exec
  rw [show ops[m.word 0]?=some .REPEAT_ONE by rw [h.word];show ops[code.getD pc 0]?=_;rw [h0.op];rfl]
  dsimp only
  have w2:({ m with seen:=m.seen.add (m.word 0) }:M).word 2=1:=(h.word 2).trans h0.least
  have w3:({ m with seen:=m.seen.add (m.word 0) }:M).word 3=4294967295:=(h.word 3).trans h0.most
  have hlen:(l.drop pos).length=l.length - pos:=List.length_drop
  have hle:(List.takeWhile acc (l.drop pos)).length≤(l.drop pos).length:=List.IsPrefix.length_le (List.takeWhile_prefix _)
  rw [w2,w3,if_neg (by rw [h.lim,h.pos];lia)]
  obtain ⟨s',hr⟩:=rep_run h0 h hl hp (({ m with seen:=m.seen.add (m.word 0) }:M).seen.add (({ m with seen:=m.seen.add (m.word 0) }:M).word 4))
  rw [hn] at hr
  dsimp only at hr
  rw [hr]
  dsimp only
  rw [if_neg (by lia)]
  unfold M.afterRun M.attempt
  dsimp only
  have hk:({ m with seen:=s',pos:=m.pos+(n+1) }:M).keep inn.isSome=kp vs li inn.isSome:=h.keep _
  rw [h.inn]
  have hs:=size_kp (vs:=vs) (li:=li) (b:=inn.isSome)
  rw [if_neg]
  · refine ⟨h.code,h.text,h.lim,h.start,h.adv,h.whole,?_,?_,h.out,h.marks,h.lm,h.li,h.ls,rfl,?_,?_,h.ans,h.oc⟩
    · show m.pc+1+m.word 1=_;rw [h.pc,(h.word 1).trans h0.skip]
    · show m.pos+(n+1)=_;rw [h.pos]
    · show _::m.frames=_
      rw [h.fs]
      congr 1
      unfold gb M.frame
      dsimp only
      congr 1
      · exact h.pc
      · rw [h.pos]
      · exact h.out
    · show m.weight+1+_=wsum (_::m.frames)
      rw [h.wt];rfl
  · rw [show M.keep ({ m with pos:=m.pos+(n+1),inner:=inn,seen:=s' }:M) inn.isSome=kp vs li inn.isSome from h.keep _,h.wt,h.fs];lia
theorem rep_no (h0:RepAt code pc k acc) (hn:((l.drop pos).takeWhile acc).length=0) (hl:l.length≤1000000) (hp:pos≤l.length):
    Leads (MAt code l G pc pos vs li ls inn fs none) 1 (MAt code l G pc pos vs li ls inn fs (some false)):=Leads.one fun m h=>by
  rw [h.step_none h0.here]
  unfold M.exec
  rw [show ops[m.word 0]?=some .REPEAT_ONE by rw [h.word];show ops[code.getD pc 0]?=_;rw [h0.op];rfl]
  dsimp only
  have w2:({ m with seen:=m.seen.add (m.word 0) }:M).word 2=1:=(h.word 2).trans h0.least
  have w3:({ m with seen:=m.seen.add (m.word 0) }:M).word 3=4294967295:=(h.word 3).trans h0.most
  rw [w2,w3]
  by_cases hr:((1:Nat):Int) > (m.lim:Int) - m.pos
  · rw [if_pos hr]
    exact h.say false _
  · rw [if_neg hr]
    obtain ⟨s',hr⟩:=rep_run h0 h hl hp (({ m with seen:=m.seen.add (m.word 0) }:M).seen.add (({ m with seen:=m.seen.add (m.word 0) }:M).word 4))
    rw [hn] at hr
    dsimp only at hr
    rw [hr]
    dsimp only
    rw [if_pos (by lia)]
    exact h.say false _
theorem MAt.step_some {f:Sre.Frame} {b:Bool} (h:MAt code l G pc pos vs li ls inn (f::fs) (some b) m):m.step=M.resume { m with answer:=none,frames:=fs,weight:=m.weight - (1+f.kept.marks.size),pc:=f.pc,pos:=f.pos,outermost:=f.outermost } f b:=by
  unfold M.step
  rw [h.oc,h.ans,h.fs,if_neg (by simp)]
theorem MAt.woken {f:Sre.Frame} {b:Bool} (h:MAt code l G pc pos vs li ls inn (f::fs) (some b) m) (ho:f.outermost=true):MAt code l G f.pc f.pos vs li ls inn fs none { m with answer:=none,frames:=fs,weight:=m.weight - (1+f.kept.marks.size),pc:=f.pc,pos:=f.pos,outermost:=f.outermost }:=
  ⟨h.code,h.text,h.lim,h.start,h.adv,h.whole,rfl,rfl,ho,h.marks,h.lm,h.li,h.ls,h.inn,rfl,by show m.weight - _=wsum fs;rw [h.wt,h.fs];show wsum fs+1+_ - _=_;lia,rfl,h.oc⟩
theorem MAt.back {b:Bool} (h:MAt code l G pc pos (vs++us) li' ls inn fs ans m):MAt code l G pc pos vs li ls inn fs ans (m.putBack (kp vs li b)):=by
  refine ⟨h.code,h.text,h.lim,h.start,h.adv,h.whole,h.pc,h.pos,h.out,?_,rfl,rfl,h.ls,h.inn,h.fs,h.wt,h.ans,h.oc⟩
  unfold M.putBack
  show Mk G (if (kp vs li b).whole=true then (kp vs li b).marks++m.marks.extract (kp vs li b).marks.size m.marks.size else m.marks) vs
  induction b with
  | true=>
    show Mk G (vs.toArray++m.marks.extract vs.toArray.size m.marks.size) vs
    refine h.marks.back ?_
    obtain ⟨r,Z,hl⟩:=h.marks
    rw [List.length_append] at hl
    lia
  | false=>exact h.marks.pre
theorem gb_stop {p:Nat} {b:Bool} (h0:RepAt code pc k acc) {pc' pos':Nat}:
    Leads (MAt code l G pc' pos' (vs++us) li' ls inn (gb pc p 1 (kp vs li b)::fs) (some false)) 1 (MAt code l G pc p vs li ls inn fs (some false)):=Leads.one fun m h=>by
  rw [h.step_some]
  have h1:=(h.woken (f:=gb pc p 1 (kp vs li b)) rfl)
  unfold M.resume gb
  dsimp only
  rw [if_neg (by simp)]
  have h2:=h1.back (li:=li) (b:=b)
  rw [if_pos]
  · exact ⟨h2.code,h2.text,h2.lim,h2.start,h2.adv,h2.whole,h2.pc,h2.pos,h2.out,h2.marks,h2.lm,h2.li,h2.ls,h2.inn,h2.fs,h2.wt,rfl,h2.oc⟩
  · have:M.word ({ m with answer:=none,frames:=fs,weight:=m.weight - (1+(kp vs li b).marks.size),pc:=pc,pos:=p,outermost:=true }:M) 2=1:=(h1.word 2).trans h0.least
    rw [this];decide
theorem gb_more {p n:Nat} {b:Bool} (h0:RepAt code pc k acc) {pc' pos':Nat} (hw:wsum fs+1+vs.length≤16777216):
    Leads (MAt code l G pc' pos' (vs++us) li' ls inn (gb pc (p+1) (n+2) (kp vs li b)::fs) (some false)) 1 (MAt code l G (pc+1+k) p vs li ls inn (gb pc p (n+1) (kp vs li b)::fs) none):=Leads.one fun m h=>by
  rw [h.step_some]
  have h1:=(h.woken (f:=gb pc (p+1) (n+2) (kp vs li b)) rfl)
  unfold M.resume gb
  dsimp only
  rw [if_neg (by simp)]
  have h2:=h1.back (li:=li) (b:=b)
  rw [if_neg]
  · unfold M.afterRun M.attempt
    dsimp only
    have hs:=size_kp (vs:=vs) (li:=li) (b:=b)
    have hwt:=h2.wt
    rw [h2.fs] at hwt
    rw [if_neg (by rw [show M.weight { (M.putBack _ _:M) with pos:=_ }=_ from hwt];lia)]
    refine ⟨h2.code,h2.text,h2.lim,h2.start,h2.adv,h2.whole,?_,rfl,h2.out,h2.marks,h2.lm,h2.li,h2.ls,h2.inn,?_,?_,h2.ans,h2.oc⟩
    · show pc+1+_=_
      congr 1
      exact (h2.word 1).trans h0.skip
    · show _::fs=_::fs
      congr 1
      unfold M.frame
      congr 1
      show ((n+2:Nat):Int) - 1=((n+1:Nat):Int)
      lia
    · show _+1+_=wsum (_::fs)
      rw [show M.weight { (M.putBack _ _:M) with pos:=_ }=_ from hwt];rfl
  · have:M.word ({ m with answer:=none,frames:=fs,weight:=m.weight - (1+(kp vs li b).marks.size),pc:=pc,pos:=p+1,outermost:=true }:M) 2=1:=(h1.word 2).trans h0.least
    rw [this]
    show ¬ ((n+2:Nat):Int) - 1 < (1:Nat)
    lia
noncomputable def Fails (code:Array Nat) (l:List Nat) (G:Nat) (vs:List (Option Nat)) (ls:Array Sre.Loop) (inn:Option Nat) (fs:List Sre.Frame) (m:M):Prop:=∃ pc pos us li,MAt code l G pc pos (vs++us) li ls inn fs (some false) m
noncomputable def FailsAt (code:Array Nat) (l:List Nat) (G W pc q:Nat) (vs:List (Option Nat)) (inn:Option Nat) (K:Nat):Prop:=
  ∀ li ls fs,wsum fs≤W→Leads (MAt code l G pc q vs li ls inn fs none) K (Fails code l G vs ls inn fs)
theorem Leads.fails {Q:M→Prop} {K:Nat} (h:∀ pc pos us li,Leads (MAt code l G pc pos (vs++us) li ls inn fs (some false)) K Q):Leads (Fails code l G vs ls inn fs) K Q:=fun m z1=>by obtain ⟨pc,pos,us,li,x⟩:=z1;exact h pc pos us li m x
theorem fails_of:∀ m,MAt code l G pc pos vs li ls inn fs (some false) m→Fails code l G vs ls inn fs m:=fun m h=>⟨pc,pos,[],li,by rw [List.append_nil];exact h⟩
theorem fails_up:∀ m,Fails code l G (vs++us) ls inn fs m→Fails code l G vs ls inn fs m:=fun m z1=>by obtain ⟨pc,pos,us',li,h⟩:=z1;exact ⟨pc,pos,us++us',li,by rw [← List.append_assoc];exact h⟩
end
end Mine
end
section
open PySem PySem.W
namespace Mine
open PySem.Sre
section
variable {acc:Nat→Bool} {ans:Option Bool} {code:Array Nat} {l:List Nat} {G W pc pos n k p U Pc:Nat} {vs us:List (Option Nat)} {li li':Int} {ls:Array Sre.Loop} {inn inn':Option Nat} {fs:List Sre.Frame} {m:M}
noncomputable def lp (Pc:Nat) (c:Int) (b:Option Nat) (o:Option Nat):Sre.Loop:={ pc:=Pc,count:=c,began:=b,outer:=o }
noncomputable def clF (Pc p i:Nat):Sre.Frame:={ wait:=.closeLoop,pc:=Pc,pos:=p,outermost:=true,loop:=i }
noncomputable def mmF (pc p i:Nat) (k:Sre.Kept):Sre.Frame:={ wait:=.maxMore,pc,pos:=p,outermost:=true,loop:=i,count:=0,kept:=k }
noncomputable def mtF (pc p i:Nat) (c:Int) (k:Sre.Kept):Sre.Frame:={ wait:=.maxTail,pc,pos:=p,outermost:=true,loop:=i,count:=c,kept:=k }
structure RptAt (code:Array Nat) (Pc U:Nat):Prop where
  op:code.getD Pc 0=23
  skip:Pc+1+code.getD (Pc+1) 0=U
  least:code.getD (Pc+2) 0=0
  most:code.getD (Pc+3) 0=1
  till:code.getD U 0=18
  here:Pc < code.size
  there:U < code.size
theorem rpt_ok (h0:RptAt code Pc U) (hw:wsum fs+1≤16777216):
    Leads (MAt code l G Pc p vs li ls inn fs none) 1 (MAt code l G U p vs li (ls.push (lp Pc (-1) none inn)) (some ls.size) (clF Pc p ls.size::fs) none):=Leads.one fun m h=>by
  rw [h.step_none h0.here]
  unfold M.exec
  rw [show ops[m.word 0]?=some .REPEAT by rw [h.word];show ops[code.getD Pc 0]?=_;rw [h0.op];rfl]
  dsimp only
  unfold M.attempt
  dsimp only
  rw [if_neg (by show ¬ m.weight+1+0 > _;rw [h.wt,h.fs];lia)]
  refine ⟨h.code,h.text,h.lim,h.start,h.adv,h.whole,?_,h.pos,h.out,h.marks,h.lm,h.li,?_,?_,?_,?_,h.ans,h.oc⟩
  · show m.pc+1+m.word 1=_
    rw [h.pc,h.word,h0.skip]
  · show m.loops.push _=_
    rw [h.ls,h.pc,h.inn];rfl
  · show some m.loops.size=_
    rw [h.ls]
  · show _::m.frames=_
    rw [h.fs]
    congr 1
    unfold clF M.frame
    dsimp only
    rw [h.pc,h.pos,h.out,h.ls]
  · show m.weight+1+_=wsum (_::m.frames)
    rw [h.wt];rfl
theorem getD_push {x d:Sre.Loop}:(ls.push x).getD ls.size d=x:=by simp [Array.getD]
theorem modify_push {x:Sre.Loop} {f:Sre.Loop→Sre.Loop}:(ls.push x).modify ls.size f=ls.push (f x):=by
  apply Array.ext (by simp)
  intro i h1 h2
  simp at h1 h2
  rw [Array.getElem_modify]
  by_cases e:i=ls.size
  · subst e;simp
  · rw [if_neg (fun x=>e x.symm),Array.getElem_push_lt (by lia),Array.getElem_push_lt (by lia)]
theorem attempt_at {f:Sre.Frame} {t q:Nat} (h:MAt code l G pc pos vs li ls inn fs none m) (hw:wsum fs+1+f.kept.marks.size≤16777216):MAt code l G t q vs li ls inn (f::fs) none (m.attempt f t q true):=by
  unfold M.attempt
  rw [if_neg (by rw [h.wt,h.fs];lia)]
  refine ⟨h.code,h.text,h.lim,h.start,h.adv,h.whole,rfl,rfl,rfl,h.marks,h.lm,h.li,h.ls,h.inn,?_,?_,h.ans,h.oc⟩
  · show f::m.frames=_;rw [h.fs]
  · show m.weight+1+_=wsum (f::m.frames);rw [h.wt];rfl
theorem setLoop_at {i:Nat} {f:Sre.Loop→Sre.Loop} (h:MAt code l G pc pos vs li ls inn fs none m):MAt code l G pc pos vs li (ls.modify i f) inn fs none (m.setLoop i f):=
  ⟨h.code,h.text,h.lim,h.start,h.adv,h.whole,h.pc,h.pos,h.out,h.marks,h.lm,h.li,by show m.loops.modify i f=_;rw [h.ls],h.inn,h.fs,h.wt,h.ans,h.oc⟩
theorem MAt.inner (h:MAt code l G pc pos vs li ls inn fs none m) (o:Option Nat):MAt code l G pc pos vs li ls o fs none { m with inner:=o }:=
  ⟨h.code,h.text,h.lim,h.start,h.adv,h.whole,h.pc,h.pos,h.out,h.marks,h.lm,h.li,h.ls,rfl,h.fs,h.wt,h.ans,h.oc⟩
theorem MAt.moved (h:MAt code l G pc pos vs li ls inn fs none m) (s:Seen):MAt code l G (pc+1) pos vs li ls inn fs none { { m with seen:=s } with pc:=({ m with seen:=s }:M).pc+1 }:=
  ⟨h.code,h.text,h.lim,h.start,h.adv,h.whole,by show m.pc+1=_;rw [h.pc],h.pos,h.out,h.marks,h.lm,h.li,h.ls,h.inn,h.fs,h.wt,h.ans,h.oc⟩
theorem MAt.loopAt {x:Sre.Loop} {i:Nat} (h:MAt code l G pc pos vs li ls inn fs ans m) (hx:∀ d,ls.getD i d=x):m.loopAt i=x:=by unfold M.loopAt;rw [h.ls,hx]
theorem afterLoop_at {x:Sre.Loop} {c:Int} {i:Nat} (h:MAt code l G pc pos vs li ls inn fs none m) (hx:∀ d,ls.getD i d=x) (hw:wsum fs+1≤16777216):
    MAt code l G pc pos vs li ls x.outer (mtF pc pos i c (kp vs li false)::fs) none (m.afterLoop .maxTail i c fun Z=>false):=by
  have key:∀ m',MAt code l G pc pos vs li ls x.outer fs none m'→MAt code l G pc pos vs li ls x.outer (mtF pc pos i c (kp vs li false)::fs) none (m'.attempt { m'.frame .maxTail with loop:=i,count:=c,kept:=m'.keep false } m'.pc m'.pos m'.outermost):=fun m' h'=>by
    rw [h'.keep]
    unfold M.frame
    dsimp only
    rw [h'.pc,h'.pos,h'.out]
    exact attempt_at (f:=mtF pc pos i c (kp vs li false)) h' (by show wsum fs+1+0≤_;exact hw)
  unfold M.afterLoop
  rw [h.loopAt hx]
  exact key _ (h.inner x.outer)
theorem round_at {x:Sre.Loop} {c:Int} {k:Sre.Kept} (h:MAt code l G pc pos vs li (ls.push x) inn fs none m) (hw:wsum fs+1+k.marks.size≤16777216):
    MAt code l G (x.pc+4) pos vs li (ls.push { x with count:=c,began:=some pos }) inn ({ wait:=.maxMore,pc:=pc,pos:=pos,outermost:=true,loop:=ls.size,count:=c,kept:=k,began:=x.began }::fs) none (m.round .maxMore ls.size c true k):=by
  have hp:=h.pos
  subst hp
  unfold M.round
  dsimp only
  rw [h.loopAt fun Z=>getD_push]
  have h1:=setLoop_at (i:=ls.size) (f:=fun l=>{ l with count:=c,began:=if true=true then some m.pos else l.began }) h
  rw [modify_push] at h1
  have h2:=attempt_at (f:={ wait:=.maxMore,pc:=pc,pos:=m.pos,outermost:=true,loop:=ls.size,count:=c,kept:=k,began:=x.began }) (t:=x.pc+4) (q:=m.pos) h1 hw
  unfold M.frame
  dsimp only
  rw [h1.pc,h1.pos,h1.out]
  exact h2
theorem unt_more (h0:RptAt code Pc U) (hw:wsum fs+1+vs.length≤16777216):
    Leads (MAt code l G U p vs li (ls.push (lp Pc (-1) none inn)) (some ls.size) fs none) 1 (MAt code l G (Pc+4) p vs li (ls.push (lp Pc 0 (some p) inn)) (some ls.size) (mmF (U+1) p ls.size (kp vs li true)::fs) none):=Leads.one fun m h=>by
  rw [h.step_none h0.there]
  unfold M.exec
  rw [show ops[m.word 0]?=some .MAX_UNTIL by rw [h.word];show ops[code.getD U 0]?=_;rw [h0.till];rfl]
  dsimp only
  have h':=h.moved (m.seen.add (m.word 0))
  generalize ({ { m with seen:=m.seen.add (m.word 0) } with pc:=({ m with seen:=m.seen.add (m.word 0) }:M).pc+1 }:M)=m' at h' ⊢
  unfold M.until_
  rw [h'.inn]
  dsimp only
  rw [h'.loopAt fun Z=>getD_push,h'.code,show (lp Pc (-1) none inn).count+1=0 from rfl,show (lp Pc (-1) none inn).pc=Pc from rfl,h0.least,h0.most]
  rw [if_neg (by decide),if_neg (by decide),if_pos (by simp [lp]),h'.keep]
  have hs:=size_kp (vs:=vs) (li:=li) (b:=true)
  exact round_at h' (by lia)
theorem unt_tail {b:Option Nat} {i:Nat} (h0:RptAt code Pc U) (hx:∀ d,ls.getD i d=lp Pc 0 b inn) (hw:wsum fs+1≤16777216):
    Leads (MAt code l G U p vs li ls (some i) fs none) 1 (MAt code l G (U+1) p vs li ls inn (mtF (U+1) p i 1 (kp vs li false)::fs) none):=Leads.one fun m h=>by
  rw [h.step_none h0.there]
  unfold M.exec
  rw [show ops[m.word 0]?=some .MAX_UNTIL by rw [h.word];show ops[code.getD U 0]?=_;rw [h0.till];rfl]
  dsimp only
  have h':=h.moved (m.seen.add (m.word 0))
  generalize ({ { m with seen:=m.seen.add (m.word 0) } with pc:=({ m with seen:=m.seen.add (m.word 0) }:M).pc+1 }:M)=m' at h' ⊢
  unfold M.until_
  rw [h'.inn]
  dsimp only
  rw [h'.loopAt hx,h'.code,show (lp Pc 0 b inn).count+1=1 from rfl,show (lp Pc 0 b inn).pc=Pc from rfl,h0.least,h0.most]
  rw [if_neg (by decide),if_neg (by decide),if_neg (by simp [maxRepeat])]
  exact afterLoop_at h' hx hw
theorem mm_no {p':Nat} {pc' pos':Nat} (hw:wsum fs+1+vs.length≤16777216):
    Leads (MAt code l G pc' pos' (vs++us) li' (ls.push (lp Pc 0 (some p') inn)) (some ls.size) (mmF U p ls.size (kp vs li true)::fs) (some false)) 1 (MAt code l G U p vs li (ls.push (lp Pc (-1) none inn)) inn (mtF U p ls.size 0 (kp vs li false)::fs) none):=Leads.one fun m h=>by
  rw [h.step_some]
  have h1:=(h.woken (f:=mmF U p ls.size (kp vs li true)) rfl)
  generalize ({ m with answer:=none,frames:=fs,weight:=m.weight - (1+(mmF U p ls.size (kp vs li true)).kept.marks.size),pc:=(mmF U p ls.size (kp vs li true)).pc,pos:=(mmF U p ls.size (kp vs li true)).pos,outermost:=(mmF U p ls.size (kp vs li true)).outermost }:M)=m' at h1 ⊢
  unfold M.resume mmF
  dsimp only
  rw [if_neg (by simp)]
  have h2:=setLoop_at (i:=ls.size) (f:=fun l=>{ l with began:=none }) h1
  have h3:=h2.back (li:=li) (b:=true)
  have h4:=setLoop_at (i:=ls.size) (f:=fun l=>{ l with count:=(0:Int) - 1 }) h3
  rw [modify_push,modify_push] at h4
  exact afterLoop_at h4 (fun Z=>getD_push) (by lia)
theorem mt_no {c:Int} {kk:Sre.Kept} {i pc' pos':Nat}:
    Leads (MAt code l G pc' pos' vs li ls inn (mtF U p i c kk::fs) (some false)) 1 (MAt code l G U p vs li ls (some i) fs (some false)):=Leads.one fun m h=>by
  rw [h.step_some]
  have h1:=(h.woken (f:=mtF U p i c kk) rfl)
  unfold M.resume mtF
  dsimp only
  exact ⟨h1.code,h1.text,h1.lim,h1.start,h1.adv,h1.whole,h1.pc,h1.pos,h1.out,h1.marks,h1.lm,h1.li,h1.ls,rfl,h1.fs,h1.wt,rfl,h1.oc⟩
theorem cl_no {x:Sre.Loop} {pc' pos':Nat}:
    Leads (MAt code l G pc' pos' vs li (ls.push x) inn (clF Pc p ls.size::fs) (some false)) 1 (MAt code l G Pc p vs li ls x.outer fs (some false)):=Leads.one fun m h=>by
  rw [h.step_some]
  have h1:=(h.woken (f:=clF Pc p ls.size) rfl)
  unfold M.resume clF
  dsimp only
  refine ⟨h1.code,h1.text,h1.lim,h1.start,h1.adv,h1.whole,h1.pc,h1.pos,h1.out,h1.marks,h1.lm,h1.li,?_,?_,h1.fs,h1.wt,rfl,h1.oc⟩
  · show m.loops.pop=ls
    rw [h.ls,Array.pop_push]
  · show (M.loopAt _ _).outer=_
    unfold M.loopAt
    show ((m.loops).getD ls.size _).outer=_
    rw [h.ls,getD_push]
end
end Mine
end
section
open PySem PySem.W
namespace Mine
open PySem.Sre
section
variable {acc:Nat→Bool} {ans:Option Bool} {code:Array Nat} {l:List Nat} {G W W' K K0 pc pos n k p q U P ch M0:Nat} {vs us pad:List (Option Nat)} {li li':Int} {ls:Array Sre.Loop} {inn inn':Option Nat} {fs:List Sre.Frame} {m:M}
noncomputable def FailsIn (code:Array Nat) (l:List Nat) (G W pc q:Nat) (vs:List (Option Nat)) (ls:Array Sre.Loop) (inn:Option Nat) (K:Nat):Prop:=
  ∀ li fs,wsum fs≤W→Leads (MAt code l G pc q vs li ls inn fs none) K (Fails code l G vs ls inn fs)
theorem mark_any (h0:code.getD pc 0=17) (h1:code.getD (pc+1) 0=vs.length+pad.length) (hpad:pad=[]∨pad=[none,none]) (hs:pc < code.size) (hG:vs.length+pad.length < G):
    ∃ li',Leads (MAt code l G pc pos vs li ls inn fs none) 1 (MAt code l G (pc+2) pos (vs++pad++[some pos]) li' ls inn fs none):=by
  rcases hpad with rfl | rfl
  · rw [List.append_nil]
    exact ⟨_,mark_ok h0 h1 hs hG⟩
  · exact ⟨_,mark_skip h0 h1 hs hG⟩
theorem rep_fail (h0:RepAt code pc k acc) (hl:l.length≤1000000) (hq:q≤l.length) (hn:((l.drop q).takeWhile acc).length=n)
    (hdeep:0 < n→FailsIn code l G W' (pc+1+k) (q+n) vs ls inn K) (hshal:∀ c,0 < c→c < n→FailsIn code l G W' (pc+1+k) (q+c) vs ls inn K0)
    (hW:W+1+vs.length≤W') (hW':W'≤16000000):FailsIn code l G W pc q vs ls inn (K+n*(K0+1)+2):=by
  intro li fs hw
  induction n using Nat.casesOn with
  | zero=>exact ((rep_no h0 hn hl hq).to fails_of).le (by lia)
  | succ n=>
    have hsz:∀ c p,wsum (gb pc p c (kp vs li inn.isSome)::fs)≤W':=fun c p=>by
      have:=size_kp (vs:=vs) (li:=li) (b:=inn.isSome)
      show wsum fs+1+(kp vs li inn.isSome).marks.size≤W'
      lia
    have loop:∀ c,c < n+1→Leads (Fails code l G vs ls inn (gb pc (q+(c+1)) ((c+1:Nat):Int).toNat (kp vs li inn.isSome)::fs)) ((c+1)*(K0+1)) (Fails code l G vs ls inn fs):=by
      intro c
      induction c with
      | zero=>
        intro Z
        refine Leads.fails fun pc' pos' us li'=>?_
        exact ((gb_stop h0).to fails_of).le (by lia)
      | succ c ih=>
        intro hc
        refine Leads.fails fun pc' pos' us li'=>?_
        refine (Leads.trans (Leads.trans (gb_more (p:=q+(c+1)) (n:=c) h0 (by lia)) (hshal (c+1) (by lia) hc li _ (hsz (c+1) _))) (ih (by lia))).le ?_
        have e:(c+1+1)*(K0+1)=(c+1)*(K0+1)+(K0+1):=Nat.succ_mul _ _
        rw [e];lia
    refine (Leads.trans (Leads.trans (rep_yes h0 hn hl hq (by lia)) (hdeep (by lia) li _ (hsz (n+1) _))) (loop n (by lia))).le ?_
    lia
structure OptAt (code:Array Nat) (P ch M0:Nat) (acc:Nat→Bool):Prop where
  rpt:RptAt code P (P+27)
  lit:code.getD (P+4) 0=16
  ch:code.getD (P+5) 0=ch
  m1:code.getD (P+6) 0=17
  m1n:code.getD (P+7) 0=M0
  rep:RepAt code (P+8) 16 acc
  m2:code.getD (P+25) 0=17
  m2n:code.getD (P+26) 0=M0+1
theorem opt_rest (o:OptAt code P ch M0 acc) (hM:M0+1=vs.length) (hG:vs.length < G) (h:FailsAt code l G W' (P+28) q (vs++[some q]) inn K) (hW:W+1≤W') (hW':W'≤16000000):
    FailsIn code l G W (P+25) q vs (ls.push (lp P 0 (some p) inn)) (some ls.size) (K+3):=by
  intro li fs hw
  have hs:=o.rpt.there
  obtain ⟨li',h1⟩:=mark_any (l:=l) (G:=G) (pos:=q) (li:=li) (ls:=ls.push (lp P 0 (some p) inn)) (inn:=some ls.size) (fs:=fs) (pc:=P+25) (vs:=vs) (pad:=[]) o.m2 (by rw [o.m2n,hM];rfl) (.inl rfl) (by lia) hG
  rw [List.append_nil] at h1
  have h2:=unt_tail (l:=l) (G:=G) (p:=q) (vs:=vs++[some q]) (li:=li') (ls:=ls.push (lp P 0 (some p) inn)) (inn:=inn) (fs:=fs) (b:=some p) o.rpt (fun Z=>getD_push) (by lia)
  have h3:=h li' (ls.push (lp P 0 (some p) inn)) (mtF (P+27+1) q ls.size 1 (kp (vs++[some q]) li' false)::fs) (by show wsum fs+1+0≤_;lia)
  refine (Leads.trans (Leads.trans (Leads.trans h1 h2) h3) (Leads.fails fun pc' pos' us li₂=>(mt_no.to fails_of).to fails_up |>.to fails_up)).le (by lia)
theorem opt_body (o:OptAt code P ch M0 acc) (hM:M0=vs.length+pad.length) (hpad:pad=[]∨pad=[none,none]) (hG:M0+1 < G) (hl:l.length≤1000000) (hp:p < l.length)
    (hn:((l.drop (p+1)).takeWhile acc).length=n)
    (hdeep:0 < n→FailsAt code l G W' (P+28) (p+1+n) (vs++pad++[some (p+1)]++[some (p+1+n)]) inn K)
    (hshal:∀ c,0 < c→c < n→FailsAt code l G W' (P+28) (p+1+c) (vs++pad++[some (p+1)]++[some (p+1+c)]) inn K0) (hc:l.toArray.getD p 0=ch) (hW:W+vs.length+10≤W') (hW':W'≤16000000):
    FailsIn code l G W (P+4) p vs (ls.push (lp P 0 (some p) inn)) (some ls.size) (K+n*(K0+4)+9):=by
  intro li fs hw
  have hs:=o.rpt.there
  have hpl:pad.length≤2:=by rcases hpad with rfl | rfl<;>decide
  have h1:=lit_yes (l:=l) (G:=G) (pos:=p) (vs:=vs) (li:=li) (ls:=ls.push (lp P 0 (some p) inn)) (inn:=some ls.size) (fs:=fs) o.lit (by lia) hp (hc.trans o.ch.symm)
  obtain ⟨li',h2⟩:=mark_any (l:=l) (G:=G) (pos:=p+1) (li:=li) (ls:=ls.push (lp P 0 (some p) inn)) (inn:=some ls.size) (fs:=fs) (pc:=P+6) (vs:=vs) (pad:=pad) o.m1 (o.m1n.trans hM) hpad (by lia) (by lia)
  have hlen:(vs++pad++[some (p+1)]).length=M0+1:=by simp;lia
  have h3:=rep_fail (l:=l) (G:=G) (W:=W) (W':=W+vs.length+6) (q:=p+1) (n:=n) (vs:=vs++pad++[some (p+1)]) (ls:=ls.push (lp P 0 (some p) inn)) (inn:=some ls.size) (K:=K+3) (K0:=K0+3) o.rep hl hp hn
    (fun h=>opt_rest o hlen.symm (by rw [hlen];exact hG) (hdeep h) (by lia) hW') (fun c h h'=>opt_rest o hlen.symm (by rw [hlen];exact hG) (hshal c h h') (by lia) hW') (by rw [hlen];lia) (by lia)
  refine (Leads.trans (Leads.trans h1 h2) ((h3 li' fs hw).to fun m hm=>fails_up (us:=pad) m (fails_up (us:=[some (p+1)]) m hm))).le (by have e:n*(K0+3+1)=n*(K0+4):=rfl;lia)
theorem opt_fail {Kb:Nat} (o:OptAt code P ch M0 acc) (hb:∀ ls:Array Sre.Loop,FailsIn code l G W' (P+4) p vs (ls.push (lp P 0 (some p) inn)) (some ls.size) Kb) (hskip:FailsAt code l G W' (P+28) p vs inn K) (hW:W+vs.length+10≤W') (hW':W'≤16000000):
    FailsAt code l G W P p vs inn (Kb+K+5):=by
  intro li ls fs hw
  have h1:=rpt_ok (l:=l) (G:=G) (p:=p) (vs:=vs) (li:=li) (ls:=ls) (inn:=inn) (fs:=fs) o.rpt (by lia)
  have h2:=unt_more (l:=l) (G:=G) (p:=p) (vs:=vs) (li:=li) (ls:=ls) (inn:=inn) (fs:=clF P p ls.size::fs) o.rpt (by show wsum fs+1+0+1+vs.length≤_;lia)
  have hsz:=size_kp (vs:=vs) (li:=li) (b:=true)
  have h3:=hb ls li (mmF (P+27+1) p ls.size (kp vs li true)::clF P p ls.size::fs) (by show wsum fs+1+0+1+(kp vs li true).marks.size≤_;lia)
  have h4:Leads (Fails code l G vs (ls.push (lp P 0 (some p) inn)) (some ls.size) (mmF (P+27+1) p ls.size (kp vs li true)::clF P p ls.size::fs)) 1 (MAt code l G (P+28) p vs li (ls.push (lp P (-1) none inn)) inn (mtF (P+28) p ls.size 0 (kp vs li false)::clF P p ls.size::fs) none):=
    Leads.fails fun pc' pos' us li₂=>mm_no (by show wsum fs+1+0+1+vs.length≤_;lia)
  have h5:=hskip li (ls.push (lp P (-1) none inn)) (mtF (P+28) p ls.size 0 (kp vs li false)::clF P p ls.size::fs) (by show wsum fs+1+0+1+0≤_;lia)
  have h6:Leads (Fails code l G vs (ls.push (lp P (-1) none inn)) inn (mtF (P+28) p ls.size 0 (kp vs li false)::clF P p ls.size::fs)) 2 (Fails code l G vs ls inn fs):=
    Leads.fails fun pc' pos' us li₂=>((mt_no.trans cl_no).to fails_of).to fails_up
  exact (((((h1.trans h2).trans h3).trans h4).trans h5).trans h6).le (by lia)
theorem opt_fail_no (o:OptAt code P ch M0 acc) (hc:l.length≤p∨l.toArray.getD p 0≠ch) (hskip:FailsAt code l G W' (P+28) p vs inn K) (hW:W+vs.length+10≤W') (hW':W'≤16000000):
    FailsAt code l G W P p vs inn (K+6):=fun li ls fs hw=>by
  have hs:=o.rpt.there
  have:=opt_fail (K:=K) (Kb:=1) (W:=W) o (fun ls li fs hw=>(lit_no (pos:=p) o.lit (by lia) (by rw [o.ch];exact hc)).to fails_of) hskip hW hW'
  exact (this li ls fs hw).le (by lia)
noncomputable def WinF (fs:List Sre.Frame):Prop:=∀ f∈fs,f.wait=.giveBack∨f.wait=.maxMore∨f.wait=.maxTail∨f.wait=.closeLoop
theorem WinF.cons {f:Sre.Frame} (h:WinF fs) (hf:f.wait=.giveBack∨f.wait=.maxMore∨f.wait=.maxTail∨f.wait=.closeLoop):WinF (f::fs):=fun g hg=>by
  rcases List.mem_cons.mp hg with rfl | hg
  · exact hf
  · exact h g hg
theorem opt_skip (o:OptAt code P ch M0 acc) (hc:l.length≤p∨l.toArray.getD p 0≠ch) (hw:wsum fs+vs.length+10≤16000000) (hf:WinF fs):
    ∃ ls' fs',WinF fs'∧fs'.length≤fs.length+2∧wsum fs'≤wsum fs+10∧Leads (MAt code l G P p vs li ls inn fs none) 5 (MAt code l G (P+28) p vs li ls' inn fs' none):=by
  have hs:=o.rpt.there
  have h1:=rpt_ok (l:=l) (G:=G) (p:=p) (vs:=vs) (li:=li) (ls:=ls) (inn:=inn) (fs:=fs) o.rpt (by lia)
  have h2:=unt_more (l:=l) (G:=G) (p:=p) (vs:=vs) (li:=li) (ls:=ls) (inn:=inn) (fs:=clF P p ls.size::fs) o.rpt (by show wsum fs+1+0+1+vs.length≤_;lia)
  have h3:=lit_no (l:=l) (G:=G) (pos:=p) (vs:=vs) (li:=li) (ls:=ls.push (lp P 0 (some p) inn)) (inn:=some ls.size) (fs:=mmF (P+27+1) p ls.size (kp vs li true)::clF P p ls.size::fs) o.lit (by lia) (by rw [o.ch];exact hc)
  have h4:=mm_no (code:=code) (l:=l) (G:=G) (U:=P+28) (Pc:=P) (p:=p) (p':=p) (pc':=P+4) (pos':=p) (vs:=vs) (us:=[]) (li:=li) (li':=li) (ls:=ls) (inn:=inn) (fs:=clF P p ls.size::fs) (by show wsum fs+1+0+1+vs.length≤_;lia)
  rw [List.append_nil] at h4
  exact ⟨_,_,(hf.cons (f:=clF P p ls.size) (.inr (.inr (.inr rfl)))).cons (.inr (.inr (.inl rfl))),by simp,by show wsum fs+1+0+1+0≤_;lia,(((h1.trans h2).trans h3).trans h4).le (by lia)⟩
theorem opt_take (o:OptAt code P ch M0 acc) (hM:M0=vs.length+pad.length) (hpad:pad=[]∨pad=[none,none]) (hG:M0+1 < G) (hl:l.length≤1000000) (hp:p < l.length) (hc:l.toArray.getD p 0=ch)
    (hn:((l.drop (p+1)).takeWhile acc).length=n+1) (hw:wsum fs+3*vs.length+20≤16000000) (hf:WinF fs):
    ∃ li' ls' fs',WinF fs'∧fs'.length≤fs.length+4∧wsum fs'≤wsum fs+2*vs.length+20∧Leads (MAt code l G P p vs li ls inn fs none) 10 (MAt code l G (P+28) (p+1+(n+1)) (vs++pad++[some (p+1)]++[some (p+1+(n+1))]) li' ls' inn fs' none):=by
  have hs:=o.rpt.there
  have hpl:pad.length≤2:=by rcases hpad with rfl | rfl<;>decide
  have hlen:(vs++pad++[some (p+1)]).length=M0+1:=by simp;lia
  have h1:=rpt_ok (l:=l) (G:=G) (p:=p) (vs:=vs) (li:=li) (ls:=ls) (inn:=inn) (fs:=fs) o.rpt (by lia)
  have h2:=unt_more (l:=l) (G:=G) (p:=p) (vs:=vs) (li:=li) (ls:=ls) (inn:=inn) (fs:=clF P p ls.size::fs) o.rpt (by show wsum fs+1+0+1+vs.length≤_;lia)
  have hs1:=size_kp (vs:=vs) (li:=li) (b:=true)
  have h3:=lit_yes (l:=l) (G:=G) (pos:=p) (vs:=vs) (li:=li) (ls:=ls.push (lp P 0 (some p) inn)) (inn:=some ls.size) (fs:=mmF (P+27+1) p ls.size (kp vs li true)::clF P p ls.size::fs) o.lit (by lia) hp (hc.trans o.ch.symm)
  obtain ⟨li',h4⟩:=mark_any (l:=l) (G:=G) (pos:=p+1) (li:=li) (ls:=ls.push (lp P 0 (some p) inn)) (inn:=some ls.size) (fs:=mmF (P+27+1) p ls.size (kp vs li true)::clF P p ls.size::fs) (pc:=P+6) (vs:=vs) (pad:=pad) o.m1 (o.m1n.trans hM) hpad (by lia) (by lia)
  have hs2:=size_kp (vs:=vs++pad++[some (p+1)]) (li:=li') (b:=true)
  rw [hlen] at hs2
  have h5:=rep_yes (l:=l) (G:=G) (pos:=p+1) (n:=n) (vs:=vs++pad++[some (p+1)]) (li:=li') (ls:=ls.push (lp P 0 (some p) inn)) (inn:=some ls.size) (fs:=mmF (P+27+1) p ls.size (kp vs li true)::clF P p ls.size::fs) o.rep hn hl hp
    (by show wsum fs+1+0+1+(kp vs li true).marks.size+1+_≤_;rw [hlen];lia)
  obtain ⟨li₂,h6⟩:=mark_any (l:=l) (G:=G) (pos:=p+1+(n+1)) (li:=li') (ls:=ls.push (lp P 0 (some p) inn)) (inn:=some ls.size) (fs:=gb (P+8) (p+1+(n+1)) (n+1) (kp (vs++pad++[some (p+1)]) li' true)::mmF (P+27+1) p ls.size (kp vs li true)::clF P p ls.size::fs) (pc:=P+25) (vs:=vs++pad++[some (p+1)]) (pad:=[]) o.m2 (by rw [o.m2n,hlen];rfl) (.inl rfl) (by lia) (by rw [hlen];exact hG)
  rw [List.append_nil] at h6
  have h7:=unt_tail (l:=l) (G:=G) (p:=p+1+(n+1)) (vs:=vs++pad++[some (p+1)]++[some (p+1+(n+1))]) (li:=li₂) (ls:=ls.push (lp P 0 (some p) inn)) (inn:=inn) (b:=some p) (fs:=gb (P+8) (p+1+(n+1)) (n+1) (kp (vs++pad++[some (p+1)]) li' true)::mmF (P+27+1) p ls.size (kp vs li true)::clF P p ls.size::fs) o.rpt (fun Z=>getD_push)
    (by show wsum fs+1+0+1+(kp vs li true).marks.size+1+(kp _ li' true).marks.size+1≤_;lia)
  refine ⟨_,_,_,(((hf.cons (f:=clF P p ls.size) (.inr (.inr (.inr rfl)))).cons (f:=mmF (P+27+1) p ls.size (kp vs li true)) (.inr (.inl rfl))).cons (.inl rfl)).cons (.inr (.inr (.inl rfl))),by simp,?_,((((((h1.trans h2).trans h3).trans h4).trans h5).trans h6).trans h7).le (by lia)⟩
  show wsum fs+1+0+1+(kp vs li true).marks.size+1+(kp _ li' true).marks.size+1+0≤_
  lia
end
end Mine
end
section
open PySem PySem.W
namespace Mine
open PySem.Sre
section
variable {acc:Nat→Bool} {ans:Option Bool} {code:Array Nat} {l:List Nat} {G W W' K K0 pc pos n k p q U P ch M0:Nat} {vs us pad:List (Option Nat)} {li li':Int} {ls:Array Sre.Loop} {inn inn':Option Nat} {fs:List Sre.Frame} {m:M}
theorem set_cat {c i k:Nat} {seen:Seen} (h:code.getD i 0=8):∃ s1 s2,inSet code c (k+1) i true seen=(category (code.getD (i+1) 0) c>>=fun b=>if b=true then pure (true,s1) else inSet code c k (i+2) true s2):=by
  refine ⟨?a,?b,?c⟩
  case c=>
    conv=>lhs;whnf
    rw [show ops[(fun k=>code.getD (i+k) 0) 0]?=some .CATEGORY from by show ops[code.getD i 0]?=_;rw [h];rfl]
theorem set_end {c i k:Nat} {yes:Bool} {seen:Seen} (h:code.getD i 0=0):∃ s,inSet code c (k+1) i yes seen=.ok (!yes,s):=by
  refine ⟨?a,?c⟩
  case c=>
    conv=>lhs;whnf
    rw [show ops[(fun k=>code.getD (i+k) 0) 0]?=some .FAILURE from by show ops[code.getD i 0]?=_;rw [h];rfl]
theorem set_chr {c i k:Nat} {yes:Bool} {seen:Seen} (h:code.getD i 0=9):∃ s,inSet code c (k+1) i yes seen=(if (decide (c < 256)&&(code.getD (i+(1+c / 32)) 0).testBit (c % 32))=true then .ok (yes,s) else inSet code c k (i+9) yes s):=by
  refine ⟨?a,?c⟩
  case c=>
    conv=>lhs;whnf
    rw [show ops[(fun k=>code.getD (i+k) 0) 0]?=some .CHARSET from by show ops[code.getD i 0]?=_;rw [h];rfl]
theorem item_digit (h0:code.getD n 0=13) (h2:code.getD (n+2) 0=8) (h3:code.getD (n+2+1) 0=10) (h4:code.getD (n+2+2) 0=0) (hs:∃ k,code.size=k+2):ItemAt code n isD:=by
  intro c seen
  obtain ⟨k,hk⟩:=hs
  unfold accepts
  rw [h0]
  show ∃ s',inSet code c code.size (n+2) true seen=_
  rw [hk]
  obtain ⟨s1,s2,e⟩:=set_cat (c:=c) (k:=k+1) (seen:=seen) h2;clear h2
  rw [e,h3,show category 10 c=.ok (isD c) from congrArg Except.ok (Bool.bne_false _)]
  show ∃ s',(if isD c=true then _ else _)=_
  induction isD c with
  | true=>exact ⟨_,rfl⟩
  | false=>exact set_end h4
theorem class_ok {p:Nat→Bool} (hp:∀ c,¬ c < 256→p c=false) (ws:Array Nat) (h:((List.range 256).all fun c=>(ws.getD (c / 32) 0).testBit (c % 32)==p c)=true) {c n:Nat} (h3:∀ j,j < 8→code.getD (n+(1+j)) 0=ws.getD j 0):(decide (c < 256)&&(code.getD (n+(1+c / 32)) 0).testBit (c % 32))=p c:=by
  by_cases hc:c < 256
  · have:=List.all_eq_true.mp h c (List.mem_range.mpr hc)
    rw [h3 _ (by lia),decide_eq_true hc,Bool.true_and]
    exact eq_of_beq this
  · rw [decide_eq_false hc,Bool.false_and,hp c hc]
theorem isC_big {c:Nat} (hc:¬ c < 256):isC c=false:=by
  unfold isC
  simp only [Bool.or_eq_false_iff,Bool.and_eq_false_imp,decide_eq_true_eq,decide_eq_false_iff_not,beq_eq_false_iff_ne]
  lia
theorem item_class (ws:Array Nat) (hws:((List.range 256).all fun c=>(ws.getD (c / 32) 0).testBit (c % 32)==isC c)=true) (h0:code.getD n 0=13) (h2:code.getD (n+2) 0=9) (h3:∀ j,j < 8→code.getD (n+2+(1+j)) 0=ws.getD j 0) (h4:code.getD (n+2+9) 0=0) (hs:∃ k,code.size=k+2):ItemAt code n isC:=by
  intro c seen
  obtain ⟨k,hk⟩:=hs
  unfold accepts
  rw [h0]
  show ∃ s',inSet code c code.size (n+2) true seen=_
  rw [hk]
  obtain ⟨s1,e1⟩:=set_chr (c:=c) (k:=k+1) (yes:=true) (seen:=seen) h2
  rw [e1,class_ok (fun Z=>isC_big) ws hws h3]
  induction isC c with
  | true=>exact ⟨_,rfl⟩
  | false=>exact set_end h4
noncomputable def c3:Array Nat:=#[14,4,0,5,4294967295,6,0,17,0,24,9,1,4294967295,13,4,8,10,0,1,17,1,16,46,17,2,24,9,1,4294967295,13,4,8,10,0,1,17,3,16,46,17,4,24,9,1,4294967295,13,4,8,10,0,1,17,5,23,26,0,1,16,45,17,6,24,16,1,4294967295,13,11,9,0,67067904,134217726,134217726,0,0,0,0,0,1,17,7,18,23,26,0,1,16,43,17,8,24,16,1,4294967295,13,11,9,0,67067904,134217726,134217726,0,0,0,0,0,1,17,9,18,6,5,1]
theorem r9:RepAt c3 9 9 isD:=⟨rfl,rfl,rfl,rfl,by decide,item_digit rfl rfl rfl rfl ⟨110,rfl⟩⟩
theorem r25:RepAt c3 25 9 isD:=⟨rfl,rfl,rfl,rfl,by decide,item_digit rfl rfl rfl rfl ⟨110,rfl⟩⟩
theorem r41:RepAt c3 41 9 isD:=⟨rfl,rfl,rfl,rfl,by decide,item_digit rfl rfl rfl rfl ⟨110,rfl⟩⟩
noncomputable def clsWords:Array Nat:=#[0,67067904,134217726,134217726,0,0,0,0]
theorem clsOk:((List.range 256).all fun c=>(clsWords.getD (c / 32) 0).testBit (c % 32)==isC c)=true:=by decide +kernel
theorem o53:OptAt c3 53 45 6 isC:=⟨⟨rfl,rfl,rfl,rfl,rfl,by decide,by decide⟩,rfl,rfl,rfl,rfl,⟨rfl,rfl,rfl,rfl,by decide,item_class clsWords clsOk rfl rfl (by decide) rfl ⟨110,rfl⟩⟩,rfl,rfl⟩
theorem o81:OptAt c3 81 43 8 isC:=⟨⟨rfl,rfl,rfl,rfl,rfl,by decide,by decide⟩,rfl,rfl,rfl,rfl,⟨rfl,rfl,rfl,rfl,by decide,item_class clsWords clsOk rfl rfl (by decide) rfl ⟨110,rfl⟩⟩,rfl,rfl⟩
theorem getD_ne (hn:(10:Nat)∉l):l.toArray.getD q 0≠10:=by
  intro h
  rw [Array.getD_eq_getD_getElem?,List.getElem?_toArray] at h
  induction e:l[q]? with
  | none=>rw [e] at h;cases h
  | some c=>rw [e] at h;exact hn (h▸List.mem_of_getElem? e)
theorem FailsAt.le {K':Nat} (h:FailsAt code l G W pc q vs inn K) (hK:K≤K'):FailsAt code l G W pc q vs inn K':=fun li ls fs hw=>(h li ls fs hw).le hK
theorem FailsAt.in (h:FailsAt code l G W pc q vs inn K):FailsIn code l G W pc q vs ls inn K:=fun li fs hw=>h li ls fs hw
theorem t0 (hn:(10:Nat)∉l) (hq:q < l.length):FailsAt c3 l G W 109 q vs inn 1:=fun li ls fs hw=>
  (end_no (pos:=q) rfl rfl (by decide) (by lia) (getD_ne hn)).to fails_of
theorem t1c (hn:(10:Nat)∉l) (hq:q < l.length) (hc:l.toArray.getD q 0≠43) (hW:W+vs.length+10≤16000000):FailsAt c3 l G W 81 q vs inn 7:=
  opt_fail_no o81 (.inr hc) (t0 (W:=16000000) hn hq) hW (Nat.le_refl _)
theorem t2c (hn:(10:Nat)∉l) (hq:q < l.length) (hc:l.toArray.getD q 0≠43) (hc2:l.toArray.getD q 0≠45) (hW:W+2*vs.length+20≤16000000):FailsAt c3 l G W 53 q vs inn 13:=
  opt_fail_no o53 (.inr hc2) (t1c (W:=W+vs.length+10) hn hq hc (by lia)) (Nat.le_refl _) (by lia)
theorem takeWhile_at {r:List Nat}:∀ {p q:Nat},l.drop p=r→q < (r.takeWhile acc).length→p+q < l.length∧acc (l.toArray.getD (p+q) 0)=true:=by
  induction r with
  | nil=>intro p q _ h;simp at h
  | cons c r ih=>
    intro p q h hq
    obtain ⟨h1,h2,h3⟩:=getD_drop h;clear h
    rw [List.takeWhile_cons] at hq
    by_cases hc:acc c=true
    · rw [if_pos hc,List.length_cons] at hq
      induction q using Nat.casesOn with
      | zero=>exact ⟨h2,by rw [Nat.add_zero,h1];exact hc⟩
      | succ q=>
        have:=ih h3 (q:=q) (by lia)
        rw [show p+(q+1)=p+1+q by lia]
        exact this
    · rw [if_neg hc] at hq;simp at hq
theorem tw_le:(List.takeWhile acc (l.drop q)).length≤l.length - q:=by
  have:=List.IsPrefix.length_le (List.takeWhile_prefix acc (l:=l.drop q))
  rwa [List.length_drop] at this
theorem t1 (hn:(10:Nat)∉l) (hl:l.length≤1000000) (hm:m3b (l.drop q)=none) (hpad:vs.length+pad.length=8) (hpd:pad=[]∨pad=[none,none]) (hW:W≤15000000):FailsAt c3 l 10 W 81 q vs inn (10*l.length+30):=by
  have hq:q < l.length:=by
    rcases Nat.lt_or_ge q l.length with h | h
    · exact h
    · rw [List.drop_of_length_le h] at hm;cases hm
  by_cases hc:l.toArray.getD q 0=43
  · have f1:0 < (List.takeWhile isC (l.drop (q+1))).length→q+1+(List.takeWhile isC (l.drop (q+1))).length < l.length:=fun h=>by
      have hd:l.drop q=43::l.drop (q+1):=by rw [List.drop_eq_getElem_cons hq];congr 1;rw [Array.getD_eq_getD_getElem?,List.getElem?_toArray,List.getElem?_eq_getElem hq] at hc;exact hc
      rw [hd,m3b_43] at hm
      rw [run_t (run_ne h)] at hm
      rcases Nat.lt_or_ge (q+1+(List.takeWhile isC (l.drop (q+1))).length) l.length with h' | h'
      · exact h'
      · rw [List.drop_drop,List.drop_of_length_le h'] at hm;cases hm
    have hb:=fun ls:Array Sre.Loop=>opt_body (G:=10) (ls:=ls) (inn:=inn) (W:=W+vs.length+10) (W':=16000000) (vs:=vs) (pad:=pad) (K:=1) (K0:=1) o81 hpad.symm hpd (by decide) hl hq rfl (fun h=>t0 hn (f1 h)) (fun c Z h'=>t0 hn (takeWhile_at (acc:=isC) (p:=q+1) rfl h').1) hc (by lia) (Nat.le_refl _)
    refine (opt_fail (W:=W) o81 hb (t0 (W:=W+vs.length+10) hn hq) (Nat.le_refl _) (by lia)).le ?_
    have:=tw_le (acc:=isC) (l:=l) (q:=q+1)
    lia
  · exact (t1c hn hq hc (by lia)).le (by lia)
theorem drop_cons (hq:q < l.length):l.drop q=l.toArray.getD q 0::l.drop (q+1):=by
  rw [List.drop_eq_getElem_cons hq];congr 1;rw [Array.getD_eq_getD_getElem?,List.getElem?_toArray,List.getElem?_eq_getElem hq];rfl
theorem isC_43 {c:Nat} (h:isC c=true):c≠43:=fun e=>by subst e;exact absurd h (by decide)
theorem isD_no {c d:Nat} (h:isD c=true) (hd:isD d=false):c≠d:=fun e=>by subst e;rw [h] at hd;cases hd
theorem t2 (hn:(10:Nat)∉l) (hl:l.length≤1000000) (hm:m3p (l.drop q)=none) (hv:vs.length=6) (hW:W≤14000000):FailsAt c3 l 10 W 53 q vs inn (30*l.length+100):=by
  by_cases hq:q < l.length
  · by_cases hc:l.toArray.getD q 0=45
    · have f1:0 < (List.takeWhile isC (l.drop (q+1))).length→m3b (l.drop (q+1+(List.takeWhile isC (l.drop (q+1))).length))=none:=fun h=>by
        rw [drop_cons hq,hc,m3p_45] at hm
        rw [run_t (run_ne h),List.drop_drop] at hm
        exact Option.map_eq_none_iff.mp hm
      have hb:=fun ls:Array Sre.Loop=>opt_body (G:=10) (ls:=ls) (inn:=inn) (W:=W+vs.length+10) (W':=15000000) (vs:=vs) (pad:=[]) (K:=10*l.length+30) (K0:=7) o53 (by rw [hv];rfl) (.inl rfl) (by decide) hl hq rfl
        (fun h=>t1 (pad:=[]) hn hl (f1 h) (by simp [hv]) (.inl rfl) (Nat.le_refl _)) (fun c h h'=>t1c hn (takeWhile_at (acc:=isC) (p:=q+1) rfl h').1 (isC_43 (takeWhile_at (acc:=isC) (p:=q+1) rfl h').2) (by simp;lia)) hc (by lia) (by lia)
      refine (opt_fail (W:=W) o53 hb (t1c (W:=W+vs.length+10) hn hq (by rw [hc];decide) (by lia)) (Nat.le_refl _) (by lia)).le ?_
      have:=tw_le (acc:=isC) (l:=l) (q:=q+1)
      lia
    · have:m3b (l.drop q)=none:=by
        rw [drop_cons hq] at hm ⊢
        rw [m3p_no hc] at hm
        exact Option.map_eq_none_iff.mp hm
      exact (opt_fail_no o53 (.inr hc) (t1 (W:=W+vs.length+10) (pad:=[none,none]) hn hl this (by rw [hv];rfl) (.inr rfl) (by lia)) (Nat.le_refl _) (by lia)).le (by lia)
  · have e:l.drop q=[]:=List.drop_of_length_le (by lia)
    rw [e] at hm
    cases hm
end
end Mine
end
section
open PySem PySem.W
namespace Mine
open PySem.Sre
section
variable {acc:Nat→Bool} {ans:Option Bool} {code:Array Nat} {l:List Nat} {G W W' K K0 pc pos n k p q U P ch M0:Nat} {vs us pad:List (Option Nat)} {li li':Int} {ls:Array Sre.Loop} {inn inn':Option Nat} {fs:List Sre.Frame} {m:M}
theorem fails_mark (h0:code.getD pc 0=17) (h1:code.getD (pc+1) 0=vs.length) (hs:pc < code.size) (hG:vs.length < G) (h:FailsAt code l G W (pc+2) q (vs++[some q]) inn K):FailsAt code l G W pc q vs inn (K+1):=fun li ls fs hw=>
  ((mark_ok (pos:=q) h0 h1 hs hG).trans ((h _ ls fs hw).to fails_up)).le (by lia)
theorem fails_lit (h0:code.getD pc 0=16) (hs:pc < code.size) (hc:l.length≤q∨l.toArray.getD q 0≠code.getD (pc+1) 0):FailsAt code l G W pc q vs inn 1:=fun li ls fs hw=>
  (lit_no (pos:=q) h0 hs hc).to fails_of
theorem fails_lit_yes (h0:code.getD pc 0=16) (hs:pc < code.size) (hq:q < l.length) (hc:l.toArray.getD q 0=code.getD (pc+1) 0) (h:FailsAt code l G W (pc+2) (q+1) vs inn K):FailsAt code l G W pc q vs inn (K+1):=fun li ls fs hw=>
  ((lit_yes (pos:=q) h0 hs hq hc).trans (h li ls fs hw)).le (by lia)
theorem fails_digits (h0:RepAt code pc k isD) (hl:l.length≤1000000) (hq:q≤l.length)
    (hdeep:0 < ((l.drop q).takeWhile isD).length→FailsAt code l G W' (pc+1+k) (q+((l.drop q).takeWhile isD).length) vs inn K) (hshal:∀ c,isD (l.toArray.getD c 0)=true→c < l.length→FailsAt code l G W' (pc+1+k) c vs inn K0)
    (hW:W+1+vs.length≤W') (hW':W'≤16000000):FailsAt code l G W pc q vs inn (K+l.length*(K0+1)+2):=fun li ls fs hw=>by
  have:=rep_fail (W:=W) (ls:=ls) (K:=K) (K0:=K0) h0 hl hq rfl (fun h=>(hdeep h).in) (fun c Z h=>by
    have:=takeWhile_at (acc:=isD) (p:=q) rfl h
    exact (hshal _ this.2 this.1).in) hW hW'
  refine (this li fs hw).le ?_
  have h1:=tw_le (acc:=isD) (l:=l) (q:=q)
  have h2:(List.takeWhile isD (l.drop q)).length*(K0+1)≤l.length*(K0+1):=Nat.mul_le_mul_right _ (by lia)
  lia
theorem d43:isD 43=false:=by decide +kernel
theorem d45:isD 45=false:=by decide +kernel
theorem d46:isD 46=false:=by decide +kernel
theorem t3 (hn:(10:Nat)∉l) (hl:l.length≤1000000) (hq:q≤l.length) (hm:((l.drop q).takeWhile isD).isEmpty=true∨m3p ((l.drop q).drop ((l.drop q).takeWhile isD).length)=none) (hv:vs.length=5) (hW:W≤13000000):
    FailsAt c3 l 10 W 41 q vs inn (50*l.length+200):=by
  refine (fails_digits (W':=13500000) (K:=30*l.length+101) (K0:=14) r41 hl hq (fun h=>?_) (fun c hc hlt=>?_) (by lia) (by lia)).le (by lia)
  · refine fails_mark (code:=c3) rfl (by rw [hv];rfl) (by decide) (by lia) (t2 hn hl ?_ (by simp [hv]) (by lia))
    rw [List.drop_drop] at hm
    refine hm.resolve_left fun e=>?_
    rw [List.isEmpty_iff] at e
    rw [e] at h;cases h
  · exact fails_mark (code:=c3) rfl (by rw [hv];rfl) (by decide) (by lia) (t2c hn hlt (isD_no hc d43) (isD_no hc d45) (by simp;lia))
theorem fails_part (r0:RepAt code pc 9 isD) (a0:code.getD (pc+10) 0=17) (a1:code.getD (pc+11) 0=vs.length) (a2:code.getD (pc+12) 0=16) (a3:code.getD (pc+13) 0=46) (a4:code.getD (pc+14) 0=17) (a5:code.getD (pc+15) 0=vs.length+1) (hs:pc+16 < code.size)
    (hl:l.length≤1000000) (hq:q≤l.length) (hG:vs.length+2 < G) (hW:W+1+vs.length≤W') (hW':W'≤16000000)
    (h:0 < ((l.drop q).takeWhile isD).length→∀ r,(l.drop q).drop ((l.drop q).takeWhile isD).length=46::r→FailsAt code l G W' (pc+16) (q+((l.drop q).takeWhile isD).length+1) (vs++[some (q+((l.drop q).takeWhile isD).length)]++[some (q+((l.drop q).takeWhile isD).length+1)]) inn K):
    FailsAt code l G W pc q vs inn (K+5*l.length+10):=by
  refine (fails_digits (W':=W') (K:=K+3) (K0:=2) r0 hl hq (fun h'=>?_) (fun c hc hlt=>?_) hW hW').le (by lia)
  · by_cases hq2:q+((l.drop q).takeWhile isD).length < l.length
    · by_cases hc:l.toArray.getD (q+((l.drop q).takeWhile isD).length) 0=46
      · refine fails_mark a0 a1 (by lia) (by lia) (fails_lit_yes a2 (by lia) hq2 (hc.trans a3.symm) (fails_mark a4 (by rw [a5];simp) (by lia) (by simp;lia) (h h' (l.drop (q+((l.drop q).takeWhile isD).length+1)) ?_)))
        rw [List.drop_drop,drop_cons hq2,hc]
      · refine (fails_mark a0 a1 (by lia) (by lia) (fails_lit a2 (by lia) (.inr ?_))).le (by lia)
        show _≠code.getD (pc+13) 0
        rw [a3];exact hc
    · exact (fails_mark a0 a1 (by lia) (by lia) (fails_lit a2 (by lia) (.inl (by lia)))).le (by lia)
  · refine fails_mark a0 a1 (by lia) (by lia) (fails_lit a2 (by lia) (.inr ?_))
    show _≠code.getD (pc+13) 0
    rw [a3];exact isD_no hc d46
theorem drop_next {r:List Nat} (h:l.drop p=46::r):l.drop (p+1)=r∧p+1≤l.length:=by
  obtain ⟨Z,h2,h3⟩:=getD_drop h;clear h
  exact ⟨h3,h2⟩
theorem p3_fails (hn:(10:Nat)∉l) (hl:l.length≤1000000) (hm:m3 l=none):FailsAt c3 l 10 0 5 0 [] none (100*l.length+500):=by
  have h1:FailsAt c3 l 10 0 9 0 [some 0] none (90*l.length+300):=by
    refine (fails_part (W':=100) (K:=60*l.length+230) (vs:=[some 0]) r9 rfl rfl rfl rfl rfl rfl (by decide) hl (Nat.zero_le _) (by decide) (by decide) (by decide) fun h r1 e1=>?_).le (by lia)
    rw [List.drop_zero,Nat.zero_add] at *
    have hm1:=(run46 (run_ne h) e1).symm.trans hm
    obtain ⟨d1,l1⟩:=drop_next e1;clear e1
    refine (fails_part (W':=200) (K:=50*l.length+200) (vs:=[some 0]++[some (l.takeWhile isD).length]++[some ((l.takeWhile isD).length+1)]) r25 rfl rfl rfl rfl rfl rfl (by decide) hl l1 (by simp) (by simp) (by decide) fun h r2 e2=>?_).le (by lia)
    rw [d1] at h e2 ⊢
    have hm2:=(run46 (run_ne h) e2).symm.trans hm1
    obtain ⟨d2,l2⟩:=drop_next (l:=l) (p:=(l.takeWhile isD).length+1+(r1.takeWhile isD).length) (by rw [← List.drop_drop,d1];exact e2)
    refine t3 hn hl l2 ?_ (by simp) (by decide)
    rw [d2]
    induction hc:(r2.takeWhile isD).isEmpty with
    | true=>exact .inl rfl
    | false=>exact .inr (Option.map_eq_none_iff.mp ((run_t hc).symm.trans hm2))
  intro li ls fs hw
  refine ((begin_ok rfl rfl (by decide)).trans ((fails_mark (code:=c3) (vs:=[]) rfl rfl (by decide) (by decide) h1) li ls fs hw)).le (by lia)
structure Done (G:Nat) (vs:List (Option Nat)) (e:Nat) (m:M):Prop where
  oc:m.outcome=some .matched
  marks:Mk G m.marks vs
  lm:m.lastmark=(vs.length:Int) - 1
  hd:m.handed=e
  start:m.start=0
structure Won (G:Nat) (vs:List (Option Nat)) (e:Nat) (fs:List Sre.Frame) (m:M):Prop where
  oc:m.outcome=none
  ans:m.answer=some true
  fs:m.frames=fs
  marks:Mk G m.marks vs
  lm:m.lastmark=(vs.length:Int) - 1
  hd:m.handed=e
  start:m.start=0
theorem resume_won {f:Sre.Frame} (hf:f.wait=.giveBack∨f.wait=.maxMore∨f.wait=.maxTail∨f.wait=.closeLoop):∃ i l,M.resume m f true=M.say { m with inner:=i,loops:=l } true:=by
  cases f
  rcases hf with e | e | e | e<;>cases e<;>exact ⟨_,_,rfl⟩
theorem won_step {e:Nat} {f:Sre.Frame} (hf:f.wait=.giveBack∨f.wait=.maxMore∨f.wait=.maxTail∨f.wait=.closeLoop) (h:Won G vs e (f::fs) m):Won G vs e fs m.step:=by
  have:m.step=M.resume { m with answer:=none,frames:=fs,weight:=m.weight - (1+f.kept.marks.size),pc:=f.pc,pos:=f.pos,outermost:=f.outermost } f true:=by
    unfold M.step
    rw [h.oc,h.ans,h.fs,if_neg (by simp)]
  obtain ⟨i,l,e⟩:=resume_won (m:={ m with answer:=none,frames:=fs,weight:=m.weight - (1+f.kept.marks.size),pc:=f.pc,pos:=f.pos,outermost:=f.outermost }) hf
  rw [this,e]
  exact ⟨h.oc,rfl,rfl,h.marks,h.lm,h.hd,h.start⟩
theorem won_end {e:Nat} (h:Won G vs e [] m):Done G vs e m.step:=by
  unfold M.step
  rw [h.oc,h.ans,h.fs,if_neg (by simp)]
  exact ⟨rfl,h.marks,h.lm,h.hd,h.start⟩
theorem won_all {e:Nat}:∀ fs,WinF fs→Leads (Won G vs e fs) (fs.length+1) (Done G vs e)
  | [],_=>Leads.one fun Z h=>won_end h
  | f::fs,hf=>((Leads.one fun Z h=>won_step (hf f (List.mem_cons_self ..)) h).trans (won_all fs fun g hg=>hf g (List.mem_cons_of_mem _ hg))).le (by simp;lia)
theorem succ_ok (h0:code.getD pc 0=1) (hs:pc < code.size):Leads (MAt code l G pc pos vs li ls inn fs none) 1 (Won G vs pos fs):=Leads.one fun m h=>by
  rw [h.step_none hs]
  unfold M.exec
  rw [show ops[m.word 0]?=some .SUCCESS by rw [h.word];show ops[code.getD pc 0]?=_;rw [h0];rfl]
  dsimp only
  rw [if_neg (by rw [h.whole,h.adv];simp)]
  exact ⟨h.oc,rfl,h.fs,h.marks,h.lm,h.pos,h.start⟩
theorem tw_ext:l.toArray.extract p (p+(List.takeWhile acc (l.drop p)).length)=(List.takeWhile acc (l.drop p)).toArray:=by
  apply Array.ext'
  have h:List.takeWhile acc (l.drop p)=(l.drop p).take (List.takeWhile acc (l.drop p)).length:=List.prefix_iff_eq_take.mp (List.takeWhile_prefix _)
  simp only [List.extract_toArray,Nat.add_sub_cancel_left]
  rw [List.extract_eq_take_drop,Nat.add_sub_cancel_left]
  exact h.symm
inductive W1R (l:List Nat) (vs pad:List (Option Nat)) (g:Option PySem.Str) (vs':List (Option Nat)):Prop
  | no (e:g=none) (h:vs'=vs)
  | yes (b:Nat) (hb:b≤l.length) (e:g=some ⟨l.toArray.extract b l.length⟩) (h:vs'=vs++pad++[some b]++[some l.length])
inductive W2R (l:List Nat) (vs:List (Option Nat)) (g:Option PySem.Str×Option PySem.Str) (vs':List (Option Nat)):Prop
  | nn (e:g=(none,none)) (h:vs'=vs)
  | yn (b e:Nat) (o:b≤e) (q:g=(some ⟨l.toArray.extract b e⟩,none)) (h:vs'=vs++[some b]++[some e])
  | ny (b e:Nat) (o:b≤e) (q:g=(none,some ⟨l.toArray.extract b e⟩)) (h:vs'=vs++[none,none]++[some b]++[some e])
  | yy (b e b' e':Nat) (o:b≤e) (o':b'≤e') (q:g=(some ⟨l.toArray.extract b e⟩,some ⟨l.toArray.extract b' e'⟩)) (h:vs'=vs++[some b]++[some e]++[some b']++[some e'])
theorem w1 (hn:(10:Nat)∉l) (hl:l.length≤1000000) {g:Option PySem.Str} (hq:q≤l.length) (hm:m3b (l.drop q)=some g) (hpad:vs.length+pad.length=8) (hpd:pad=[]∨pad=[none,none]) (hw:wsum fs≤1000) (hf:WinF fs) (hfl:fs.length≤20):
    ∃ vs',W1R l vs pad g vs'∧Leads (MAt c3 l 10 81 q vs li ls inn fs none) 100 (Done 10 vs' l.length):=by
  have fin:∀ {vs' li' ls' fs'},WinF fs'→fs'.length≤30→Leads (MAt c3 l 10 109 l.length vs' li' ls' inn fs' none) 40 (Done 10 vs' l.length):=fun hf hl=>by
    exact (((end_yes (pos:=l.length) rfl rfl (by decide) rfl).trans (succ_ok (code:=c3) rfl (by decide))).trans (won_all _ hf)).le (by lia)
  by_cases hq':q < l.length
  · rw [drop_cons hq'] at hm
    by_cases hc:l.toArray.getD q 0=43
    · rw [hc,m3b_43] at hm
      obtain ⟨hb,hm1⟩:=run_some hm;clear hm
      obtain ⟨he,hm2⟩:=grd_some hm1;clear hm1
      obtain rfl:=Option.some.inj hm2
      obtain ⟨n,hn1⟩:=run_len hb;clear hb
      have hend:q+1+(n+1)=l.length:=by
        unfold atEnd at he
        rw [List.isEmpty_iff,List.drop_drop,hn1] at he
        have h1:=List.drop_eq_nil_iff.mp he
        have h2:=tw_le (acc:=isC) (l:=l) (q:=q+1)
        lia
      obtain ⟨li',ls',fs',h1,h2,h3,h4⟩:=opt_take (l:=l) (G:=10) (inn:=inn) (li:=li) (ls:=ls) (fs:=fs) (n:=n) o81 hpad.symm hpd (by decide) hl hq' hc hn1 (by lia) hf;clear hf
      refine ⟨_,.yes (q+1) hq' ?_ rfl,?_⟩
      · congr 1
        rw [← hend,← hn1,tw_ext]
      · rw [hend] at h4
        exact (h4.trans (fin h1 (by lia))).le (by lia)
    · rw [m3b_no hc] at hm;cases hm
  · have e:q=l.length:=by lia
    subst e
    rw [List.drop_length] at hm
    cases hm
    obtain ⟨ls',fs',h1,h2,h3,h4⟩:=opt_skip (l:=l) (G:=10) (inn:=inn) (li:=li) (ls:=ls) (vs:=vs) (fs:=fs) (p:=l.length) o81 (.inl (Nat.le_refl _)) (by lia) hf;clear hf
    exact ⟨vs,.no rfl rfl,(h4.trans (fin h1 (by lia))).le (by lia)⟩
theorem w2 (hn:(10:Nat)∉l) (hl:l.length≤1000000) {g:Option PySem.Str×Option PySem.Str} (hq:q≤l.length) (hm:m3p (l.drop q)=some g) (hv:vs.length=6) (hw:wsum fs≤500) (hf:WinF fs) (hfl:fs.length≤10):
    ∃ vs',W2R l vs g vs'∧Leads (MAt c3 l 10 53 q vs li ls inn fs none) 200 (Done 10 vs' l.length):=by
  by_cases hc:q < l.length∧l.toArray.getD q 0=45
  · obtain ⟨hq',hc⟩:=hc
    rw [drop_cons hq',hc,m3p_45] at hm
    obtain ⟨hb,hm1⟩:=run_some hm;clear hm
    obtain ⟨g2,hg2,rfl⟩:=Option.map_eq_some_iff.mp hm1;clear hm1
    obtain ⟨n,hn1⟩:=run_len hb;clear hb
    obtain ⟨li',ls',fs',h1,h2,h3,h4⟩:=opt_take (l:=l) (G:=10) (inn:=inn) (li:=li) (ls:=ls) (fs:=fs) (n:=n) (vs:=vs) (pad:=[]) o53 (by rw [hv];rfl) (.inl rfl) (by decide) hl hq' hc hn1 (by lia) hf
    rw [List.append_nil] at h4
    have hle:=tw_le (acc:=isC) (l:=l) (q:=q+1)
    rw [List.drop_drop,hn1] at hg2
    obtain ⟨vs',hvs,hL⟩:=w1 (vs:=vs++[some (q+1)]++[some (q+1+(n+1))]) (pad:=[]) (li:=li') (ls:=ls') (inn:=inn) hn hl (by lia) hg2 (by simp [hv]) (.inl rfl) (by lia) h1 (by lia)
    refine ⟨vs',?_,(h4.trans hL).le (by lia)⟩
    rcases hvs with ⟨rfl,rfl⟩ | ⟨b,hb2,rfl,rfl⟩
    · exact .yn (q+1) (q+1+(n+1)) (Nat.le_add_right _ _) (by rw [← hn1,tw_ext]) rfl
    · exact .yy (q+1) (q+1+(n+1)) b l.length (Nat.le_add_right _ _) hb2 (by rw [← hn1,tw_ext]) (by rw [List.append_nil])
  · have hc':l.length≤q∨l.toArray.getD q 0≠45:=by
      by_cases h:q < l.length
      · exact .inr fun e=>hc ⟨h,e⟩
      · exact .inl (by lia)
    have hm':(m3b (l.drop q)).map (fun b=>((none,b):Option PySem.Str×Option PySem.Str))=some g:=by
      by_cases h:q < l.length
      · rw [drop_cons h] at hm ⊢
        rw [m3p_no fun e=>hc ⟨h,e⟩] at hm
        exact hm
      · rw [List.drop_of_length_le (by lia)] at hm ⊢;exact hm
    obtain ⟨g2,hg2,rfl⟩:=Option.map_eq_some_iff.mp hm';clear hm'
    obtain ⟨ls',fs',h1,h2,h3,h4⟩:=opt_skip (l:=l) (G:=10) (inn:=inn) (li:=li) (ls:=ls) (vs:=vs) (fs:=fs) (p:=q) o53 hc' (by lia) hf;clear hf
    obtain ⟨vs',hvs,hL⟩:=w1 (vs:=vs) (pad:=[none,none]) (li:=li) (ls:=ls') (inn:=inn) hn hl hq hg2 (by simp [hv]) (.inr rfl) (by lia) h1 (by lia)
    refine ⟨vs',?_,(h4.trans hL).le (by lia)⟩
    rcases hvs with ⟨rfl,rfl⟩ | ⟨b,hb2,rfl,rfl⟩
    · exact .nn rfl rfl
    · exact .ny b l.length hb2 rfl rfl
theorem w_part (r0:RepAt code pc 9 isD) (a0:code.getD (pc+10) 0=17) (a1:code.getD (pc+11) 0=vs.length) (a2:code.getD (pc+12) 0=16) (a3:code.getD (pc+13) 0=46) (a4:code.getD (pc+14) 0=17) (a5:code.getD (pc+15) 0=vs.length+1) (hs:pc+16 < code.size)
    (hl:l.length≤1000000) (hq:q≤l.length) (hG:vs.length+2 < G) (ha:((l.drop q).takeWhile isD).isEmpty=false) {r:List Nat} (hr:(l.drop q).drop ((l.drop q).takeWhile isD).length=46::r) (hw:wsum fs+1+vs.length≤16000000) (hi:inn=none) (hf:WinF fs):
    ∃ li' fs',WinF fs'∧fs'.length=fs.length+1∧wsum fs'=wsum fs+1∧Leads (MAt code l G pc q vs li ls inn fs none) 4 (MAt code l G (pc+16) (q+((l.drop q).takeWhile isD).length+1) (vs++[some (q+((l.drop q).takeWhile isD).length)]++[some (q+((l.drop q).takeWhile isD).length+1)]) li' ls inn fs' none):=by
  obtain ⟨n,hn1⟩:=run_len ha;clear ha
  rw [hn1] at hr ⊢
  rw [List.drop_drop] at hr
  obtain ⟨c1,c2,c3⟩:=getD_drop hr;clear hr
  have h1:=rep_yes (G:=G) (l:=l) (vs:=vs) (li:=li) (ls:=ls) (inn:=inn) (fs:=fs) r0 hn1 hl hq (by lia)
  have h2:=mark_ok (l:=l) (G:=G) (pos:=q+(n+1)) (li:=li) (ls:=ls) (inn:=inn) (fs:=gb pc (q+(n+1)) (n+1) (kp vs li inn.isSome)::fs) a0 a1 (by lia) (by lia)
  have h3:=lit_yes (l:=l) (G:=G) (pos:=q+(n+1)) (vs:=vs++[some (q+(n+1))]) (li:=if vs.length % 2==1 then (vs.length / 2+1:Nat) else li) (ls:=ls) (inn:=inn) (fs:=gb pc (q+(n+1)) (n+1) (kp vs li inn.isSome)::fs) a2 (by lia) c2 (c1.trans a3.symm)
  obtain ⟨li',h4⟩:=mark_any (l:=l) (G:=G) (pos:=q+(n+1)+1) (vs:=vs++[some (q+(n+1))]) (pad:=[]) (li:=if vs.length % 2==1 then (vs.length / 2+1:Nat) else li) (ls:=ls) (inn:=inn) (fs:=gb pc (q+(n+1)) (n+1) (kp vs li inn.isSome)::fs) a4 (by rw [a5];simp) (.inl rfl) (by lia) (by simp;lia)
  rw [List.append_nil] at h4
  refine ⟨li',_,hf.cons (.inl rfl),rfl,?_,((h1.trans h2).trans h3).trans h4⟩
  subst hi
  rfl
end
end Mine
end
section
set_option tactic.hygienic true
open PySem PySem.W PySem.Calls PyProof.Rows
namespace Mine
open PySem.Sre
noncomputable def spn (vs:List (Option Nat)) (g:Nat):List Int:=match (if 2*g+1 < vs.length then (vs.getD (2*g) none,vs.getD (2*g+1) none) else (none,none)) with
  | (some b,some e)=>[(b:Int),(e:Int)]
  | _=>[-1,-1]
noncomputable def spns (g:Nat) (vs:List (Option Nat)):List Int:=(List.range g).flatMap (spn vs)
noncomputable def ordOk (vs:List (Option Nat)):Prop:=∀ g b e,vs.getD (2*g) none=some b→vs.getD (2*g+1) none=some e→b≤e
theorem ord_nil:ordOk []:=fun Z Z Z h Z=>nomatch h
theorem ord_c {x y:Option Nat} {r:List (Option Nat)} (h:∀ b e,x=some b→y=some e→b≤e) (k:ordOk r):ordOk (x::y::r):=by
  intro g b e h1 h2
  induction g using Nat.casesOn with
  | zero=>exact h b e h1 h2
  | succ g=>exact k g b e h1 h2
theorem ord_s {b e:Nat} {r:List (Option Nat)} (h:b≤e) (k:ordOk r):ordOk (some b::some e::r):=ord_c (fun Z Z p q=>by cases p;cases q;exact h) k
theorem ord_n {r:List (Option Nat)} (k:ordOk r):ordOk (none::none::r):=ord_c (fun Z Z p Z=>nomatch p) k
theorem p3_marks {l:List Nat} {a1 a2 b1 b2 c1 c2:Nat} {g:Option PySem.Str×Option PySem.Str} {vs':List (Option Nat)} (ha:a1≤a2) (hb:b1≤b2) (hc:c1≤c2) (hvs:W2R l [some a1,some a2,some b1,some b2,some c1,some c2] g vs'):
    vs'.length≤10∧grpsOk ⟨l.toArray⟩ [some ⟨l.toArray.extract a1 a2⟩,some ⟨l.toArray.extract b1 b2⟩,some ⟨l.toArray.extract c1 c2⟩,g.1,g.2] (spns 5 vs')∧ordOk vs':=by
  have hk:∀ (a b:Nat) gs r,grpsOk ⟨l.toArray⟩ gs r→grpsOk ⟨l.toArray⟩ (some ⟨l.toArray.extract a b⟩::gs) ((a:Int)::(b:Int)::r):=fun a b gs r h=>⟨a,b,r,rfl,Int.natCast_nonneg _,Int.natCast_nonneg _,rfl,h⟩
  have hz:∀ gs r,grpsOk ⟨l.toArray⟩ gs r→grpsOk ⟨l.toArray⟩ (none::gs) (-1::-1::r):=fun gs r h=>⟨-1,-1,r,rfl,.inl (by decide),h⟩
  rcases hvs with ⟨rfl,rfl⟩ | ⟨b,e,o,rfl,rfl⟩ | ⟨b,e,o,rfl,rfl⟩ | ⟨b,e,b',e',o,o',rfl,rfl⟩
  · exact ⟨Nat.le_of_ble_eq_true rfl,hk _ _ _ _ (hk _ _ _ _ (hk _ _ _ _ (hz _ _ (hz _ _ rfl)))),ord_s ha (ord_s hb (ord_s hc ord_nil))⟩
  · exact ⟨Nat.le_of_ble_eq_true rfl,hk _ _ _ _ (hk _ _ _ _ (hk _ _ _ _ (hk _ _ _ _ (hz _ _ rfl)))),ord_s ha (ord_s hb (ord_s hc (ord_s o ord_nil)))⟩
  · exact ⟨Nat.le_of_ble_eq_true rfl,hk _ _ _ _ (hk _ _ _ _ (hk _ _ _ _ (hz _ _ (hk _ _ _ _ rfl)))),ord_s ha (ord_s hb (ord_s hc (ord_n (ord_s o ord_nil))))⟩
  · exact ⟨Nat.le_of_ble_eq_true rfl,hk _ _ _ _ (hk _ _ _ _ (hk _ _ _ _ (hk _ _ _ _ (hk _ _ _ _ rfl)))),ord_s ha (ord_s hb (ord_s hc (ord_s o (ord_s o' ord_nil))))⟩
theorem p3_wins {l:List Nat} (hn:(10:Nat)∉l) (hl:l.length≤1000000) {gs:List (Option PySem.Str)} (hm:m3 l=some gs):
    ∃ vs,vs.length≤10∧grpsOk ⟨l.toArray⟩ gs (spns 5 vs)∧ordOk vs∧Leads (MAt c3 l 10 5 0 [] (-1) #[] none [] none) 300 (Done 10 vs l.length):=by
  obtain ⟨ha,hm1⟩:=run_some hm
  obtain ⟨r1,s1,hm2⟩:=ask_some hm1
  obtain ⟨hb',hm3⟩:=run_some hm2
  obtain ⟨r2,s2,hm4⟩:=ask_some hm3
  obtain ⟨hc,hm5⟩:=run_some hm4
  obtain ⟨g,hg,rfl⟩:=Option.map_eq_some_iff.mp hm5
  have e1:=sep_of s1
  have e2:=sep_of s2
  clear hm hm1 hm2 hm3 hm4 hm5 s1 s2
  obtain ⟨d1,l1⟩:=drop_next e1
  obtain ⟨li1,fs1,f1,f2,f3,L1⟩:=w_part (l:=l) (G:=10) (q:=0) (vs:=[some 0]) (li:=-1) (ls:=#[]) (inn:=none) (fs:=[]) r9 rfl rfl rfl rfl rfl rfl (by decide) hl (Nat.zero_le _) (by decide) (by rw [List.drop_zero];exact ha) (by rw [List.drop_zero];exact e1) (by decide) rfl (fun Z h=>nomatch h)
  rw [List.drop_zero,Nat.zero_add] at L1
  generalize hA:(l.takeWhile isD).length=A at *
  obtain ⟨li2,fs2,f4,f5,f6,L2⟩:=w_part (l:=l) (G:=10) (q:=A+1) (vs:=[some 0]++[some A]++[some (A+1)]) (li:=li1) (ls:=#[]) (inn:=none) (fs:=fs1) r25 rfl rfl rfl rfl rfl rfl (by decide) hl l1 (by simp) (by rw [d1];exact hb') (by rw [d1];exact e2) (by rw [f3];exact Nat.le_of_ble_eq_true rfl) rfl f1
  rw [d1] at L2
  have e2':l.drop (A+1+(r1.takeWhile isD).length)=46::r2:=by rw [← List.drop_drop,d1];exact e2
  obtain ⟨d2,l2⟩:=drop_next e2'
  generalize hB:(r1.takeWhile isD).length=B at *
  obtain ⟨n,hn1⟩:=run_len hc;clear hc
  have L3:=rep_yes (G:=10) (l:=l) (pos:=A+1+B+1) (n:=n) (vs:=[some 0]++[some A]++[some (A+1)]++[some (A+1+B)]++[some (A+1+B+1)]) (li:=li2) (ls:=#[]) (inn:=none) (fs:=fs2) r41 (by rw [d2];exact hn1) hl l2 (by rw [f6,f3];exact Nat.le_of_ble_eq_true rfl)
  obtain ⟨li3,L4⟩:=mark_any (code:=c3) (l:=l) (G:=10) (pc:=51) (pos:=A+1+B+1+(n+1)) (vs:=[some 0]++[some A]++[some (A+1)]++[some (A+1+B)]++[some (A+1+B+1)]) (pad:=[]) (li:=li2) (ls:=#[]) (inn:=none) (fs:=gb 41 (A+1+B+1+(n+1)) (n+1) (kp ([some 0]++[some A]++[some (A+1)]++[some (A+1+B)]++[some (A+1+B+1)]) li2 false)::fs2) rfl rfl (.inl rfl) (by decide) (by simp)
  rw [List.append_nil] at L4
  have hle:A+1+B+1+(n+1)≤l.length:=by
    have:=tw_le (acc:=isD) (l:=l) (q:=A+1+B+1)
    rw [d2,hn1] at this
    exact Nat.add_le_of_le_sub' l2 this
  obtain ⟨vs',hvs,L5⟩:=w2 (l:=l) (q:=A+1+B+1+(n+1)) (vs:=[some 0]++[some A]++[some (A+1)]++[some (A+1+B)]++[some (A+1+B+1)]++[some (A+1+B+1+(n+1))]) (li:=li3) (ls:=#[]) (inn:=none) (fs:=gb 41 (A+1+B+1+(n+1)) (n+1) (kp ([some 0]++[some A]++[some (A+1)]++[some (A+1+B)]++[some (A+1+B+1)]) li2 false)::fs2) hn hl hle (by rw [← List.drop_drop,d2,← hn1];exact hg) (by simp) (by show wsum fs2+1+0≤_;rw [f6,f3];decide) (f4.cons (.inl rfl)) (by simp [f5,f2])
  have La:=begin_ok (code:=c3) (l:=l) (G:=10) (pc:=5) (vs:=[]) (li:=-1) (ls:=#[]) (inn:=none) (fs:=[]) rfl rfl (by decide)
  have Lb:=mark_ok (code:=c3) (l:=l) (G:=10) (pc:=7) (pos:=0) (vs:=[]) (li:=-1) (ls:=#[]) (inn:=none) (fs:=[]) rfl rfl (by decide) (by decide)
  have x1:l.toArray.extract 0 A=(l.takeWhile isD).toArray:=by have:=tw_ext (l:=l) (p:=0) (acc:=isD);rwa [List.drop_zero,Nat.zero_add,hA] at this
  have x2:l.toArray.extract (A+1) (A+1+B)=(r1.takeWhile isD).toArray:=by have:=tw_ext (l:=l) (p:=A+1) (acc:=isD);rwa [d1,hB] at this
  have x3:l.toArray.extract (A+1+B+1) (A+1+B+1+(n+1))=(r2.takeWhile isD).toArray:=by have:=tw_ext (l:=l) (p:=A+1+B+1) (acc:=isD);rwa [d2,hn1] at this
  have LL:=(((((La.trans Lb).trans L1).trans L2).trans L3).trans L4).trans L5
  obtain ⟨k1,k2,k3⟩:=p3_marks (Nat.zero_le _) (Nat.le_add_right _ _) (Nat.le_add_right _ _) hvs;clear hvs
  refine ⟨vs',k1,?_,k3,LL.le (by lia)⟩
  rw [← x1,← x2,← x3]
  exact k2
end Mine
end
section
set_option tactic.hygienic true
open PySem PySem.W PySem.Calls PyProof.Rows
namespace Mine
open PySem.Sre PySem.Builtin.Re
theorem step_done {m:M} (h:m.outcome.isSome=true):m.step=m:=by unfold M.step;rw [if_pos h]
theorem iterM_done:∀ n {m:M},m.outcome.isSome=true→iterM n m=m
  | 0,_,_=>rfl
  | n+1,m,h=>by show iterM n m.step=m;rw [step_done h];exact iterM_done n h
theorem runFor_iterM:∀ n (m:M),m.runFor n=iterM n m
  | 0,_=>rfl
  | n+1,m=>by
    by_cases h:m.outcome.isSome=true
    · exact (if_pos h).trans (iterM_done (n+1) h).symm
    · exact (if_neg h).trans (runFor_iterM n m.step)
section
variable {M':Model} {A:Around} {E:PySem.Value→Shared→Prop} {s:Shared}
theorem drive_ok {Q:M→Shared→Prop}:∀ (turns N:Nat) (m:M),N < 4*turns→(iterM N m).outcome.isSome=true→Q (iterM N m) s→wpAny M' A (reDrive turns m) Q E s
  | 0,N,m,h,_,_=>by omega
  | turns+1,N,m,h,ho,hq=>by
    have e4:m.runFor reTurnSteps=iterM 4 m:=runFor_iterM 4 m
    by_cases h4:(iterM 4 m).outcome.isSome=true
    · have st:reDrive (turns+1) m=_:=if_pos (e4.symm▸h4)
      rw [st,e4]
      refine wpAny_pure ?_
      have e:iterM 4 m=iterM N m:=by
        by_cases hN:N≤4
        · rw [show iterM 4 m=iterM (N+(4 - N)) m by rw [Nat.add_sub_cancel' hN],iterM_add,iterM_done _ ho]
        · rw [show N=4+(N - 4) by omega];rewrite [iterM_add,iterM_done _ h4];rfl
      rw [e];exact hq
    · have st:reDrive (turns+1) m=_:=if_neg (e4.symm▸h4)
      rw [st,e4]
      have hN:4 < N:=by
        rcases Nat.lt_or_ge 4 N with h' | h'
        · exact h'
        · exfalso
          apply h4
          rw [show iterM 4 m=iterM (N+(4 - N)) m by rw [Nat.add_sub_cancel' h'],iterM_add,iterM_done _ ho]
          exact ho
      have e:iterM N m=iterM (N - 4) (iterM 4 m):=by rw [← iterM_add];congr 1;omega
      rw [e] at ho hq
      exact wpAny_bind (wpAny_rule (drive_ok turns (N - 4) _ (by omega) ho hq))
theorem runToEnd_ok {Q:Option M→Shared→Prop} {m:M} {N:Nat} (h:N < 2 ^ 66) {o:Sre.Outcome} (ho:(iterM N m).outcome=some o) (hs:∀ w,o≠.stuck w)
    (q:Q (match o with | .matched=>some (iterM N m) | _=>none) s):wpAny M' A (reRunToEnd m) Q E s:=by
  unfold reRunToEnd
  refine wpAny_bind (drive_ok (2 ^ 64) N m (by omega) (by rw [ho];rfl) ?_)
  refine wpAny_bind (wpAny_forIn_list _ (fun Z Z s'=>s'=s) _ (fun x rest b s' e=>?_) (fun b s' e=>?_) _ _ rfl)
  · subst e
    split
    · exact wpAny_bind (wpAny_rule (wpAny_pure rfl))
    · exact wpAny_pure rfl
  · subst e
    rw [ho]
    cases o with
    | matched=>exact wpAny_pure q
    | failed=>exact wpAny_pure q
    | stuck w=>exact absurd rfl (hs w)
end
theorem start_at {l:List Nat} (h5:5≤l.length):MAt c3 l 10 5 0 [] (-1) #[] none [] none (forMatch c3 l.toArray 5 0 l.length false false):=by
  unfold forMatch
  dsimp only
  rw [if_neg]
  · exact ⟨rfl,rfl,rfl,rfl,rfl,rfl,rfl,rfl,rfl,⟨List.replicate 10 none,rfl,rfl⟩,rfl,rfl,rfl,rfl,rfl,rfl,rfl,rfl⟩
  · show ¬ (_&&decide (l.length - 0 < 5))=true
    rw [Bool.and_eq_true,decide_eq_true_eq]
    exact fun h=>Nat.not_lt.mpr h5 h.2
theorem start_short {l:List Nat} (h5:l.length < 5):(iterM 1 (forMatch c3 l.toArray 5 0 l.length false false)).outcome=some .failed:=by
  unfold forMatch
  dsimp only
  rw [if_pos]
  · rfl
  · show ((true&&decide (0≤l.length))&&decide (l.length - 0 < 5))=true
    rw [Bool.and_eq_true,decide_eq_true_eq]
    exact ⟨by simp,by omega⟩
theorem m3_len {l:List Nat} {gs:List (Option PySem.Str)} (h:m3 l=some gs):5≤l.length:=by
  have L:∀ (l:List Nat),(l.takeWhile isD).isEmpty=false→∀ c r,l.drop (l.takeWhile isD).length=c::r→r.length+2≤l.length:=fun l hl c r e=>by
    have h1:(l.drop (l.takeWhile isD).length).length=r.length+1:=by rw [e];rfl
    rw [List.length_drop] at h1
    have h2:0 < (l.takeWhile isD).length:=by
      induction e':l.takeWhile isD using List.casesOn with
      | nil=>rw [e'] at hl;cases hl
      | cons=>simp
    omega
  obtain ⟨ha,h1⟩:=run_some h;clear h
  obtain ⟨r1,e1,h2⟩:=ask_some h1;clear h1
  obtain ⟨hb,h3⟩:=run_some h2;clear h2
  obtain ⟨r2,e2,h4⟩:=ask_some h3;clear h3
  obtain ⟨hc,Z⟩:=run_some h4;clear h4
  have k1:=L l ha _ _ (sep_of e1)
  have k2:=L r1 hb _ _ (sep_of e2)
  have k3:0 < r2.length:=by
    induction r2 using List.casesOn with
    | nil=>cases hc
    | cons=>exact Nat.succ_pos _
  omega
inductive EndP (code:Array Nat) (g:Nat) (l:List Nat) (o:Option (List (Option Str)×Nat)):Prop
  | yes (gs:List (Option Str)) (e:Nat) (vs:List (Option Nat)) (N:Nat) (ho:o=some (gs,e)) (hN:N < 2 ^ 66) (hv:vs.length≤2*g) (hg:grpsOk ⟨l.toArray⟩ gs (spns g vs)) (hd:ordOk vs) (h:Done (2*g) vs e (iterM N (forMatch code l.toArray g 0 l.length false false)))
  | no (N:Nat) (ho:o=none) (hN:N < 2 ^ 66) (h:(iterM N (forMatch code l.toArray g 0 l.length false false)).outcome=some .failed)
theorem fails_end {code:Array Nat} {l:List Nat} {G N:Nat} {vs:List (Option Nat)} {ls:Array Sre.Loop} {inn:Option Nat} {m:M} (h:Fails code l G vs ls inn [] (iterM N m)):(iterM (N+1) m).outcome=some .failed:=by
  obtain ⟨pc,pos,us,li,h7⟩:=h
  rw [iterM_add]
  show (M.step _).outcome=_
  unfold M.step
  rw [h7.oc,h7.ans,h7.fs,if_neg (by simp)]
  rfl
theorem p3_end {l:List Nat} (hn:(10:Nat)∉l) (hl:l.length≤1000000):EndP c3 5 l ((m3 l).map fun gs=>(gs,l.length)):=by
  induction hm:m3 l with
  | some gs=>
    obtain ⟨vs,h1,h2,h3,h4⟩:=p3_wins hn hl hm
    obtain ⟨N,h5,h6⟩:=h4 _ (start_at (m3_len hm));clear hm
    exact .yes gs l.length vs N rfl (by omega) h1 h2 h3 h6
  | none=>
    by_cases h5:l.length < 5
    · exact .no 1 rfl (by decide) (start_short h5)
    · obtain ⟨N,h6,h7⟩:=p3_fails hn hl hm (-1) #[] [] (Nat.le_refl _) _ (start_at (by omega))
      exact .no (N+1) rfl (by omega) (fails_end h7)
end Mine
end
section
set_option tactic.hygienic true
open PySem PySem.W PySem.Calls PyProof.Rows
namespace Mine
open PySem.Sre PySem.Builtin.Re
inductive PatF (a g:Nat) (code:Array Nat):Prop
  | mk (vs:Array Value) (sl:Array (Option Value)) (tg:Tok) (c:Addr) (z:Tok) (o:Obj) (xs:Array Value) (n:Nat) (h:K0.lookup a=some ⟨.type "re.Pattern",Option.none,.fields vs,sl⟩) (h2:vs.getD 2 .none=.int g tg) (h5:vs.getD 5 .none=.ref c) (h6:vs.getD 6 .none=.int 0 z)
    (hc:K0.lookup c=some o) (hd:o.data=.seq xs n) (hx:(xs.map reRawOf).map (·.toNat)=code)
theorem pat_obj:K0.lookup 53=some (q55 w0.params):=by kernel_rfl
theorem pat_code:K0.lookup 52=some (q54 w0.params):=by kernel_rfl
theorem pat3_facts:PatF 53 5 c3:=⟨_,_,_,_,_,_,_,_,pat_obj,rfl,rfl,rfl,pat_code,rfl,by kernel_rfl⟩
section
variable {A:Around} {F:List Addr} {fr:List Env} {st:Bool} {B:Addr→Prop} {s:Shared} {E:PySem.Value→Shared→Prop}
theorem named3 {id f:String} {v:PySem.Value}:reNamed id f ["string","pos","endpos"] 1 [v] []=pure [some v,none,none]:=by kernel_rfl
theorem named_d {id f:String}:reNamed id f ["default"] 0 [] []=pure [none]:=by kernel_rfl
theorem target_ok {a g:Nat} {code:Array Nat} {x:PySem.Str} {t:Tok} {Q:ReTarget→Shared→Prop} (hp:PatF a g code) (hK:K0.In s.heap) (q:Q ⟨.ref a,.str x t,code,x.cps,0,g,0,min ((2 ^ 63 - 1:Int).toNat) x.cps.size⟩ s):
    wpAny (model prog w0) A (reTarget "re.Pattern.match" "match" ⟨[.ref a,.str x t],[]⟩) Q E s:=by
  obtain ⟨vs,sl,tg,c,z,o,xs,n,e1,h2,h5,h6,e2,hd,hx⟩:=hp
  unfold reTarget
  refine wpAny_bind (wpAny_of_eq named3 ?_)
  refine wpAny_bind (m:=pure 0) (wpAny_pure (wpAny_bind (m:=pure (2 ^ 63 - 1)) (wpAny_pure (wpAny_bind (wpAny_fieldsOf (hK _ _ e1) rfl ?_)))))
  refine wpAny_bind (wpAny_of_eq (by unfold reTextOf asStr?;rfl:reTextOf (.str x t)=pure (x.cps,0)) ?_)
  conv=>arg 3;whnf
  rw [h6]
  refine wpAny_ite_false rfl ?_
  unfold reNoCollectionInside
  rw [if_neg (by decide)]
  rw [h5,h2]
  unfold reRawItems
  refine wpAny_bind (wpAny_pure ?_)
  refine wpAny_bind (wpAny_bind (wpAny_seqItems (hK _ _ e2) hd (wpAny_pure (wpAny_pure ?_))))
  show Q _ s
  rw [show (Option.getD (some xs) #[]:Array PySem.Value)=xs from rfl,hx]
  rw [show min ((0:Int).toNat) x.cps.size=0 from Nat.zero_min _]
  exact q
theorem mk_at {G:Nat} {a:Array (Option Nat)} {vs:List (Option Nat)} (h:Mk G a vs) {j:Nat} (hj:j < vs.length):a.getD j none=vs.getD j none:=by
  obtain ⟨r,rfl,Z⟩:=h
  rw [Array.getD_eq_getD_getElem?,List.getElem?_toArray,List.getElem?_append_left hj,List.getD_eq_getElem?_getD]
theorem spns_len {g:Nat} {vs:List (Option Nat)}:(spns g vs).length=2*g:=by
  have h:∀ g,(spn vs g).length=2:=fun g=>by unfold spn;generalize (if 2*g+1 < vs.length then (vs.getD (2*g) none,vs.getD (2*g+1) none) else (none,none))=p;obtain ⟨Z | Z,Z | Z⟩:=p<;>rfl
  unfold spns
  induction g with
  | zero=>rfl
  | succ n ih=>rw [List.range_succ,List.flatMap_append,List.length_append,ih,List.flatMap_cons,List.length_append,h];rfl
theorem keep_push2 {h:Heap} {o o':Obj}:∀ b x,h.get? b=some x→((h.push o).push o').get? b=some x:=fun b x e=>Heap.get?_push_of_some _ (Heap.get?_push_of_some _ e)
theorem grps_len {txt:PySem.Str}:∀ {gs:List (Option PySem.Str)} {l:List Int},grpsOk txt gs l→l.length=2*gs.length
  | [],_,h=>by rw [show _=[] from h];rfl
  | some _::gs,_,h=>by obtain ⟨b,c,r,rfl,Z,Z,Z,h4⟩:=h;simp [grps_len h4];lia
  | none::gs,_,h=>by obtain ⟨b,c,r,rfl,Z,h4⟩:=h;simp [grps_len h4];lia
theorem newMatch_ok {G:Nat} {a:Addr} {x:PySem.Str} {t:Tok} {m:M} {vs:List (Option Nat)} {gs:List (Option PySem.Str)} {lim e:Nat} (D:Bd F B s.heap) (h:Done (2*G) vs e m) (hv:vs.length≤2*G) (hG:G≤100) (hg:grpsOk x gs (spns G vs)) (ho:ordOk vs) (hx:x.length≤lenLine) (hgl:gs.length≤1000):
    wpAny (model prog w0) A (reNewMatch (.ref a) (.str x t) G 0 lim m) (EPs F st B s (.ok (.mat gs e))) E s:=by
  unfold reNewMatch
  have hlm:∀ g:Nat,(((2*g+1:Nat):Int)≤m.lastmark)=(2*g+1 < vs.length):=fun g=>by rw [h.lm];apply propext;lia
  have hs:∀ f:Nat→List PySem.Value,(∀ g,f g=(spn vs g).map rawInt)→(List.range G).flatMap f=(spns G vs).map rawInt:=fun f hf=>by
    unfold spns
    rw [List.map_flatMap]
    congr 1
    funext g
    exact hf g
  dsimp only
  rw [hs _ fun g=>?hg]
  case hg=>
    unfold spn
    by_cases hg:2*g+1 < vs.length
    · rw [if_pos hg,if_pos ((hlm g).mpr hg),mk_at h.marks (by lia),mk_at h.marks hg]
      cases vs.getD (2*g) none<;>cases vs.getD (2*g+1) none<;>rfl
    · rw [if_neg hg,if_neg (fun h=>hg ((hlm g).mp h))];rfl
  rw [if_neg]
  · refine wpAny_bind (wpAny_newTuple ?_ (by simp only [List.length_cons,List.length_map,spns_len];unfold sizeLine;lia))
    unfold newFields
    refine wpAny_newObj_type ?_
    refine Post.ok (GoS.heap (tk:=s.toks) keep_push2) ?_
    have hsz:((s.heap.push { cls:=.type "tuple",data:=.seq (rawInt m.start::rawInt m.handed::(spns G vs).map rawInt).toArray }:Heap)).objs.size=s.heap.objs.size+1:=by simp [Heap.push]
    refine ⟨_,_,x,t,rawInt 0,rawInt lim,rawInt m.lastindex,.ref a,s.heap.objs.size,m.start,spns G vs,rfl,fun hb=>?_,fun hb=>?_,Heap.get?_push_size _ rfl,rfl,rfl,rfl,?_,hg,hx,hgl⟩
    · have h1:=D.lt hb;exact absurd (hsz▸h1:s.heap.objs.size+1 < s.heap.objs.size) (by lia)
    · exact absurd (D.lt hb) (Nat.lt_irrefl _)
    · refine ⟨_,Heap.get?_push_of_some _ (Heap.get?_push_size _ rfl),rfl,0,?_⟩
      rw [h.hd]
      rfl
  · intro hh
    obtain ⟨g,Z,hg2⟩:=List.any_eq_true.mp hh;clear hh
    induction h1:m.marks.getD (2*g) none with
    | none=>rw [h1] at hg2;cases hg2
    | some b=>
      induction h2:m.marks.getD (2*g+1) none with
      | none=>rw [h1,h2] at hg2;cases hg2
      | some e=>
        rw [h1,h2] at hg2
        obtain ⟨a,c⟩:=and_tt hg2
        have a:=(hlm g).mp (of_decide_eq_true a)
        exact absurd (of_decide_eq_true c) (Nat.not_lt.mpr (ho _ _ _ ((mk_at h.marks (by lia)).symm.trans h1) ((mk_at h.marks a).symm.trans h2)))
noncomputable def matO:Option (List (Option Str)×Nat)→PV
  | some q=>.mat q.1 q.2
  | none=>.none
theorem match_call {a g:Nat} {code:Array Nat} {x:PySem.Str} {t:Tok} {o:Option (List (Option Str)×Nat)} (hK:K0.In s.heap) (D:Bd F B s.heap) (hl:x.length≤lenLine) (hp:PatF a g code) (hg:g≤100) (h:EndP code g x.cps.toList o):
    wpAny (model prog w0) A (call (.builtin "re.Pattern.match") [.ref a,.str x t]) (EPs F st B s (.ok (matO o))) E s:=by
  obtain ⟨vs,sl,tg,c,z,ob,xs,n,e1,Z⟩:=id hp
  refine wpAny_call_entry slot_pmatch ⟨_,hK _ _ e1,rfl⟩ entry_pmatch ?_ (args_pmatch _ _)
  unfold Builtin.«re.Pattern.match»
  refine wpAny_bind (target_ok hp hK ?_)
  unfold reAnswer
  dsimp only
  have e3:forMatch code x.cps g 0 (min ((2 ^ 63 - 1:Int).toNat) x.cps.size) false false=forMatch code x.cps.toList.toArray g 0 x.cps.toList.length false false:=by
    rw [Array.toArray_toList,Array.length_toList,Nat.min_eq_right]
    have:x.cps.size≤1000000:=hl
    have h2:((2 ^ 63 - 1:Int)).toNat=9223372036854775807:=by decide
    lia
  rw [e3]
  rcases h with ⟨gs,e,vs,N,rfl,hN,hv,hgr,hd,hD⟩ | ⟨N,rfl,hN,hD⟩
  · refine wpAny_bind (runToEnd_ok hN hD.oc (fun Z e=>nomatch e) ?_)
    dsimp only
    refine wpAny_bind (wpAny_mono (newMatch_ok (x:=x) (F:=F) (B:=B) (st:=st) (E:=E) D hD hv hg (by rw [Array.toArray_toList] at hgr;exact hgr) hd hl (by have:=grps_len hgr;rw [spns_len] at this;lia)) (fun v s' q=>?_) fun Z Z y=>y)
    exact wpAny_pure ⟨v,rfl,q⟩
  · refine wpAny_bind (runToEnd_ok hN hD (fun Z e=>nomatch e) ?_)
    dsimp only
    refine wpAny_pure ⟨_,rfl,?_⟩
    exact Post.ok (GoS.refl F st s) rfl
theorem no_ten {l:List Nat} (hn:l.contains 10=false):(10:Nat)∉l:=fun hm=>by
  have:=List.contains_iff_mem.mpr hm
  rw [hn] at this;cases this
theorem cps_len {x:Str} (hl:x.length≤lenLine):x.cps.toList.length≤1000000:=by rw [Array.length_toList];exact hl
theorem p3_call {x:PySem.Str} {t:Tok} {r:Res PV} (hK:K0.In s.heap) (D:Bd F B s.heap) (hl:x.length≤lenLine) (h:patE x=some r):
    wpAny (model prog w0) A (call (.builtin "re.Pattern.match") [.ref 53,.str x t]) (EPs F st B s r) E s:=by
  obtain ⟨hn,h1⟩:=grd_some h;clear h
  obtain rfl:=rok_some h1
  have:=match_call (A:=A) (F:=F) (st:=st) (B:=B) (E:=E) (t:=t) hK D hl pat3_facts (by decide) (p3_end (no_ten (not_tt hn)) (cps_len hl))
  induction e:m3 x.cps.toList with
  | some gs=>
    rw [e] at this
    show wpAny (model prog w0) A _ (EPs F st B s (.ok (.mat gs x.length))) _ _
    rw [show x.length=x.cps.toList.length from (Array.length_toList).symm]
    exact this
  | none=>rw [e] at this;exact this
end
end Mine
end
section
open PySem PySem.W PySem.Calls PyProof.Rows
namespace Mine
open PySem.Sre PySem.Builtin.Re
section
variable {A:Around} {F:List Addr} {fr:List Env} {st:Bool} {B:Addr→Prop} {s:Shared} {E:PySem.Value→Shared→Prop}
noncomputable def GOne (x:ReFound) (txt:PySem.Str) (g:Nat):Option PySem.Str→Prop
  | some y=>∃ b c:Int,x.spans.getD (2*g) (-1)=b∧x.spans.getD (2*g+1) (-1)=c∧0≤b∧0≤c∧y=⟨txt.cps.extract b.toNat c.toNat⟩
  | none=>∃ b c:Int,x.spans.getD (2*g) (-1)=b∧x.spans.getD (2*g+1) (-1)=c∧(b < 0∨c < 0)
theorem grp_one {x:ReFound} {txt:PySem.Str} {t:Tok} {g:Nat} {o:Option PySem.Str} {Q:PySem.Value→Shared→Prop} (hf:x.fields.getD 0 .none=.str txt t) (hl:txt.length≤lenLine)
    (h:GOne x txt g o)
    (q:∀ v tk,s.toks≤tk→VR B s.heap (grpPV o) v→Q v { s with toks:=tk }):wpAny (model prog w0) A (reGroupText x g .none) Q E s:=by
  unfold reGroupText
  dsimp only
  induction o with
  | some y=>
    obtain ⟨b,c,h1,h2,h3,h4,rfl⟩:=h
    rw [h1,h2,if_neg (by simp;omega),hf]
    refine wpAny_bind (wpAny_of_eq (by unfold reTextOf asStr?;rfl:reTextOf (.str txt t)=pure (txt.cps,0)) ?_)
    dsimp only
    unfold reSlice
    rw [if_pos (by decide)]
    have hlen:(⟨txt.cps.extract b.toNat c.toNat⟩:PySem.Str).length≤lenLine:=by
      show (txt.cps.extract b.toNat c.toNat).size≤_
      rw [Array.size_extract]
      exact Nat.le_trans (Nat.sub_le _ _) (Nat.le_trans (Nat.min_le_right _ _) hl)
    refine wpAny_mkStr (q _ _ (Nat.le_succ _) ?_) (Nat.le_trans hlen (by decide))
    show VR B s.heap (.str _) _
    exact ⟨_,rfl,hlen⟩
  | none=>
    obtain ⟨b,c,h1,h2,h3⟩:=h
    rw [h1,h2,if_pos (by simpa using h3)]
    refine wpAny_pure ?_
    exact q .none s.toks (Nat.le_refl _) (by show VR B s.heap .none _;exact rfl)
theorem grps_mapM {x:ReFound} {txt:PySem.Str} {t:Tok} (hf:x.fields.getD 0 .none=.str txt t) (hl:txt.length≤lenLine):∀ (gs:List (Option PySem.Str)) (k:Nat) (rest:List Int) (s:Shared) (Q:List PySem.Value→Shared→Prop),grpsOk txt gs rest →
    (∀ i,x.spans.getD (2*(k+1)+i) (-1)=rest.getD i (-1))→(∀ vs tk,s.toks≤tk→VRs B s.heap (gs.map grpPV) vs→Q vs { s with toks:=tk })→wpAny (model prog w0) A ((List.range' k gs.length).mapM fun g=>reGroupText x (g+1) .none) Q E s
  | [],k,rest,s,Q,_,_,q=>by
    rw [show List.range' k ([]:List (Option PySem.Str)).length=[] from rfl,List.mapM_nil]
    exact wpAny_pure (q [] s.toks (Nat.le_refl _) (by show VRs B s.heap [] [];rfl))
  | o::gs,k,rest,s,Q,hg,hr,q=>by
    rw [List.length_cons,List.range'_succ,List.mapM_cons]
    have fin:∀ b c r,rest=b::c::r→grpsOk txt gs r→GOne x txt (k+1) o →
      wpAny (model prog w0) A (do let r ← reGroupText x (k+1) .none;let __do_lift ← (List.range' (k+1) gs.length).mapM fun g=>reGroupText x (g+1) .none;pure (r::__do_lift)) Q E s:=fun b c r e hg' ho=>by
      subst e
      refine wpAny_bind (grp_one (B:=B) hf hl ho fun v tk h1 hv=>?_)
      refine wpAny_bind (grps_mapM hf hl gs (k+1) r { s with toks:=tk } _ hg' (fun i=>?_) fun vs tk' h2 hvs=>?_)
      · have:=hr (i+2)
        rw [show 2*(k+1)+(i+2)=2*(k+1+1)+i by omega] at this
        exact this
      · refine wpAny_pure (q (v::vs) tk' (Nat.le_trans h1 h2) ?_)
        rw [List.map_cons]
        exact ⟨v,vs,rfl,hv,hvs⟩
    induction o with
    | some y=>
      obtain ⟨b,c,r,rfl,h1,h2,h3,h4⟩:=hg
      exact fin b c r rfl h4 ⟨b,c,hr 0,hr 1,h1,h2,h3⟩
    | none=>
      obtain ⟨b,c,r,rfl,h1,h2⟩:=hg
      exact fin b c r rfl h2 ⟨b,c,hr 0,hr 1,h1⟩
theorem rawOf_map:∀ (l:List Int),(l.map rawInt).toArray.map reRawOf=l.toArray:=fun l=>by
  apply Array.ext'
  simp only [List.map_toArray,List.map_map]
  exact List.map_id' l
theorem groups_call {gs:List (Option PySem.Str)} {e:Nat} {v:PySem.Value} (D:Bd F B s.heap) (h:VR B s.heap (.mat gs e) v):
    wpAny (model prog w0) A (call (.builtin "re.Match.groups") [v]) (EPs F st B s (.ok (.tup (gs.map grpPV)))) E s:=by
  obtain ⟨a,o,txt,t,p,l,li,pat,sp,b0,rest,rfl,h1,h2,h3,h4,h4',h5,h6,h7,h8,h9⟩:=h
  obtain ⟨o2,g1,g2,n,g3⟩:=h6
  refine wpAny_call_entry slot_mgroups ⟨_,h3,h4⟩ entry_mgroups ?_ (args_mgroups _)
  unfold Builtin.«re.Match.groups» reWithDefault
  dsimp only
  rw [named_d]
  have hgl:gs.length≤lenLine:=Nat.le_trans h9 (by decide)
  have hlen:=grps_len h7
  refine wpAny_bind (wpAny_bind (wpAny_pure ?_))
  dsimp only
  unfold reFound
  refine wpAny_bind (wpAny_bind (wpAny_fieldsOf h3 h5 ?_))
  unfold reRawItems
  refine wpAny_bind (wpAny_bind (wpAny_seqItems g1 g3 (wpAny_pure (wpAny_pure (wpAny_pure ?_)))))
  dsimp only
  rw [show (Option.getD (some ((b0::(e:Int)::rest).map rawInt).toArray) #[]:Array PySem.Value)=((b0::(e:Int)::rest).map rawInt).toArray from rfl,rawOf_map]
  have hn:(b0::(e:Int)::rest).toArray.size / 2 - 1=gs.length:=by simp;omega
  rw [hn,List.range_eq_range']
  refine wpAny_bind (grps_mapM (B:=B) (txt:=txt) (t:=t) rfl h8 gs 0 rest s _ h7 (fun i=>?_) fun vs tk htk hvs=>?_)
  · show (b0::(e:Int)::rest).toArray.getD (2+i) (-1)=_
    rw [Array.getD_eq_getD_getElem?,List.getElem?_toArray,Nat.add_comm,List.getElem?_cons_succ,List.getElem?_cons_succ,List.getD_eq_getElem?_getD]
  · have hvl:=hvs.length
    rw [List.length_map] at hvl
    refine wpAny_bind (wpAny_newTuple (wpAny_pure ⟨_,rfl,?_⟩) (by rw [hvl];exact Nat.le_trans hgl (by decide)))
    exact Post.ok (GoS.heap (keep_push _)) (vr_newTup D (by rw [List.length_map];exact hgl) hvs)
theorem end_call {gs:List (Option PySem.Str)} {e:Nat} {v:PySem.Value} (h:VR B s.heap (.mat gs e) v):
    wpAny (model prog w0) A (call (.builtin "re.Match.end") [v]) (EPs F st B s (.ok (.int (e:Nat)))) E s:=by
  obtain ⟨a,o,txt,t,p,l,li,pat,sp,b0,rest,rfl,h1,h2,h3,h4,h4',h5,h6,h7,h8,h9⟩:=h
  obtain ⟨o2,g1,g2,n,g3⟩:=h6
  refine wpAny_call_entry slot_mend ⟨_,h3,h4⟩ entry_mend ?_ (args_mend _)
  unfold Builtin.«re.Match.end» reOneGroup
  refine wpAny_bind (wpAny_bind (wpAny_of_eq (by kernel_rfl:selfAndSome "Match.end" "end" 0 1 ⟨[.ref a],[]⟩=pure (.ref a,[])) ?_))
  dsimp only
  unfold reFound
  refine wpAny_bind (wpAny_bind (wpAny_fieldsOf h3 h5 ?_))
  unfold reRawItems
  refine wpAny_bind (wpAny_bind (wpAny_seqItems g1 g3 (wpAny_pure (wpAny_pure (wpAny_bind (wpAny_pure (wpAny_pure ?_)))))))
  dsimp only
  rw [show (Option.getD (some ((b0::(e:Int)::rest).map rawInt).toArray) #[]:Array PySem.Value)=((b0::(e:Int)::rest).map rawInt).toArray from rfl,rawOf_map]
  show wpAny _ _ (retInt (e:Int)) _ _ _
  unfold retInt
  exact wpAny_bind (wpAny_mkInt (wpAny_pure ⟨_,rfl,ep_int fun Z Z e=>e⟩))
end
end Mine
end
section
open PySem PySem.W PySem.Calls PyProof.Rows
namespace Mine
open PySem.Sre PySem.Builtin.Re
section
variable {acc:Nat→Bool} {code:Array Nat} {l:List Nat} {n p P:Nat} {li:Int} {ls:Array Sre.Loop} {inn:Option Nat} {fs:List Sre.Frame}
noncomputable def c1:Array Nat:=#[14,4,0,1,4294967295,6,0,24,9,1,4294967295,13,4,8,10,0,1,23,32,0,1,16,46,24,9,1,4294967295,13,4,8,10,0,1,23,15,0,1,16,46,24,9,1,4294967295,13,4,8,10,0,1,18,18,1]
theorem r7:RepAt c1 7 9 isD:=⟨rfl,rfl,rfl,rfl,by decide,item_digit rfl rfl rfl rfl ⟨50,rfl⟩⟩
structure DotAt (P U:Nat):Prop where
  rpt:RptAt c1 P U
  lit:c1.getD (P+4) 0=16
  ch:c1.getD (P+5) 0=46
  rep:RepAt c1 (P+6) 9 isD
theorem d17:DotAt 17 50:=⟨⟨rfl,rfl,rfl,rfl,rfl,by decide,by decide⟩,rfl,rfl,rfl,rfl,rfl,rfl,by decide,item_digit rfl rfl rfl rfl ⟨50,rfl⟩⟩
theorem d33:DotAt 33 49:=⟨⟨rfl,rfl,rfl,rfl,rfl,by decide,by decide⟩,rfl,rfl,rfl,rfl,rfl,rfl,by decide,item_digit rfl rfl rfl rfl ⟨50,rfl⟩⟩
inductive NoDot (l:List Nat) (p:Nat):Prop
  | lit (h:l.length≤p∨l.toArray.getD p 0≠46)
  | dig (h:p < l.length) (hc:l.toArray.getD p 0=46) (hn:((l.drop (p+1)).takeWhile isD).length=0)
variable {U:Nat}
theorem dot_in (d:DotAt P U) (hw:wsum fs≤1000):Leads (MAt c1 l 0 P p [] li ls inn fs none) 2 (MAt c1 l 0 (P+4) p [] li (ls.push (lp P 0 (some p) inn)) (some ls.size) (mmF (U+1) p ls.size (kp [] li true)::clF P p ls.size::fs) none):=
  (rpt_ok d.rpt (by lia)).trans (unt_more d.rpt (by show wsum fs+1+0+1+0≤_;lia))
theorem dot_no (d:DotAt P U) (h:NoDot l p) (hl:l.length≤1000000) (hw:wsum fs≤1000) (hf:WinF fs):
    ∃ y fs',WinF fs'∧fs'.length=fs.length+2∧wsum fs'=wsum fs+2∧Leads (MAt c1 l 0 P p [] li ls inn fs none) 5 (MAt c1 l 0 (U+1) p [] li (ls.push y) inn fs' none):=by
  have hs:=d.rep.here
  refine ⟨lp P (-1) none inn,mtF (U+1) p ls.size 0 (kp [] li false)::clF P p ls.size::fs,(hf.cons (f:=clF P p ls.size) (.inr (.inr (.inr rfl)))).cons (.inr (.inr (.inl rfl))),rfl,rfl,?_⟩
  have h4:∀ pc' pos',Leads (MAt c1 l 0 pc' pos' [] li (ls.push (lp P 0 (some p) inn)) (some ls.size) (mmF (U+1) p ls.size (kp [] li true)::clF P p ls.size::fs) (some false)) 1 (MAt c1 l 0 (U+1) p [] li (ls.push (lp P (-1) none inn)) inn (mtF (U+1) p ls.size 0 (kp [] li false)::clF P p ls.size::fs) none):=fun pc' pos'=>
    mm_no (vs:=[]) (us:=[]) (U:=U+1) (Pc:=P) (p:=p) (p':=p) (ls:=ls) (inn:=inn) (li:=li) (li':=li) (fs:=clF P p ls.size::fs) (by show wsum fs+1+0+1+0≤_;lia)
  induction h with
  | lit h=>exact (((dot_in d hw).trans (lit_no d.lit (by lia) (by rw [d.ch];exact h))).trans (h4 _ _)).le (by decide)
  | dig h hc hn=>exact (((dot_in d hw).trans ((lit_yes d.lit (by lia) h (hc.trans d.ch.symm)).trans (rep_no d.rep hn hl h))).trans (h4 _ _)).le (by decide)
theorem dot_yes (d:DotAt P U) (h:p < l.length) (hc:l.toArray.getD p 0=46) (hn:((l.drop (p+1)).takeWhile isD).length=n+1) (hl:l.length≤1000000) (hw:wsum fs≤1000) (hf:WinF fs):
    ∃ fs',WinF fs'∧fs'.length=fs.length+3∧wsum fs'=wsum fs+3∧Leads (MAt c1 l 0 P p [] li ls inn fs none) 5 (MAt c1 l 0 (P+16) (p+1+(n+1)) [] li (ls.push (lp P 0 (some p) inn)) (some ls.size) fs' none):=by
  have hs:=d.rep.here
  exact ⟨_,((hf.cons (f:=clF P p ls.size) (.inr (.inr (.inr rfl)))).cons (f:=mmF (U+1) p ls.size (kp [] li true)) (.inr (.inl rfl))).cons (.inl rfl),rfl,rfl,
    (((dot_in d hw).trans (lit_yes d.lit (by lia) h (hc.trans d.ch.symm))).trans (rep_yes d.rep hn hl h (by show wsum fs+1+0+1+0+1+0≤_;lia))).le (by decide)⟩
inductive DotS (l:List Nat) (p:Nat) (f:List Nat→Nat):Prop
  | no (h:NoDot l p) (e:opt46 f (l.drop p)=0)
  | yes (n:Nat) (h:p < l.length) (hc:l.toArray.getD p 0=46) (hn:((l.drop (p+1)).takeWhile isD).length=n+1) (hle:p+1+(n+1)≤l.length) (e:opt46 f (l.drop p)=n+1+1+f (l.drop (p+1+(n+1))))
theorem dot_cases {f:List Nat→Nat}:DotS l p f:=by
  by_cases h:p < l.length
  · by_cases hc:l.toArray.getD p 0=46
    · have hd:=drop_cons h
      rw [hc] at hd
      have e:opt46 f (l.drop p)=(dig isD (l.drop (p+1)) fun a t=>some (a.length+1+f t)).getD 0:=by
        rw [hd]
        unfold opt46
        rw [sep_eq];rfl
      induction hn:((l.drop (p+1)).takeWhile isD).length with
      | zero=>
        refine .no (.dig h hc hn) ?_
        rw [e]
        unfold dig
        rw [List.eq_nil_of_length_eq_zero hn];rfl
      | succ n _=>
        have hle:=tw_le (acc:=isD) (l:=l) (q:=p+1)
        refine .yes n h hc hn (by lia) ?_
        rw [e,run_t (run_ne (by rw [hn];exact Nat.succ_pos n)),hn,List.drop_drop];rfl
    · refine .no (.lit (.inr hc)) ?_
      rw [drop_cons h]
      unfold opt46
      rw [sep_ne hc];rfl
  · refine .no (.lit (.inl (Nat.le_of_not_lt h))) ?_
    rw [List.drop_of_length_le (Nat.le_of_not_lt h)];rfl
theorem outer_end {y:Sre.Loop} {q:Nat} (hw:wsum fs≤1000) (hf:WinF fs) (hlen:fs.length≤20):
    Leads (MAt c1 l 0 50 p [] li ((ls.push (lp 17 0 (some q) inn)).push y) (some ls.size) fs none) 30 (Done 0 [] p):=by
  have hx:∀ d,((ls.push (lp 17 0 (some q) inn)).push y).getD ls.size d=lp 17 0 (some q) inn:=fun d=>by simp [Array.getD,Array.getElem_push];exact fun h=>absurd h (by lia)
  exact (((unt_tail d17.rpt hx (by lia)).trans (succ_ok (code:=c1) rfl (by decide))).trans (won_all _ (hf.cons (.inr (.inr (.inl rfl)))))).le (by simp;lia)
theorem inner_part {q:Nat} (hl:l.length≤1000000) (hw:wsum fs≤900) (hf:WinF fs) (hlen:fs.length≤10):
    Leads (MAt c1 l 0 33 p [] li (ls.push (lp 17 0 (some q) inn)) (some ls.size) fs none) 40 (Done 0 [] (p+opt46 (fun Z=>0) (l.drop p))):=by
  rcases dot_cases (l:=l) (p:=p) (f:=fun Z=>0) with ⟨h,e⟩ | ⟨n,h,hc,hn,hle,e⟩
  · obtain ⟨y,fs',f1,f2,f3,L⟩:=dot_no (li:=li) (ls:=ls.push (lp 17 0 (some q) inn)) (inn:=some ls.size) d33 h hl (by lia) hf
    rw [e]
    exact (L.trans (outer_end (by lia) f1 (by lia))).le (by decide)
  · obtain ⟨fs',f1,f2,f3,L⟩:=dot_yes (li:=li) (ls:=ls.push (lp 17 0 (some q) inn)) (inn:=some ls.size) d33 h hc hn hl (by lia) hf
    have h2:=unt_tail (l:=l) (G:=0) (p:=p+1+(n+1)) (vs:=[]) (li:=li) (ls:=(ls.push (lp 17 0 (some q) inn)).push (lp 33 0 (some p) (some ls.size))) (inn:=some ls.size) (fs:=fs') (b:=some p) (i:=(ls.push (lp 17 0 (some q) inn)).size) d33.rpt (fun Z=>getD_push) (by lia)
    have h3:=outer_end (l:=l) (p:=p+1+(n+1)) (li:=li) (ls:=ls) (inn:=inn) (q:=q) (y:=lp 33 0 (some p) (some ls.size)) (fs:=mtF 50 (p+1+(n+1)) (ls.push (lp 17 0 (some q) inn)).size 1 (kp [] li false)::fs') (by show wsum fs'+1+0≤_;lia) (f1.cons (.inr (.inr (.inl rfl)))) (by simp;lia)
    rw [e,show p+(n+1+1+0)=p+1+(n+1) by lia]
    exact ((L.trans h2).trans h3).le (by decide)
theorem p1_rest (hl:l.length≤1000000) (hw:wsum fs≤800) (hf:WinF fs) (hlen:fs.length≤5) (hi:inn=none):
    Leads (MAt c1 l 0 17 p [] li ls inn fs none) 60 (Done 0 [] (p+opt46 (opt46 fun Z=>0) (l.drop p))):=by
  rcases dot_cases (l:=l) (p:=p) (f:=opt46 fun Z=>0) with ⟨h,e⟩ | ⟨n,h,hc,hn,hle,e⟩
  · obtain ⟨y,fs',f1,f2,f3,L⟩:=dot_no (li:=li) (ls:=ls) (inn:=inn) d17 h hl (by lia) hf
    rw [e]
    exact ((L.trans (succ_ok (code:=c1) rfl (by decide))).trans (won_all _ f1)).le (by lia)
  · obtain ⟨fs',f1,f2,f3,L⟩:=dot_yes (li:=li) (ls:=ls) (inn:=inn) d17 h hc hn hl (by lia) hf
    have h3:=inner_part (l:=l) (p:=p+1+(n+1)) (li:=li) (ls:=ls) (inn:=inn) (q:=p) (fs:=fs') hl (by lia) f1 (by lia)
    rw [e,show p+(n+1+1+opt46 (fun Z=>0) (l.drop (p+1+(n+1))))=p+1+(n+1)+opt46 (fun Z=>0) (l.drop (p+1+(n+1))) by lia]
    exact (L.trans h3).le (by decide)
end
theorem start1 {l:List Nat} (h5:1≤l.length):MAt c1 l 0 5 0 [] (-1) #[] none [] none (forMatch c1 l.toArray 0 0 l.length false false):=by
  unfold forMatch
  dsimp only
  rw [if_neg]
  · exact ⟨rfl,rfl,rfl,rfl,rfl,rfl,rfl,rfl,rfl,⟨[],rfl,rfl⟩,rfl,rfl,rfl,rfl,rfl,rfl,rfl,rfl⟩
  · show ¬ (_&&decide (l.length - 0 < 1))=true
    rw [Bool.and_eq_true,decide_eq_true_eq]
    exact fun h=>Nat.not_lt.mpr h5 h.2
theorem p1_end {l:List Nat} (hl:l.length≤1000000):EndP c1 0 l ((m1 l).map fun e=>([],e)):=by
  induction l using List.casesOn with
  | nil=>exact .no 1 rfl (by decide) rfl
  | cons c r=>
    have hs:=start1 (l:=c::r) (Nat.succ_pos _)
    have hb:=begin_ok (code:=c1) (l:=c::r) (G:=0) (pc:=5) (vs:=[]) (li:=-1) (ls:=#[]) (inn:=none) (fs:=[]) rfl rfl (by decide)
    generalize c::r=l at hs hb hl ⊢
    induction e:(l.takeWhile isD).isEmpty with
    | true=>
      have hm:m1 l=none:=by unfold m1 dig;rw [e];rfl
      have h7:=rep_no (l:=l) (G:=0) (pos:=0) (vs:=[]) (li:=-1) (ls:=#[]) (inn:=none) (fs:=[]) r7 (by rw [List.drop_zero,List.isEmpty_iff.mp e];rfl) hl (Nat.zero_le _)
      obtain ⟨N,h8,h9⟩:=(hb.trans h7) _ hs
      refine .no (N+1) (by rw [hm];rfl) (by lia) (fails_end (fails_of _ h9))
    | false=>
      obtain ⟨n,hn⟩:=run_len e
      have hm:m1 l=some ((l.takeWhile isD).length+opt46 (opt46 fun Z=>0) (l.drop (l.takeWhile isD).length)):=run_t e
      have h7:=rep_yes (l:=l) (G:=0) (pos:=0) (n:=n) (vs:=[]) (li:=-1) (ls:=#[]) (inn:=none) (fs:=[]) r7 (by rw [List.drop_zero];exact hn) hl (Nat.zero_le _) (by decide)
      have h8:=p1_rest (l:=l) (p:=0+(n+1)) (li:=-1) (ls:=#[]) (inn:=none) (fs:=gb 7 (0+(n+1)) (n+1) (kp [] (-1) false)::[]) hl (Nat.le_of_ble_eq_true rfl) (WinF.cons (fun Z h=>nomatch h) (.inl rfl)) (Nat.le_of_ble_eq_true rfl) rfl
      obtain ⟨N,h9,h10⟩:=((hb.trans h7).trans h8) _ hs
      rw [hm,hn]
      rw [Nat.zero_add] at h10
      exact .yes [] _ [] N rfl (by lia) (Nat.zero_le _) rfl ord_nil h10
theorem pat1_obj:K0.lookup 43=some (q45 w0.params):=by kernel_rfl
theorem pat1_code:K0.lookup 42=some (q44 w0.params):=by kernel_rfl
theorem pat1_facts:PatF 43 0 c1:=⟨_,_,_,_,_,_,_,_,pat1_obj,rfl,rfl,rfl,pat1_code,rfl,by kernel_rfl⟩
theorem p1_call {A:Around} {F:List Addr} {st:Bool} {B:Addr→Prop} {s:Shared} {E:Value→Shared→Prop} {x:Str} {t:Tok} (hK:K0.In s.heap) (D:Bd F B s.heap) (hl:x.length≤lenLine):
    wpAny (model prog w0) A (call (.builtin "re.Pattern.match") [.ref 43,.str x t]) (EPs F st B s (.ok (mat1 (m1 x.cps.toList)))) E s:=by
  have:=match_call (A:=A) (F:=F) (st:=st) (B:=B) (E:=E) (t:=t) hK D hl pat1_facts (by decide) (p1_end (cps_len hl))
  induction e:m1 x.cps.toList with
  | some gs=>rw [e] at this;exact this
  | none=>rw [e] at this;exact this
end Mine
end
section
open PySem PySem.W
namespace Mine
open PySem.Sre PySem.Builtin.Re
noncomputable def c2:Array Nat:=#[14,15,4,1,1,21,9,0,67069952,134217726,134217726,0,0,0,0,0,13,12,21,9,0,67069952,134217726,134217726,0,0,0,0,0,1]
noncomputable def subWords:Array Nat:=#[0,67069952,134217726,134217726,0,0,0,0]
theorem subOk:((List.range 256).all fun c=>(subWords.getD (c / 32) 0).testBit (c % 32)==isS c)=true:=by decide +kernel
theorem isS_big {c:Nat} (hc:¬ c < 256):isS c=false:=by
  unfold isS
  rw [isC_big hc,beq_eq_false_iff_ne.mpr (by lia)];rfl
theorem set_neg {code:Array Nat} {c i k:Nat} {yes:Bool} {seen:Seen} (h:code.getD i 0=21):∃ s,inSet code c (k+1) i yes seen=inSet code c k (i+1) (!yes) s:=by
  refine ⟨?a,?c⟩
  case c=>
    conv=>lhs;whnf
    rw [show ops[(fun k=>code.getD (i+k) 0) 0]?=some .NEGATE from by show ops[code.getD i 0]?=_;rw [h];rfl]
theorem bad_set {c i k:Nat} {seen:Seen} (h0:c2.getD i 0=21) (h1:c2.getD (i+1) 0=9) (h2:∀ j,j < 8→c2.getD (i+1+(1+j)) 0=subWords.getD j 0) (h3:c2.getD (i+1+9) 0=0):∃ s,inSet c2 c (k+3) i true seen=.ok (!isS c,s):=by
  obtain ⟨s,e⟩:=set_neg (code:=c2) (c:=c) (i:=i) (k:=k+2) (yes:=true) (seen:=seen) h0
  obtain ⟨s1,e1⟩:=set_chr (code:=c2) (c:=c) (i:=i+1) (k:=k+1) (yes:=false) (seen:=s) h1
  rw [e]
  show ∃ s',inSet c2 c (k+1+1) (i+1) false s=_
  rw [e1,class_ok (fun Z=>isS_big) subWords subOk h2]
  induction isS c with
  | true=>exact ⟨_,rfl⟩
  | false=>exact set_end h3
noncomputable def nextBad (l:List Nat) (s:Nat):Option Nat:=if s+((l.drop s).takeWhile isS).length < l.length then some (s+((l.drop s).takeWhile isS).length) else none
theorem adm_ok {l:List Nat} {m:M} (hc:m.code=c2) (ht:m.text=l.toArray) (hl:m.lim=l.length):∀ (fuel s:Nat) (seen:Seen),l.length+1 - s≤fuel→∃ sn,M.admitted m fuel s seen=.ok (nextBad l s,sn)
  | 0,s,seen,h=>⟨seen,by unfold nextBad;rw [if_neg (by lia)];rfl⟩
  | fuel+1,s,seen,h=>by
    by_cases hs:s ≥ l.length
    · have st:M.admitted m (fuel+1) s seen=_:=if_pos (hl.symm▸hs)
      exact ⟨_,st.trans (by unfold nextBad;rw [if_neg (by lia)])⟩
    · have st:M.admitted m (fuel+1) s seen=_:=if_neg (hl.symm▸hs)
      rw [st,hc,ht]
      clear st
      obtain ⟨sn,e⟩:=bad_set (c:=l.toArray.getD s 0) (i:=5) (k:=27) (seen:=seen) rfl rfl (by decide) rfl
      rw [show inSet c2 (l.toArray.getD s 0) c2.size 5 true seen=_ from e]
      have hd:=drop_cons (l:=l) (q:=s) (by lia)
      by_cases hb:isS (l.toArray.getD s 0)=true
      · rw [hb]
        obtain ⟨sn2,e2⟩:=adm_ok hc ht hl fuel (s+1) sn (by lia)
        refine ⟨sn2,e2.trans ?_⟩
        unfold nextBad
        rw [hd,List.takeWhile_cons,if_pos hb,List.length_cons,show s+((List.takeWhile isS (l.drop (s+1))).length+1)=s+1+(List.takeWhile isS (l.drop (s+1))).length by lia]
      · rw [Bool.eq_false_iff.mpr hb]
        refine ⟨sn,?_⟩
        unfold nextBad
        rw [hd,List.takeWhile_cons,if_neg hb,if_pos (by simp;lia)]
        rfl
inductive Found (l:List Nat) (s:Nat):Option Nat→M→Prop
  | hit {b:Nat} {m:M} (ho:m.outcome=some .matched) (hs:m.start=b) (hh:m.handed=b+1):Found l s (some b) m
  | no {m:M} (ho:m.outcome=some .failed):Found l s none m
structure SAt (l:List Nat) (b pc pos hd:Nat) (fs:List Sre.Frame) (ans:Option Bool) (m:M):Prop where
  code:m.code=c2
  text:m.text=l.toArray
  lim:m.lim=l.length
  start:m.start=b
  adv:m.mustAdvance=false
  whole:m.wholeText=false
  pc:m.pc=pc
  pos:m.pos=pos
  hd:m.handed=hd
  fs:m.frames=fs
  ans:m.answer=ans
  oc:m.outcome=none
section
variable {l:List Nat} {b pc pos hd:Nat} {fs:List Sre.Frame} {f:Sre.Frame} {ans:Option Bool} {m:M}
theorem SAt.exec (h:SAt l b pc pos hd fs none m) (hp:pc < 30):m.step=m.exec:=by
  unfold M.step
  rw [h.oc,h.ans,if_neg (by simp)]
  show (if m.pc < m.code.size then m.exec else _)=_
  rw [if_pos (by rw [h.pc,h.code];exact hp)]
theorem SAt.word (h:SAt l b pc pos hd fs ans m):m.word 0=c2.getD pc 0:=by unfold M.word;rw [h.code,h.pc];rfl
theorem hit_in (h:SAt l b 16 pos hd fs none m) (hp:pos < l.length) (hb:isS (l.toArray.getD pos 0)=false):SAt l b 29 (pos+1) hd fs none m.step:=by
  rw [h.exec (by decide)]
  unfold M.exec
  rw [show ops[m.word 0]?=some .IN by rw [h.word];rfl]
  dsimp only
  rw [if_neg (by rw [h.pos,h.lim];lia),h.code,h.pc,h.text,h.pos]
  obtain ⟨sn,e⟩:=bad_set (c:=l.toArray.getD pos 0) (i:=18) (k:=27) (seen:=m.seen.add (m.word 0)) rfl rfl (by decide) rfl
  rw [hb] at e
  rw [show accepts c2 16 (l.toArray.getD pos 0) (m.seen.add (m.word 0))=.ok (true,sn) from e]
  dsimp only
  exact ⟨rfl,rfl,h.lim,h.start,h.adv,h.whole,rfl,rfl,h.hd,h.fs,h.ans,h.oc⟩
theorem hit_yes (h:SAt l b 29 pos hd fs none m):SAt l b 29 pos pos fs (some true) m.step:=by
  rw [h.exec (by decide)]
  unfold M.exec
  rw [show ops[m.word 0]?=some .SUCCESS by rw [h.word];rfl]
  dsimp only
  rw [if_neg (by rw [h.whole,h.adv];simp)]
  exact ⟨h.code,h.text,h.lim,h.start,h.adv,h.whole,h.pc,h.pos,h.pos,h.fs,rfl,h.oc⟩
theorem hit_pop (h:SAt l b pc pos hd [f] (some true) m) (hf:f.wait=.nextStart):SAt l b f.pc f.pos hd [] (some true) m.step:=by
  unfold M.step
  rw [h.oc,h.ans,h.fs,if_neg (by simp)]
  unfold M.resume
  dsimp only
  rw [hf]
  dsimp only
  rw [if_pos rfl]
  exact ⟨h.code,h.text,h.lim,h.start,h.adv,h.whole,rfl,rfl,h.hd,rfl,rfl,rfl⟩
theorem hit_out (h:SAt l b pc pos hd [] (some true) m):m.step.outcome=some .matched∧m.step.start=b∧m.step.handed=hd:=by
  unfold M.step
  rw [h.oc,h.ans,h.fs,if_neg (by simp)]
  exact ⟨rfl,h.start,h.hd⟩
theorem from_ok {s:Nat} (hc:m.code=c2) (ht:m.text=l.toArray) (hl:m.lim=l.length):∃ sn,m.attemptFrom s true=match nextBad l s with | some b=>M.attemptAt { m with mustAdvance:=false,seen:=sn } b true | none=>{ m with seen:=sn }.say false:=by
  unfold M.attemptFrom
  rw [if_neg (by unfold M.hasFirstSet;rw [hc];decide)]
  obtain ⟨sn,e⟩:=adm_ok hc ht hl (m.lim+1 - s) s m.seen (by rw [hl];lia)
  rw [e]
  refine ⟨sn,?_⟩
  induction nextBad l s with
  | none=>rfl
  | some b=>rfl
theorem nextBad_some {s:Nat} (h:nextBad l s=some b):s≤b∧b=s+((l.drop s).takeWhile isS).length∧b < l.length∧isS (l.toArray.getD b 0)=false:=by
  unfold nextBad at h
  by_cases hb:s+((l.drop s).takeWhile isS).length < l.length
  · rw [if_pos hb] at h
    obtain rfl:=Option.some.inj h
    refine ⟨by lia,rfl,hb,?_⟩
    have h1:(l.drop s).dropWhile isS=l.drop (s+((l.drop s).takeWhile isS).length):=by
      rw [← List.drop_drop]
      conv=>rhs;arg 2;rw [← List.takeWhile_append_dropWhile (p:=isS) (l:=l.drop s)]
      exact (List.drop_left ..).symm
    rw [drop_cons hb] at h1
    have:=List.head?_dropWhile_not isS (l.drop s)
    rw [h1] at this
    simpa using this
  · rw [if_neg hb] at h;cases h
theorem found {s:Nat} (hs:s≤l.length):∃ N,N≤4∧Found l s (nextBad l s) (iterM N (forSearch c2 l.toArray 0 s l.length false)):=by
  have hfail:∀ m:M,m.outcome=none→m.frames=[]→(m.say false).step.outcome=some .failed:=fun m h1 h2=>by
    unfold M.step
    rw [show (m.say false).outcome=none from h1,if_neg (by simp),show (m.say false).frames=[] from h2]
    rfl
  have key:∀ m:M,m.code=c2→m.text=l.toArray→m.lim=l.length→m.wholeText=false→m.pc=16→m.outcome=none→m.answer=none→m.frames=[]→m.weight=0→∃ N,N≤4∧Found l s (nextBad l s) (iterM N (m.attemptFrom s true)):=fun m h1 h2 h3 h4 h5 h6 h7 h8 h9=>by
    obtain ⟨sn,e⟩:=from_ok (s:=s) h1 h2 h3
    rw [e]
    induction hb:nextBad l s with
    | none=>exact ⟨1,by decide,.no (hfail _ h6 h8)⟩
    | some b=>
      obtain ⟨Z,Z,g3,g4⟩:=nextBad_some hb
      dsimp only
      unfold M.attemptAt M.attempt
      rw [if_neg (by dsimp only;rw [h9];simp)]
      refine ⟨4,Nat.le_refl _,?_⟩
      have k1:=hit_in (m:={ m with mustAdvance:=false,seen:=sn,start:=b,pos:=b,lastmark:=-1,lastindex:=-1,frames:={ wait:=.nextStart,pc:=m.pc,pos:=b,outermost:=true }::m.frames,weight:=m.weight+1+0,handed:=b,outermost:=true }) (l:=l) (b:=b) (hd:=b) ⟨h1,h2,h3,rfl,rfl,h4,h5,rfl,rfl,congrArg (List.cons _) h8,h7,h6⟩ g3 g4
      have k2:=hit_out (hit_pop (hit_yes k1) rfl)
      exact .hit k2.1 k2.2.1 k2.2.2
  unfold forSearch
  dsimp only
  by_cases h:s < l.length
  · rw [if_neg (by show ¬ (_||decide (l.length - s < 1))=true;rw [Bool.or_eq_true,decide_eq_true_eq,decide_eq_true_eq];lia)]
    exact key _ rfl rfl rfl rfl rfl rfl rfl rfl rfl
  · rw [if_pos (by show (_||decide (l.length - s < 1))=true;rw [Bool.or_eq_true,decide_eq_true_eq,decide_eq_true_eq];lia)]
    rw [show nextBad l s=none by unfold nextBad;rw [if_neg (by lia)]]
    exact ⟨1,by decide,.no (hfail _ rfl rfl)⟩
end
end Mine
end
section
open PySem PySem.W PySem.Calls PyProof.Rows
namespace Mine
open PySem.Sre PySem.Builtin.Re
theorem plain_subloop:plainId "re.Pattern.sub.loop"=true:=by decide +kernel
theorem entry_subloop:entryFor table "re.Pattern.sub.loop"=some Builtin.«re.Pattern.sub.loop»:=entryFor_of_tree (by kernel_rfl)
theorem pat2_obj:K0.lookup 48=some (q50 w0.params):=by kernel_rfl
theorem pat2_code:K0.lookup 47=some (q49 w0.params):=by kernel_rfl
theorem pat2_facts:PatF 48 0 c2:=⟨_,_,_,_,_,_,_,_,pat2_obj,rfl,rfl,rfl,pat2_code,rfl,by kernel_rfl⟩
theorem named_sub {id:String} {a b:PySem.Value}:reNamed id "sub" ["repl","string","count"] 2 [a,b] []=pure [some a,some b,none]:=by kernel_rfl
theorem str_no_call:typeLookup (.type "str") "__call__"=pure none:=by rw [typeLookup_type,builtinLookup_eq_fast];kernel_rfl
theorem sub2_app {a b:List Nat}:sub2 (a++b)=sub2 a++sub2 b:=List.map_append
theorem sub2_tw:∀ {r:List Nat},sub2 (r.takeWhile isS)=r.takeWhile isS
  | []=>rfl
  | c::r=>by
    rw [List.takeWhile_cons]
    by_cases h:isS c=true
    · rw [if_pos h]
      show (bif isS c then c else 45)::sub2 (r.takeWhile isS)=_
      rw [h,sub2_tw];rfl
    · rw [if_neg h];rfl
theorem tw_take {r:List Nat} {acc:Nat→Bool}:r.take (r.takeWhile acc).length=r.takeWhile acc:=(List.prefix_iff_eq_take.mp (List.takeWhile_prefix acc)).symm
theorem sub2_good {l:List Nat} {a:Nat}:sub2 (l.take (a+((l.drop a).takeWhile isS).length))=sub2 (l.take a)++(l.drop a).takeWhile isS:=by
  rw [List.take_add,sub2_app,tw_take,sub2_tw]
theorem sub2_one {l:List Nat} {b:Nat} (hb:b < l.length) (h:isS (l.toArray.getD b 0)=false):sub2 (l.take (b+1))=sub2 (l.take b)++[45]:=by
  rw [List.take_add,sub2_app,drop_cons hb]
  show _++[bif isS (l.toArray.getD b 0) then _ else 45]=_
  rw [h];rfl
theorem ext_take {l:List Nat} {a n:Nat} (h:a+n≤l.length):(l.toArray.extract a (a+n)).toList=(l.drop a).take n:=by
  rw [List.extract_toArray,List.extract_eq_take_drop,Nat.add_sub_cancel_left]
noncomputable def txs (ll:List (PySem.Str×Tok)):List Nat:=ll.flatMap fun p=>p.1.cps.toList
theorem join_txs:∀ ll:List (PySem.Str×Tok),(Txt.join ⟨#[]⟩ (ll.map (·.1))).cps.toList=txs ll:=by
  have h:∀ ys:List PySem.Str,(PySem.Str.join ⟨#[]⟩ ys).cps.toList=ys.flatMap fun y=>y.cps.toList:=fun ys=>by
    induction ys with
    | nil=>rfl
    | cons y r ih=>
      induction r using List.casesOn with
      | nil=>show y.cps.toList=_;simp
      | cons z r=>
        rw [List.flatMap_cons,← ih]
        show ((y.cps++#[])++_:Array Nat).toList=_
        simp
  intro ll
  show (Builtin.Str.glued _ _).cps.toList=_
  rw [StrLaws.glued_eq_join,h]
  unfold txs
  rw [List.flatMap_map]
theorem sum_txs:∀ ll:List (PySem.Str×Tok),((ll.map (·.1)).map (·.length)).sum=(txs ll).length:=fun ll=>by
  unfold txs
  rw [List.map_map,List.length_flatMap];rfl
structure SubI (s:Shared) (l:List Nat) (done:Nat) (h:Heap):Prop where
  list:∃ ll c,h.get? s.heap.objs.size=some { cls:=.type "list",data:=.seq (strValues ll).toArray c }∧txs ll=sub2 (l.take done)∧ll.length≤2*done
  keep:∀ b o,s.heap.get? b=some o→h.get? b=some o
section
variable {A:Around} {F:List Addr} {st:Bool} {B:Addr→Prop} {s:Shared} {E:PySem.Value→Shared→Prop} {l:List Nat} {h:Heap} {tk:Tok}
theorem push1 {M:Model} {a b:Nat} {y:PySem.Str} {t:Tok} {Q:Unit→Shared→Prop} (hI:SubI s l a h) (hab:a < b) (hb:b≤100000) (hy:sub2 (l.take b)=sub2 (l.take a)++y.cps.toList)
    (q:∀ h',SubI s l b h'→Q () { s with heap:=h',toks:=tk }):wpAny M A (updateSeq s.heap.objs.size (·.push (.str y t))) Q E { s with heap:=h,toks:=tk }:=by
  obtain ⟨⟨ll,c,h1,h2,h3⟩,h4⟩:=hI
  have hs:(strValues ll).toArray.size=ll.length:=by simp [strValues]
  refine wpAny_updateSeq h1 rfl (q _ ⟨⟨ll++[(y,t)],c+1,?_,?_,?_⟩,fun b o e=>?_⟩) ?_ ?_
  · rw [Heap.get?_update_self _ h1 rfl]
    simp [Obj.mapSeq,strValues]
  · unfold txs at h2 ⊢
    rw [List.flatMap_append,h2,hy];simp
  · rw [List.length_append,List.length_singleton];lia
  · refine (Heap.get?_update_other _ _ fun x=>?_).trans (h4 b o e)
    exact Nat.lt_irrefl _ (x▸Heap.lt_size e)
  · rw [hs];unfold sizeLine;lia
  · rw [Array.size_push,hs];unfold sizeLine;lia
theorem whole_ok {a g:Nat} {code:Array Nat} {x:PySem.Str} {t:Tok} {Q:ReTarget→Shared→Prop} {M:Model} (hp:PatF a g code) (hK:K0.In s.heap) (q:Q ⟨.ref a,.str x t,code,x.cps,0,g,0,x.cps.size⟩ s):
    wpAny M A (reWholeTarget (.ref a) (.str x t)) Q E s:=by
  obtain ⟨vs,sl,tg,c,z,o,xs,n,e1,h2,h5,h6,e2,hd,hx⟩:=hp
  unfold reWholeTarget
  refine wpAny_bind (wpAny_fieldsOf (hK _ _ e1) rfl ?_)
  refine wpAny_bind (wpAny_of_eq (by unfold reTextOf asStr?;rfl:reTextOf (.str x t)=pure (x.cps,0)) ?_)
  conv=>arg 3;whnf
  rw [h6]
  refine wpAny_ite_false rfl ?_
  unfold reNoCollectionInside
  rw [if_neg (by decide)]
  rw [h5,h2]
  unfold reRawItems
  refine wpAny_bind (wpAny_pure ?_)
  refine wpAny_bind (wpAny_bind (wpAny_seqItems (hK _ _ e2) hd (wpAny_pure (wpAny_pure ?_))))
  show Q _ s
  rw [show (Option.getD (some xs) #[]:Array PySem.Value)=xs from rfl,hx]
  exact q
theorem pushIf {M:Model} {a b:Nat} {x:PySem.Str} {m:Sem Fin} {Q:Fin→Shared→Prop} (hI:SubI s x.cps.toList a h) (hl:x.length≤100000) (hab:a≤b) (hb:b≤x.cps.size) (hy:sub2 (x.cps.toList.take b)=sub2 (x.cps.toList.take a)++(x.cps.toList.drop a).take (b - a))
    (q:∀ h' tk',SubI s x.cps.toList b h'→wpAny M A m Q E { s with heap:=h',toks:=tk' }):
    wpAny M A (if a < b then do let v ← reSlice x.cps 0 a b;updateSeq s.heap.objs.size fun y=>y.push v;m else m) Q E { s with heap:=h,toks:=tk }:=by
  by_cases e:a < b
  · rw [if_pos e]
    have hb':b≤100000:=Nat.le_trans hb hl
    refine wpAny_bind (wpAny_mkStr (x:=⟨x.cps.extract a b⟩) (s:={ s with heap:=h,toks:=tk }) (wpAny_bind (push1 hI e hb' ?_ fun h' hI'=>q h' _ hI')) ?_)
    · rw [hy]
      congr 1
      have:=ext_take (l:=x.cps.toList) (a:=a) (n:=b - a) (by rw [Array.length_toList];lia)
      rw [Array.toArray_toList,Nat.add_sub_cancel' hab] at this
      exact this.symm
    · show (x.cps.extract a b).size≤_
      rw [Array.size_extract];unfold sizeLine;lia
  · rw [if_neg e]
    obtain rfl:=Nat.le_antisymm hab (Nat.le_of_not_lt e)
    exact q h tk hI
noncomputable def subT (x:PySem.Str) (t:Tok):ReTarget:=⟨.ref 48,.str x t,c2,x.cps,0,0,0,x.cps.size⟩
noncomputable def subEnd (T:ReTarget) (D:Addr):Sem Fin:=do
  let joiner ← reSlice T.text T.kind 0 0
  let o ← seqItems? (.ref D)
  if (o.getD #[]).isEmpty=true then do
    let text ← pure joiner
    ret text
  else do
    let text ← call (.builtin (if T.kind==0 then "str.join" else "bytes.join")) [joiner,.ref D]
    ret text
noncomputable def subHit (x:PySem.Str) (t u:Tok) (n:Int) (D:Addr) (m:M):Sem Fin:=do
  updateSeq D fun y=>y.push (.str (PySem.Str.ofString "-") u)
  again (.builtin "re.Pattern.sub.loop" ⟨[.ref 48,.str x t,.str (PySem.Str.ofString "-") u,rawInt 0,rawInt 0,rawInt (n+1),rawInt m.handed,rawInt m.handed,.bool (m.handed==m.start),.ref D,.bool false],[]⟩)
noncomputable def subBody (x:PySem.Str) (t u:Tok) (n:Int) (done:Nat) (D:Addr):Sem Fin:=do
  let T ← reWholeTarget (.ref 48) (.str x t)
  reLiteralCannotBeTurned (.str (PySem.Str.ofString "-") u)
  let o ← reNextFound T done false
  match o with
  | some m=>if done < m.start then do let v ← reSlice T.text T.kind done m.start;updateSeq D (fun y=>y.push v);subHit x t u n D m else subHit x t u n D m
  | none=>if done < T.lim then do let v ← reSlice T.text T.kind done T.lim;updateSeq D (fun y=>y.push v);subEnd T D else subEnd T D
theorem sub_is {x:PySem.Str} {t u:Tok} {n:Int} {done:Nat} {D:Addr}:Builtin.«re.Pattern.sub.loop» ⟨[.ref 48,.str x t,.str (PySem.Str.ofString "-") u,rawInt 0,rawInt 0,rawInt n,rawInt done,rawInt done,.bool false,.ref D,.bool false],[]⟩=subBody x t u n done D:=by kernel_rfl
theorem subEnd_ok {x:PySem.Str} {t:Tok} {Q:Fin→Shared→Prop} (hl:x.length≤100000) (hI:SubI s x.cps.toList x.cps.size h) (q:∀ t' tk',Q (.done (.ret (.str ⟨(sub2 x.cps.toList).toArray⟩ t'))) { s with heap:=h,toks:=tk' }):wpAny (model prog w0) A (subEnd (subT x t) s.heap.objs.size) Q E { s with heap:=h,toks:=tk }:=by
  obtain ⟨⟨ll,c,k1,k2,k3⟩,k4⟩:=hI
  rw [List.take_of_length_le (Nat.le_of_eq Array.length_toList)] at k2
  have hlen:(txs ll).length=x.cps.size:=by rw [k2];unfold sub2;rw [List.length_map,Array.length_toList]
  unfold subEnd
  refine wpAny_bind (wpAny_mkStr (x:=⟨x.cps.extract 0 0⟩) (wpAny_bind (wpAny_seqItems k1 rfl ?_)) (by show (x.cps.extract 0 0).size≤_;rw [Array.size_extract];unfold sizeLine;lia))
  rw [show x.cps.extract 0 0=#[] by simp]
  by_cases he:((some (strValues ll).toArray).getD #[]).isEmpty=true
  · rw [if_pos he]
    refine wpAny_bind (wpAny_pure (wpAny_pure ?_))
    have e0:ll=[]:=by
      have:(strValues ll).length=0:=by simpa using he
      unfold strValues at this
      rw [List.length_map] at this
      exact List.eq_nil_of_length_eq_zero this
    rw [e0] at k2
    have:=q tk (tk+1)
    rw [← k2] at this
    exact this
  · rw [if_neg he]
    refine wpAny_bind (SC.join (l:=ll) ⟨_,k1,rfl,_,rfl⟩ rfl (joinOk_of_weight ?_ (Nat.zero_le _)) fun t' k=>wpAny_pure ?_)
    · rw [sum_txs,hlen,List.length_map]
      have:x.cps.size≤100000:=hl
      lia
    · have:=q t' k
      rw [← k2,← join_txs,Array.toArray_toList] at this
      exact this
theorem subloop_ok {x:PySem.Str} {t u:Tok} {R:Result→Shared→Prop} (hK:K0.In s.heap) (hl:x.length≤100000)
    (q:∀ t' tk' h',(∀ b o,s.heap.get? b=some o→h'.get? b=some o)→R (.ok (.ret (.str ⟨(sub2 x.cps.toList).toArray⟩ t'))) { s with heap:=h',toks:=tk' }):
    ∀ (k done:Nat) (n:Int) (h:Heap) (tk:Tok),x.cps.size - done < k→done≤x.cps.size→SubI s x.cps.toList done h →
    codeAny (model prog w0) A (.builtin "re.Pattern.sub.loop" ⟨[.ref 48,.str x t,.str (PySem.Str.ofString "-") u,rawInt 0,rawInt 0,rawInt n,rawInt done,rawInt done,.bool false,.ref s.heap.objs.size,.bool false],[]⟩) R { s with heap:=h,toks:=tk }:=by
  intro k
  induction k with
  | zero=>exact fun done n h tk hk=>absurd hk (Nat.not_lt_zero _)
  | succ k ih=>
    intro done n h tk hk hd hI
    refine codeAny_builtin entry_subloop ?_
    rw [Around.under_plainId plain_subloop _,sub_is]
    unfold subBody
    refine wpAny_bind (whole_ok pat2_facts (fun b o e=>hI.keep _ _ (hK _ _ e)) (wpAny_bind (wpAny_of_eq rfl ?_)))
    obtain ⟨N,hN,hF⟩:=found (l:=x.cps.toList) (s:=done) (by rw [Array.length_toList];exact hd)
    rw [Array.toArray_toList,Array.length_toList] at hF
    unfold reNextFound
    induction hb:nextBad x.cps.toList done with
    | some b=>
      rw [hb] at hF
      obtain ⟨g1,g2,g3,g4⟩:=nextBad_some hb
      rw [Array.length_toList] at g3
      cases hF
      refine wpAny_bind (runToEnd_ok (Nat.lt_of_le_of_lt hN (by decide)) ho (fun Z e=>nomatch e) ?_)
      dsimp only
      unfold subHit
      rw [hs,hh]
      refine pushIf (a:=done) hI hl g1 (Nat.le_of_lt g3) (by rw [g2,sub2_good,Nat.add_sub_cancel_left,tw_take]) fun h' tk' hI'=>?_
      refine wpAny_bind (push1 hI' (Nat.lt_succ_self b) (Nat.le_trans g3 hl) (by rw [sub2_one (by rw [Array.length_toList];exact g3) g4];rfl) fun h'' hI''=>wpAny_pure ⟨plainId_quiet plain_subloop _,?_⟩)
      rw [show (b+1==b)=false from beq_eq_false_iff_ne.mpr (Nat.succ_ne_self b)]
      exact ih (b+1) (n+1) h'' tk' (by clear ih hI' hI'' hI hh hs ho q hK;omega) g3 hI''
    | none=>
      rw [hb] at hF
      have g:¬ done+((x.cps.toList.drop done).takeWhile isS).length < x.cps.toList.length:=fun e=>by
        unfold nextBad at hb
        rw [if_pos e] at hb;cases hb
      cases hF
      refine wpAny_bind (runToEnd_ok (Nat.lt_of_le_of_lt hN (by decide)) ho (fun Z e=>nomatch e) ?_)
      dsimp only
      refine pushIf (a:=done) hI hl hd (Nat.le_refl _) ?_ fun h' tk' hI'=>subEnd_ok (t:=t) hl hI' fun t' tk''=>q t' tk'' h' hI'.keep
      have e:((x.cps.toList.drop done).takeWhile isS).length=x.cps.size - done:=by
        have:=tw_le (acc:=isS) (l:=x.cps.toList) (q:=done)
        have hz:x.cps.toList.length=x.cps.size:=Array.length_toList
        clear q hI ho ih
        omega
      have:=sub2_good (l:=x.cps.toList) (a:=done)
      rw [e,Nat.add_sub_cancel' hd] at this
      rw [this,← e,tw_take]
theorem sub_call {x:PySem.Str} {t u:Tok} (hK:K0.In s.heap) (hl:x.length≤100000):
    wpAny (model prog w0) A (call (.builtin "re.Pattern.sub") [.ref 48,.str (PySem.Str.ofString "-") u,.str x t]) (EPs F st B s (.ok (.str ⟨(sub2 x.cps.toList).toArray⟩))) E s:=by
  obtain ⟨vs,sl,tg,c,z,o,xs,n,e1,Z⟩:=id pat2_facts
  refine wpAny_call (codeAny_call_builtin slot_psub.plain entry_psub (slot_psub.check _ _ _ _ _ _ _ _ ⟨_,hK _ _ e1,rfl⟩ (args_psub _ _ _) ?_))
  unfold Builtin.«re.Pattern.sub» reSubstitute
  dsimp only
  rw [named_sub]
  refine wpAny_bind (wpAny_pure ?_)
  dsimp only
  refine wpAny_bind (wpAny_pure (wpAny_bind (wpAny_specialOf (typeIs_str _ _ _) str_no_call ?_)))
  rw [if_neg Bool.false_ne_true]
  refine wpAny_bind (wpAny_of_eq (by rfl:asStr? (PySem.Value.str (PySem.Str.ofString "-") u)=pure (some (PySem.Str.ofString "-"))) ?_)
  dsimp only
  refine wpAny_bind (wpAny_pure ?_)
  rw [if_neg Bool.false_ne_true]
  rw [if_pos (by decide +kernel)]
  refine wpAny_bind (wpAny_pure ?_)
  refine wpAny_bind (wpAny_holding (whole_ok pat2_facts hK ?_))
  rw [if_neg (fun e=>nomatch (show false=true from e))]
  refine wpAny_bind (wpAny_newList ?_)
  refine wpAny_pure ⟨plainId_quiet plain_subloop _,?_⟩
  refine subloop_ok hK hl (fun t' tk' h' k=>?_) (x.cps.size+1) 0 0 _ _ (Nat.lt_succ_self _) (Nat.zero_le _) ⟨⟨[],0,?_,rfl,Nat.le_refl _⟩,fun b o e=>Heap.get?_push_of_some _ e⟩
  · refine ep_str ?_ k
    have h1:(sub2 x.cps.toList).length=x.cps.size:=by unfold sub2;rw [List.length_map,Array.length_toList]
    show (sub2 x.cps.toList).toArray.size≤_
    rw [List.size_toArray,h1]
    have:x.cps.size≤100000:=hl
    unfold lenLine
    lia
  · exact Heap.get?_push_size _ rfl
theorem rx_ok:RX:=⟨fun G=>p1_call G.k,fun G Z=>sub_call G.k,fun G=>p3_call G.k,fun D h=>by cases ‹Bool›;exact end_call h;exact groups_call D h⟩
end
end Mine
end
section
open PySem PySem.W PySem.Calls PyProof.Rows
open Sem (wp)
namespace Mine
section
variable {A:Around} {E:PySem.Value→Shared→Prop} {s:Shared}
theorem next_ret {a:Addr} {g n:Nat} {gs:GenState} {P:Nat→Shared→Shared→Prop} {Y:Protocol} {Q:Option PySem.Value→Shared→Prop} (hh:A.handled=none)
    (hl:s.heap.NoLimit) (hroom:A.depth < recursionLimit) (hg:s.heap.IsGen a g) (hgs:s.gens[g]?=some gs)
    (hgo:gs.Goes (model prog w0) A.in1 (fun n s₀ r s₁=>r=.ok (.ret .none)∧P n s₀ s₁) Y n (.send .none) (s.setGen g .running))
    (hY:∀ v s₁ gs',gs'.bare=true→Y (n - 1) (s.setGen g .running) v s₁ (fun r' s''=>match n with
        | 0=>False
        | m+1=>gs'.Goes (model prog w0) A.in1 (fun n s₀ r s₁=>r=.ok (.ret .none)∧P n s₀ s₁) Y m r' s'')→Q (some v) (s₁.setGen g gs'))
    (hP:∀ s₁,P n (s.setGen g .running) s₁→∀ h',(∀ b o,s₁.heap.get? b=some o→h'.get? b=some o)→Q none { s₁.setGen g .finished with heap:=h' }):
    wpAny (model prog w0) A (pyNext (.ref a)) Q E s:=by
  unfold pyNext
  refine wpAny_bind (wpAny_attempt (wpAny_callSpecial?_slot (name:=Str.ofString "__next__") hg.typeIs slot_gen_next
    (wpAny_call_entry slot_gen_next hg.typeIs entry_gen_next ?_ (args_gen_next _))))
  show wpAny _ A.in1 (Builtin.Generator.genWake (.ref a) (.send .none)) _ _ s
  unfold Builtin.Generator.genWake
  refine wpAny_bind (wpAny_holding (wpAny_genNumber hg (wpAny_bind (wpAny_genState hgs ?_))))
  cases gs with
  | running=>exact hgo.elim
  | finished=>exact hgo.elim
  | _=>
    refine wpAny_bind (wpAny_roomToWake hl hroom ?_)
    show wpAny _ A.in1 (.resume g (.send .none) [] _) _ _ s
    refine wpAny_resumeQ hgs hgo (fun x s₁ hx=>?_) (fun v s₁ gs' hb hv=>?_)
    · obtain ⟨rfl,hp⟩:=hx
      show wpAny _ A.in1 (newExc (.type "StopIteration") []>>=_) _ _ _
      refine wpAny_bind ?_
      unfold newExc newTuple
      refine wpAny_bind (wpAny_newObj_type ?_ (by size_fits))
      refine wpAny_bind (m:=firstArgMember _ _) (wpAny_of_eq (a:=PySem.Value.none) (by first | rfl | (simp only [firstArgMember];rfl)) ?_)
      refine wpAny_newObj_type ?_ (by size_fits)
      unfold raiseNew
      refine wpAny_bind (wpAny_bind (wpAny_handled ?_))
      first | rw [show A.in1.handled=none from hh] | rw [hh]
      refine wpAny_throw ?_
      refine wpAny_bind (wpAny_isInstance (b:=true) ⟨_,Heap.get?_push_size _ rfl,rfl⟩ isSubtype_stop ?_)
      exact wpAny_pure (hP s₁ hp _ fun b o hb=>Heap.get?_push_of_some _ (Heap.get?_push_of_some _ hb))
    · exact wpAny_pure ⟨v,rfl,wpAny_pure (hY v s₁ gs' hb hv)⟩
theorem special_item {it t:Addr} {i:Nat} {items:Array PySem.Value} {x:PySem.Value} {Q:Option PySem.Value→Shared→Prop} (hit:s.heap.IsTupleIter it t i) (ht:s.heap.IsTuple t items) (hx:items[i]?=some x)
    (hQ:∀ h',h'.IsTupleIter it t (i+1)→Heap.SameBut it s.heap h'→Q (some x) { s with heap:=h' }):wpAny (model prog w0) A (callSpecial? (.ref it) (Str.ofString "__next__")) Q E s:=by
  obtain ⟨o,ho,hc,hd⟩:=id hit
  obtain ⟨ol,hol,Z,nl,hdl⟩:=ht
  refine wpAny_callSpecial?_slot (name:=Str.ofString "__next__") hit.typeIs F.slot_tuple_iterator_next (wpAny_call_entry F.slot_tuple_iterator_next hit.typeIs F.entry_tuple_iterator_next ?_ (F.args_tuple_iterator_next_1 _))
  show wpAny _ _ (field (.ref it) 0>>=_) _ _ s
  refine wpAny_bind (wpAny_field ho hd (x:=.ref t) rfl ?_)
  show wpAny _ _ (if (Value.ref t==Value.none)=true then _ else _) _ _ s
  rw [if_neg (show ¬ ((Value.ref t==Value.none)=true) from Bool.false_ne_true)]
  show wpAny _ _ (field (.ref it) 1>>=_) _ _ s
  refine wpAny_bind (wpAny_field ho hd (x:=.int i 0) rfl ?_)
  show wpAny _ _ (seqItems? (.ref t)>>=_) _ _ s
  refine wpAny_bind (wpAny_seqItems hol hdl ?_)
  conv=>arg 3;whnf
  rw [Int.toNat_natCast,hx]
  show wpAny _ _ (setField _ _ _>>=_) _ _ _
  refine wpAny_bind (wpAny_setField ho hd (by simp) (wpAny_pure ⟨x,rfl,hQ _ ?_ (Heap.SameBut.update ..)⟩))
  exact ⟨_,Heap.get?_update_self _ ho (Obj.isFreed_of_fields (Obj.data_mapFields hd _)),(Obj.cls_mapFields ..).trans hc,by
    rw [Obj.data_mapFields hd];simp [rawInt]⟩
theorem special_end {it t:Addr} {i:Nat} {items:Array PySem.Value} {Q:Option PySem.Value→Shared→Prop} (hh:A.handled=none) (hit:s.heap.IsTupleIter it t i) (ht:s.heap.IsTuple t items) (hx:items[i]?=none)
    (hE:∀ h' e o vs,Heap.ExtBut it s.heap h'→h'.get? e=some o→o.cls=.type "StopIteration"→o.data=.fields vs→vs[5]?=some .none→E (.ref e) { s with heap:=h' }):wpAny (model prog w0) A (callSpecial? (.ref it) (Str.ofString "__next__")) Q E s:=by
  obtain ⟨o,ho,hc,hd⟩:=id hit
  obtain ⟨ol,hol,Z,nl,hdl⟩:=ht
  refine wpAny_callSpecial?_slot (name:=Str.ofString "__next__") hit.typeIs F.slot_tuple_iterator_next (wpAny_call_entry F.slot_tuple_iterator_next hit.typeIs F.entry_tuple_iterator_next ?_ (F.args_tuple_iterator_next_1 _))
  show wpAny _ _ (field (.ref it) 0>>=_) _ _ s
  refine wpAny_bind (wpAny_field ho hd (x:=.ref t) rfl ?_)
  show wpAny _ _ (if (Value.ref t==Value.none)=true then _ else _) _ _ s
  rw [if_neg (show ¬ ((Value.ref t==Value.none)=true) from Bool.false_ne_true)]
  show wpAny _ _ (field (.ref it) 1>>=_) _ _ s
  refine wpAny_bind (wpAny_field ho hd (x:=.int i 0) rfl ?_)
  show wpAny _ _ (seqItems? (.ref t)>>=_) _ _ s
  refine wpAny_bind (wpAny_seqItems hol hdl ?_)
  conv=>arg 3;whnf
  rw [Int.toNat_natCast,hx]
  show wpAny _ _ (rule _>>=_) _ _ _
  refine wpAny_bind (wpAny_rule (wpAny_bind (wpAny_setField ho hd (by simp) ?_)))
  show wpAny _ _ (newExc (.type "StopIteration") []>>=_) _ _ _
  refine wpAny_bind ?_
  unfold newExc newTuple
  refine wpAny_bind (wpAny_newObj_type ?_ (by size_fits))
  refine wpAny_bind (m:=firstArgMember _ _) (wpAny_of_eq (a:=PySem.Value.none) (by first | rfl | (simp only [firstArgMember];rfl)) ?_)
  refine wpAny_newObj_type ?_ (by size_fits)
  unfold raiseNew
  refine wpAny_bind (wpAny_handled ?_)
  first | rw [show A.in1.handled=none from hh] | rw [hh]
  refine wpAny_bind (wpAny_pure (wpAny_throw ?_))
  exact hE _ _ _ _ (((Heap.SameBut.update ..).extBut.push _).push _) (Heap.get?_push_size _ rfl) rfl rfl rfl
end
section
variable {A:Around} {s:Shared}
theorem own_iter {Q:PySem.Value→Shared→Prop} {E:PySem.Value→Shared→Prop} {x C f:Addr} {ox:Obj} {od:Option Obj} (X:K0.In s.heap) (I:InstAt s.heap x ox C od) (hs:findIn K0 (.ref C) "__iter__"=some (some (.ref f))) (hf:isFn K0 (.ref f)=true)
    (h:wpAny (model prog w0) A (call (.ref f) [.ref x]) (fun it s'=>wpAny (model prog w0) A (specialOf it "__next__") (fun r s₂=>match r with
      | none=>False
      | some _=>Q it s₂) E s') E s):wpAny (model prog w0) A (pyIter (.ref x)) Q E s:=by
  have fin:wpAny (model prog w0) A (call (.ref f) [.ref x]>>=fun v=>pure (some v)) (fun r s'=>∃ v,r=some v∧wpAny (model prog w0) A (specialOf v "__next__") (fun r s₂=>match r with
      | none=>False
      | some _=>Q v s₂) E s') E s:=
    wpAny_bind (wpAny_mono h (fun v s' h'=>wpAny_pure ⟨v,rfl,h'⟩) fun Z Z z=>z)
  have one:∀ refuse:Sem PySem.Value,wpAny (model prog w0) A (callSpecialIfBoundUnlessNone? (.ref x) "__iter__" refuse) (fun r s'=>∃ v,r=some v∧wpAny (model prog w0) A (specialOf v "__next__") (fun r s₂=>match r with
      | none=>False
      | some _=>Q v s₂) E s') E s:=by
    intro refuse
    unfold callSpecialIfBoundUnlessNone? bindSpecialIfBound?
    refine wpAny_holding (wpAny_bind (wpAny_bind (wpAny_bind (I.type.here ((looks_findIn X hs).here ?_)))))
    refine wpAny_bind (wpAny_askSetting (wpAny_ite ?_))
    have fin2:wpAny (model prog w0) A (if (Value.ref f==Value.none)=true then (refuse>>=fun v=>pure (some v)) else (call (.ref f) [.ref x]>>=fun v=>pure (some v))) (fun r s'=>∃ v,r=some v∧wpAny (model prog w0) A (specialOf v "__next__") (fun r s₂=>match r with
      | none=>False
      | some _=>Q v s₂) E s') E s:=by
      rw [if_neg (show ¬ ((Value.ref f==Value.none)=true) from Bool.false_ne_true)]
      exact fin
    split
    · exact wpAny_bind ((bind_fn X _ (beq_iff_eq.mp hf)).here (wpAny_pure (by exact fin2)))
    · exact wpAny_tryCatch (wpAny_bind ((bind_fn X _ (beq_iff_eq.mp hf)).here (wpAny_pure (by exact fin2))))
  unfold pyIter
  refine wpAny_bind (wpAny_bind (I.type.here ((looks_findIn X hs).here ?_)))
  show wpAny (model prog w0) A (callSpecialIfBoundUnlessNone? (.ref x) "__iter__" _>>=_) Q E s
  refine wpAny_bind (wpAny_mono (one _) (fun r s' hr=>?_) fun Z Z z=>z)
  obtain ⟨v,rfl,hv⟩:=hr
  refine wpAny_bind (wpAny_mono hv (fun r s₂ hr=>?_) fun Z Z z=>z)
  induction r with
  | none=>exact hr.elim
  | some g=>exact wpAny_pure hr
end
end Mine
end
section
open PySem PySem.W PySem.Calls PyProof.Rows
open Sem (wp)
namespace Mine
theorem entry_yf:entryFor table "proto.yield_from"=some Builtin.«proto.yield_from»:=entryFor_of_tree (by kernel_rfl)
theorem ti_no_close:typeLookup (.type "tuple_iterator") "close"=pure none:=by rw [typeLookup_type,builtinLookup_eq_fast];kernel_rfl
theorem sub_stop:isSubtype (.type "StopIteration") (.type "StopIteration")=pure true:=by rw [isSubtype_type];kernel_rfl
noncomputable def ItHolds (σ i:Nat) (vs:List PySem.Value) (h:Heap):Prop:=h.IsTuple σ vs.toArray∧h.IsTupleIter (σ+1) σ i
noncomputable def Since (σ:Nat) (s₀ s₁:Shared):Prop:=∃ h tk,s₁={ s₀ with heap:=h,toks:=tk }∧s₀.toks≤tk∧∀ b o,b≠σ+1→s₀.heap.get? b=some o→h.get? b=some o
noncomputable def YF (N₀:Nat) (vs:List PySem.Value):Protocol:=fun m s₀ v s₁ kap=>∃ σ,N₀≤σ∧vs[4 - m]?=some v∧Since σ s₀ s₁∧ItHolds σ (5 - m) vs s₁.heap∧∀ s'',ItHolds σ (5 - m) vs s''.heap→kap (.send .none) s''
noncomputable def PF (N₀:Nat) (n:Nat) (s₀ s₁:Shared):Prop:=n=0∧∃ σ,N₀≤σ∧Since σ s₀ s₁
noncomputable def RF (N₀:Nat):GenEnd:=fun n s₀ r s₁=>r=.ok (.ret .none)∧PF N₀ n s₀ s₁
theorem Since.refl {σ:Nat} {s:Shared}:Since σ s s:=⟨s.heap,s.toks,rfl,Nat.le_refl _,fun Z Z Z e=>e⟩
theorem Since.trans {σ:Nat} {s s' s'':Shared} (x:Since σ s s') (y:Since σ s' s''):Since σ s s'':=by
  obtain ⟨h,tk,rfl,l,k⟩:=x
  obtain ⟨h',tk',rfl,l',k'⟩:=y
  exact ⟨h',tk',rfl,Nat.le_trans l l',fun b o hb e=>k' b o hb (k b o hb e)⟩
section
variable {A:Around} {N₀ σ:Nat} {vs:List PySem.Value} {s s₀:Shared} {fs:List PySem.Frame}
noncomputable abbrev yfCode (σ:Nat):Code:=.builtin "proto.yield_from" ⟨[.ref (σ+1),.bool false,.none],[]⟩
theorem den_builtin {id:String} {args:Args} {b:Builtin} (hb:entryFor table id=some b):(model prog w0).den (.builtin id args)=b args:=by
  show (match entryFor table id with | some b=>b args | none=>unsupported ((withoutEnding? id "#data").getD id))=_
  rw [hb]
theorem den_yf:(model prog w0).den (yfCode σ)=Builtin.«proto.yield_from» ⟨[.ref (σ+1),.bool false,.none],[]⟩:=den_builtin entry_yf
theorem yf_run (hσ:N₀≤σ) (hvs:vs.length=5) (hh:∀ c,(A.over c fs).handled=none) (hfs:splitAtGen fs=none) (hfg:fs.any Frame.guarded=false)
    (hend:∀ s₀ s,Since σ s₀ s→Seg (model prog w0) A (RF N₀) (YF N₀ vs) 0 s₀ (yfCode σ) (leafOf (.ok (.ret .none))) fs s):
    ∀ (n i:Nat),i+n=5→∀ s₀ s,ItHolds σ i vs s.heap→Since σ s₀ s→Seg (model prog w0) A (RF N₀) (YF N₀ vs) n s₀ (yfCode σ) ((model prog w0).den (yfCode σ)) fs s:=by
  intro n
  induction n with
  | zero=>
    intro i hi s₀ s hit hs
    have hi5:i=5:=by lia
    subst hi5
    rw [den_yf]
    unfold Builtin.«proto.yield_from»
    dsimp only
    refine seg_bind (wpAny_pure ?_)
    refine seg_bind (wpAny_attempt (wpAny_holding ?_))
    rw [if_neg (by simp),if_pos rfl]
    refine wpAny_bind (wpAny_rule (wpAny_bind (special_end (items:=vs.toArray) (i:=5) (hh _) hit.2 hit.1 (by simp [hvs]) fun h' e o fl hx he hc hd h5=>?_)))
    dsimp only
    have hT:∀ s':Shared,s'.heap=h'→s'.TypeIs (.ref e) "StopIteration":=fun s' q=>⟨o,by rw [q];exact he,hc⟩
    have h1:∀ (A':Around) (s':Shared) (Q:Bool→Shared→Prop) (E:PySem.Value→Shared→Prop),s'.heap=h'→Q true s'→wpAny (model prog w0) A' (Builtin.Generator.endsTheTurnAsAValue false (.ref e)) Q E s':=fun A' s' Q E q hq=>by
      unfold Builtin.Generator.endsTheTurnAsAValue Builtin.Generator.isStopAndMetaclass
      refine wpAny_bind (wpAny_bind (wpAny_typeOf (hT s' q) ?_))
      dsimp only
      refine wpAny_bind (wpAny_of_eq sub_stop ?_)
      refine wpAny_bind (wpAny_of_eq (a:=PySem.Value.type "type") rfl (wpAny_pure ?_))
      dsimp only
      rw [if_neg (by simp)]
      exact wpAny_pure hq
    refine seg_bind (h1 _ _ _ _ rfl ?_)
    rw [if_pos rfl,if_neg (by simp)]
    refine seg_rule ?_
    refine seg_bind (wpAny_pure ?_)
    refine seg_bind (wpAny_field (s:={ s with heap:=h' }) he hd h5 ?_)
    refine hend s₀ _ (hs.trans ⟨h',s.toks,rfl,Nat.le_refl _,hx⟩)
  | succ n ih=>
    intro i hi s₀ s hit hs
    have hlt:i < vs.toArray.size:=by simp [hvs];lia
    rw [den_yf]
    unfold Builtin.«proto.yield_from»
    dsimp only
    refine seg_bind (wpAny_pure ?_)
    refine seg_bind (wpAny_attempt (wpAny_holding ?_))
    rw [if_neg (by simp),if_pos rfl]
    refine wpAny_bind (wpAny_rule (wpAny_bind (special_item (items:=vs.toArray) (i:=i) (x:=vs.toArray[i]) hit.2 hit.1 (by rw [Array.getElem?_eq_getElem hlt]) fun h' hit' hx=>?_)))
    refine wpAny_pure ?_
    dsimp only
    refine seg_bind (wpAny_typeOf (s:={ s with heap:=h' }) hit'.typeIs ?_)
    dsimp only
    refine seg_bind (wpAny_of_eq ti_no_close ?_)
    have hsl:∀ (b:Bool) (A':Around) (s':Shared) (Q:Unit→Shared→Prop) (E:PySem.Value→Shared→Prop),s'.heap.IsTupleIter (σ+1) σ (i+1)→Q () s'→wpAny (model prog w0) A' (Builtin.Generator.sleptOver (.ref (σ+1)) b) Q E s':=fun b A' s' Q E q hq=>by
      obtain ⟨o,ho,hc,Z⟩:=q
      unfold Builtin.Generator.sleptOver
      refine wpAny_bind (wpAny_load ho ?_)
      rw [hc,if_pos (by decide)]
      exact wpAny_pure hq
    refine seg_bind (wpAny_pure ?_)
    refine seg_bind (hsl true _ _ _ _ hit' ?_)
    show Seg _ _ _ _ _ _ _ (Sem.yield _ _ _ _) _ _
    refine seg_yield hfs rfl hfg ?_
    have e4:4 - n=i:=by lia
    have e5:5 - n=i+1:=by lia
    refine ⟨σ,hσ,?_,hs.trans ⟨h',s.toks,rfl,Nat.le_refl _,fun b o hb e=>(hx.2 b hb).trans e⟩,?_,fun s'' hs''=>?_⟩
    · rw [e4,← List.getElem?_toArray,Array.getElem?_eq_getElem hlt]
    · rw [e5]
      exact ⟨hit.1.extBut hx.extBut (Nat.ne_of_lt (Nat.lt_succ_self σ)),hit'⟩
    · rw [e5] at hs''
      show Seg _ _ _ _ _ _ _ (Builtin.Generator.sleptOver (.ref (σ+1)) false>>=_) _ _
      refine seg_bind (hsl false _ _ _ _ hs''.2 ?_)
      refine seg_bind (wpAny_pure ?_)
      refine seg_again (Code.quiet_builtin _ (by decide +kernel)) ?_
      exact ih (i+1) (by lia) s'' s'' hs'' Since.refl
end
end Mine
end
section
open PySem PySem.W PySem.Calls PyProof.Rows
open Sem (wp)
namespace Mine
section
variable {A:Around} {E:PySem.Value→Shared→Prop} {N₀:Nat} {vs:List PySem.Value} {s s₀:Shared} {env:Env} {nm:PySem.Str} {x C L:Addr} {ox:Obj} {es:List DictEntry} {n:Nat} {m:PySem.Str→Option PySem.Value}
structure Reads5 (C x:Addr) (ox:Obj) (es:List DictEntry) (n:Nat) (nm:PySem.Str) (L:Addr) (m:PySem.Str→Option PySem.Value) (h:Heap):Prop where
  k:K0.In h
  inst:InstAt h x ox C (some (dictOf es n))
  ns:h.Ns L m
  me:m nm=some (.ref x)
theorem attr_step {a:PySem.Str} {v:PySem.Value} {p q:Pos} {Q:PySem.Value→Shared→Prop} (r:Reads5 C x ox es n nm env.locals m s.heap) (hk:env.scope.kind=.function) (hl:env.kindOf nm=some .local) (hdb:(nm==Str.ofString "__debug__")=false)
    (hd:dataIn K0 C a=true) (hv:lookIn a (dictOf es n)=some (some v)) (hh:handedIn v=true) (h:Q v { s with toks:=s.toks+1 }):
    wpAny (model prog w0) A (eval (.Attribute (.Name nm p) a q) env) Q E s:=by
  rw [arm_eval_Attribute,base_ok rfl]
  refine wpAny_bind (wpAny_Name (wpAny_loadName_local hk hl r.ns r.me ?_) hdb)
  obtain ⟨u,f⟩:=find_data hd hv;clear hd hv
  exact wpAny_bind (wpAny_standAt (wpAny_bind (wpAny_holding (get_value r.k r.inst (usual_of u).1 f hh (wpAny_bind (wpAny_letTemporaryGo (wpAny_pure h)))))))
inductive FiveA (C:Addr) (es:List DictEntry) (n:Nat) (nm:PySem.Str):List PySem.Expr→List PySem.Value→Prop where
  | nil:FiveA C es n nm [] []
  | cons {p q:Pos} {a:PySem.Str} {v:PySem.Value} {l vs} (hd:dataIn K0 C a=true) (hv:lookIn a (dictOf es n)=some (some v)) (hh:handedIn v=true) (r:FiveA C es n nm l vs):FiveA C es n nm (.Attribute (.Name nm p) a q::l) (v::vs)
theorem five_step {pos:Pos} (hk:env.scope.kind=.function) (hl:env.kindOf nm=some .local) (hdb:(nm==Str.ofString "__debug__")=false) {l:List PySem.Expr} (f:FiveA C es n nm l vs):∀ {s:Shared} {Q:List PySem.Value→Shared→Prop},Reads5 C x ox es n nm env.locals m s.heap →
    (∀ tk,s.toks≤tk→Q vs { s with toks:=tk })→wpAny (model prog w0) A (spliced (backTo pos (starEach l env))) Q E s:=by
  induction f with
  | nil=>intro s Q _ h;exact wpAny_items_nil (h s.toks (Nat.le_refl _))
  | cons hd hv hh _ ih=>
    intro s Q r h
    exact wpAny_items_cons (attr_step r hk hl hdb hd hv hh (ih (s:={ s with toks:=s.toks+1 }) r fun tk htk=>h tk (Nat.le_of_succ_le htk)))
theorem over_handled {c c':Code} {k:Result→Sem Fin} {g:Bool} {l kp:List PySem.Value} {p:Pos} (hh:A.handled=none):(A.over c' [.ret k none g l c p kp]).handled=none:=by
  show (marksOver [_] (A.handled,A.handled)).1=none
  rw [hh];rfl
theorem body_seg {kx:_} {tp yp pos:Pos} {attrs:List PySem.Expr} (hh:A.handled=none) (hvs:vs.length=5) (hk:env.scope.kind=.function) (hl:env.kindOf nm=some .local) (hdb:(nm==Str.ofString "__debug__")=false) (hi:interactive env=false)
    (f:FiveA C es n nm attrs vs) (r:Reads5 C x ox es n nm env.locals m s.heap) (hN:N₀≤s.heap.objs.size):
    Seg (model prog w0) A (RF N₀) (YF N₀ vs) 5 s (.func [.Expr (.YieldFrom (.Tuple attrs kx tp) yp) pos] env) ((model prog w0).den (.func [.Expr (.YieldFrom (.Tuple attrs kx tp) yp) pos] env)) [] s:=by
  refine seg_func (seg_execs_cons ?_)
  rw [exec_Expr env _ pos hi rfl]
  show Seg _ A _ _ _ _ _ (.at pos fun Z=>((eval (.Tuple attrs kx tp) env>>=fun v=>(standAt yp>>=fun Z=>yieldFrom env v))>>=fun x=>
    dropValue (.YieldFrom (.Tuple attrs kx tp) yp) pos x).wrap _ _ _ _) [] s
  refine seg_at ?_
  rw [Sem.bind_eq_wrap',Sem.bind_eq_wrap',Sem.wrap_wrap,Sem.wrap_wrap]
  refine seg_wrap (wpAny_Tuple_spliced (five_step hk hl hdb f r fun tk htk=>⟨by rw [hvs];decide,?_⟩))
  refine seg_at ?_
  have hT:({ s with toks:=tk,heap:=s.heap.push { cls:=.type "tuple",data:=.seq vs.toArray } }:Shared).TypeIs (.ref s.heap.objs.size) "tuple":=⟨_,Heap.get?_push_size _ rfl,rfl⟩
  show Seg _ A _ _ _ _ _ ((typeOf (.ref s.heap.objs.size)>>=fun t=>if (t==PySem.Value.type "coroutine")=true then _ else (holding [.ref s.heap.objs.size] (pyIter (.ref s.heap.objs.size))>>=fun it=>runValue (.builtin "proto.yield_from" ⟨[it,.bool false,.none],[]⟩))).wrap _ _ _ _) [] _
  rw [Sem.bind_eq_wrap',Sem.wrap_wrap]
  refine seg_wrap (wpAny_typeOf hT ?_)
  show Seg _ A _ _ _ _ _ ((holding [.ref s.heap.objs.size] (pyIter (.ref s.heap.objs.size))>>=fun it=>runValue (.builtin "proto.yield_from" ⟨[it,.bool false,.none],[]⟩)).wrap _ _ _ _) [] _
  rw [Sem.bind_eq_wrap',Sem.wrap_wrap]
  refine seg_wrap (wpAny_holding (wpAny_pyIter_tuple (s:={ s with toks:=tk,heap:=s.heap.push { cls:=.type "tuple",data:=.seq vs.toArray } }) ⟨_,Heap.get?_push_size _ rfl,rfl,_,rfl⟩ ?_))
  show Seg _ A _ _ _ _ _ (.call _ none false _ _) [] _
  refine seg_call fun p=>?_
  have hsz:(s.heap.push { cls:=.type "tuple",data:=.seq vs.toArray }).objs.size=s.heap.objs.size+1:=by rw [Heap.size_push]
  dsimp only
  rw [hsz]
  refine yf_run (σ:=s.heap.objs.size) hN hvs (fun c=>over_handled hh) rfl rfl (fun s₀ s' hs=>?_) 5 0 rfl s _ ⟨⟨_,Heap.get?_push_of_some _ (Heap.get?_push_size _ rfl),rfl,_,rfl⟩,⟨_,by rw [← hsz];exact Heap.get?_push_size _ rfl,rfl,rfl⟩⟩
    ⟨_,tk,rfl,htk,fun b o Z e=>Heap.get?_push_of_some _ (Heap.get?_push_of_some _ e)⟩
  refine seg_leaf (.ok (.ret .none)) ?_
  exact seg_end (.ok (.ret .none)) ⟨rfl,rfl,s.heap.objs.size,hN,hs⟩
end
end Mine
end
section
open PySem PySem.W PySem.Calls PyProof.Rows
open Sem (wp)
namespace Mine
section
variable {A:Around} {R:Result→Shared→Prop} {N₀ g:Nat} {a S:Addr} {vs:List PySem.Value} {gens₀:Array GenState} {os₀:OsState} {hb:Heap}
noncomputable def LI (A:Around) (N₀ g:Nat) (S:Addr) (vs:List PySem.Value) (i:Nat) (s:Shared):Prop:=
  ∃ (gs:GenState) (C:Heap→Prop),s.gens[g]?=some gs∧gs.bare=true∧C s.heap∧(∀ h h':Heap,C h→(∀ b,b≠S→h'.get? b=h.get? b)→C h') ∧
    ∀ s'':Shared,C s''.heap→gs.Goes (model prog w0) A.in1.in1 (RF N₀) (YF N₀ vs) (5 - i) (.send .none) s''
theorem noLimit_but {h h':Heap} (x:h.NoLimit) (k:∀ o,h.get? cStatics=some o→h'.get? cStatics=some o):h'.NoLimit:=
  let ⟨mc,hns,hnn⟩:=x;⟨mc,hns.at' k,hnn⟩
theorem ext_loop (hh:A.handled=none) (hroom:A.depth < recursionLimit) (hvs:vs.length=5) (res:PySem.Value) (hN:hb.objs.size=N₀) (hl:hb.NoLimit) (hcS:cStatics≠S) (hgen:hb.IsGen a g) (haS:a≠S) (hS:S < N₀)
    (hR:∀ (s':Shared) c',(∀ b o,b≠S→hb.get? b=some o→s'.heap.get? b=some o)→GenOnlyQ g gens₀ s'.gens→s'.os=os₀→s'.heap.get? S=some { cls:=.type "list",dict:=none,data:=.seq vs.toArray c',slots:=#[] }→R (.ok (.ret res)) s'):
    ∀ (k i:Nat) (s:Shared) (c:Nat),i+k=5→LI A N₀ g S vs i s→(∀ b o,b≠S→hb.get? b=some o→s.heap.get? b=some o)→GenOnlyQ g gens₀ s.gens→s.os=os₀ →
      s.heap.get? S=some { cls:=.type "list",dict:=none,data:=.seq (vs.take i).toArray c,slots:=#[] }→codeAny (model prog w0) A (.builtin "list.extend.loop" ⟨[.ref S,.ref a,res],[]⟩) R s:=by
  have n1:∀ {σ:Nat},N₀≤σ→S≠σ+1:=fun h=>Nat.ne_of_lt (Nat.lt_of_lt_of_le hS (Nat.le_succ_of_le h))
  have n0:∀ {σ:Nat},N₀≤σ→S≠σ:=fun h=>Nat.ne_of_lt (Nat.lt_of_lt_of_le hS h)
  have out:∀ {σ:Nat} {o:Obj},N₀≤σ→hb.get? (σ+1)=some o→False:=fun h e=>Nat.lt_irrefl _ (Nat.lt_of_lt_of_le (hN▸Heap.lt_size e) (Nat.le_succ_of_le h))
  intro k
  induction k with
  | zero=>
    intro i s c hi li keep hgq hos hs
    have e5:i=5:=by lia
    subst e5
    obtain ⟨gs,C,h1,h2,h3,h4,h5⟩:=li
    refine codeAny_builtin F.entry_extend_loop ?_
    rw [Around.under_plainId F.plain_extend_loop _]
    show wpAny _ A.in1 (pyNext (.ref a)>>=_) _ _ s
    refine wpAny_bind (next_ret (A:=A.in1) (n:=0) hh (noLimit_but hl fun o e=>keep _ _ hcS e) hroom (let ⟨o,nm,qn,ho,r⟩:=hgen;⟨o,nm,qn,keep _ _ haS ho,r⟩) h1 (h5 (s.setGen g .running) h3) (fun v s₁ gs' hb' hv=>?_) fun s₁ hp h' hk=>?_)
    · obtain ⟨σ,Z,Z,Z,hit,hkap⟩:=hv
      exact (hkap s₁ hit).elim
    · obtain ⟨Z,σ,hσ,h₁,tk,rfl,Z,hk1⟩:=hp
      refine wpAny_pure (hR _ c (fun b o hbS e=>hk _ _ (hk1 b o (fun e'=>?_) (keep b o hbS e))) (hgq.trans (GenOnlyQ.of ((GenOnly.setGen s g .running).trans (GenOnly.setGen _ g .finished)) (setGen_self (gs:=.running) (setGen_self h1)) rfl)) hos (hk _ _ (hk1 S _ (n1 hσ) ?_)))
      · subst e';exact out hσ e
      · refine hs.trans ?_;rw [List.take_of_length_le (by lia)]
  | succ k ih=>
    intro i s c hi li keep hgq hos hs
    obtain ⟨gs,C,h1,h2,h3,h4,h5⟩:=li
    refine codeAny_builtin F.entry_extend_loop ?_
    rw [Around.under_plainId F.plain_extend_loop _]
    show wpAny _ A.in1 (pyNext (.ref a)>>=_) _ _ s
    have e5:5 - i=k+1:=by lia
    have h5':=h5 (s.setGen g .running) h3
    rw [e5] at h5'
    refine wpAny_bind (next_ret (A:=A.in1) (n:=k+1) hh (noLimit_but hl fun o e=>keep _ _ hcS e) hroom (let ⟨o,nm,qn,ho,r⟩:=hgen;⟨o,nm,qn,keep _ _ haS ho,r⟩) h1 h5' (fun v s₁ gs' hb' hv=>?_) fun s₁ hp h' hk=>?_)
    · obtain ⟨σ,hσ,hvi,⟨h₁,tk,rfl,Z,hk1⟩,hit,hkap⟩:=hv
      rw [Nat.add_sub_cancel] at hvi hit hkap
      have ei:4 - k=i:=by lia
      have e5':5 - k=i+1:=by lia
      rw [ei] at hvi
      rw [e5'] at hit hkap
      have hS1:h₁.get? S=some { cls:=.type "list",dict:=none,data:=.seq (vs.take i).toArray c,slots:=#[] }:=hk1 S _ (n1 hσ) hs
      show wpAny _ A.in1 (updateSeq S (·.push v)>>=_) _ _ _
      refine wpAny_bind ?_
      have hsz:(vs.take i).toArray.size≤5:=by simp;lia
      have hp:(vs.take i).toArray.push v=(vs.take (i+1)).toArray:=by
        apply Array.ext'
        rw [List.take_succ,hvi]
        simp
      have hnew:∃ c',(h₁.update S (Obj.mapSeq (·.push v))).get? S=some { cls:=.type "list",dict:=none,data:=.seq (vs.take (i+1)).toArray c',slots:=#[] }:=
        ⟨_,by rw [← hp];exact Heap.get?_update_self (Obj.mapSeq (·.push v)) hS1 rfl⟩
      obtain ⟨c',hnew⟩:=hnew
      refine wpAny_updateSeq hS1 rfl (wpAny_pure ⟨plainId_quiet F.plain_extend_loop _,ih (i+1) _ c' (by lia) ⟨gs',fun h=>ItHolds σ (i+1) vs h,setGen_self (gs:=.running) (setGen_self h1),hb',?_,fun h h' hc he=>?_,fun s'' hc=>?_⟩ (fun b o hbS e=>?_) (hgq.trans (GenOnlyQ.of ((GenOnly.setGen s g .running).trans (GenOnly.setGen _ g gs')) (setGen_self (gs:=.running) (setGen_self h1)) hb')) hos hnew⟩) (by show (vs.take i).toArray.size≤_;exact Nat.le_trans hsz (by decide)) (by show ((vs.take i).toArray.push v).size≤_;rw [Array.size_push];exact Nat.le_trans (Nat.succ_le_succ hsz) (by decide))
      · obtain ⟨⟨o1,q1,q2⟩,o2,q3,q4⟩:=hit
        exact ⟨⟨o1,(Heap.get?_update_other _ _ (n0 hσ)).trans q1,q2⟩,o2,(Heap.get?_update_other _ _ (n1 hσ)).trans q3,q4⟩
      · obtain ⟨⟨o1,q1,q2⟩,o2,q3,q4⟩:=hc
        exact ⟨⟨o1,(he _ (Ne.symm (n0 hσ))).trans q1,q2⟩,o2,(he _ (Ne.symm (n1 hσ))).trans q3,q4⟩
      · have:=hkap s'' hc
        rw [show 5 - (i+1)=k by lia]
        exact this
      · refine (Heap.get?_update_other _ _ (Ne.symm hbS)).trans (hk1 b o (fun e'=>?_) (keep b o hbS e))
        subst e';exact out hσ e
    · exact absurd hp.1 (Nat.succ_ne_zero k)
end
end Mine
end
section
open PySem PySem.W PySem.Calls PyProof.Rows
open Sem (wp)
namespace Mine
inductive AttrsR (nm:Str):List Str→List Expr→Prop
  | nil:AttrsR nm [] []
  | cons {p q m ms es} (r:AttrsR nm ms es):AttrsR nm (m::ms) (.Attribute (.Name nm p) m q::es)
structure IterC (D f:Addr) (fd:FuncData) (nm:Str):Prop where
  co:fd.scope.isCoroutine=false
  gen:fd.scope.isGenerator=true
  code:codeIn K0 fd.code fd.qualname=true
  clo:fd.closure=[]
  kind:fd.scope.kind=.function
  dfl:fd.defaults=.none
  nocell:∀ p∈fd.scope.names,p.2≠.cell
  fn:isFn K0 (.ref f)=true
  loc:fd.scope.names.lookup nm=some .local
  dbg:(nm==Str.ofString "__debug__")=false
  data:∀ a∈partNs,dataIn K0 D a=true
  nolen:findIn K0 (.ref D) (Str.ofString "__len__")=some none
  nohint:findIn K0 (.ref D) (Str.ofString "__length_hint__")=some none
  yf:yfOk nm (kYf fd.body)=true
structure IterF (D f:Addr) (fd:FuncData) (nm:Str) (attrs:List Expr) (kx:Nat) (tp yp pos:Pos):Prop extends IterC D f fd nm where
  look:∃ oc od sl,K0.lookup f=some ⟨oc,od,.func fd,sl⟩
  ps:paramsOf fd.params=some [nm]
  body:fd.body=.stmts [.Expr (.YieldFrom (.Tuple attrs kx tp) yp) pos]
  attrs:AttrsR nm partNs attrs
theorem isAttr_of {self m:Str} {e:Expr} (h:isAttr self m e=true):∃ p q,e=.Attribute (.Name self p) m q:=by
  unfold isAttr at h
  induction e1:atK (kindE e) with
  | none=>rw [e1] at h;exact nof h
  | some v=>
    rw [e1] at h
    obtain ⟨h1,h2⟩:=and_tt h;clear h
    obtain ⟨q,hq⟩:=v.h
    induction e2:nmK (kindE v.o) with
    | none=>rw [e2] at h2;exact nof h2
    | some u=>
      rw [e2] at h2
      obtain ⟨p,hp⟩:=u.h
      exact ⟨p,q,by rw [hq,hp,eq_of_beq h1,eq_of_beq h2]⟩
theorem attrs_of {self:Str}:∀ {ms:List Str} {es:List Expr},attrs self ms es=true→AttrsR self ms es
  | [],es,h=>by rw [List.isEmpty_iff.mp h];exact .nil
  | m::ms,es,h=>by
    induction es using List.casesOn with
    | nil=>exact nof h
    | cons e r=>
      obtain ⟨h1,h2⟩:=and_tt (show (isAttr self m e&&attrs self ms r)=true from h);clear h
      obtain ⟨p,q,rfl⟩:=isAttr_of h1;clear h1
      exact .cons (attrs_of h2)
theorem yf_of {b:FuncBody} {self:Str}:yfOk self (kYf b)=true→∃ es kx tp yp pos,b=.stmts [.Expr (.YieldFrom (.Tuple es kx tp) yp) pos]∧AttrsR self partNs es:=
  match b,kYf b with
  | _,.mk es kx tp yp pos=>fun h=>⟨es,kx,tp,yp,pos,rfl,attrs_of h⟩
  | _,.other _=>fun h=>nof h
theorem iter_fd {D f:Addr} {fd:FuncData} {nm:Str} (h:iterFd K0 D f fd [nm]=true):IterC D f fd nm:=by
  obtain ⟨h1,n2⟩:=and_tt h;clear h
  obtain ⟨h2,n1⟩:=and_tt h1;clear h1
  obtain ⟨h3,da⟩:=and_tt h2;clear h2
  obtain ⟨h4,yf⟩:=and_tt h3;clear h3
  obtain ⟨h5,lo⟩:=and_tt h4;clear h4
  obtain ⟨h6,fn⟩:=and_tt h5;clear h5
  obtain ⟨h7,nc⟩:=and_tt h6;clear h6
  obtain ⟨h8,df⟩:=and_tt h7;clear h7
  obtain ⟨h9,ki⟩:=and_tt h8;clear h8
  obtain ⟨h10,cl⟩:=and_tt h9;clear h9
  obtain ⟨h11,Z⟩:=and_tt h10;clear h10
  obtain ⟨h12,Z⟩:=and_tt h11;clear h11
  obtain ⟨h13,co⟩:=and_tt h12;clear h12
  obtain ⟨h14,ge⟩:=and_tt h13;clear h13
  exact { co:=not_tt h14,gen:=ge,code:=co,clo:=List.isEmpty_iff.mp cl,kind:=by simpa using ki,dfl:=by simpa using df,nocell:=fun p hp=>by simpa using List.all_eq_true.mp nc p hp,fn:=fn,
          loc:=beq_iff_eq.mp (and_tt lo).1,dbg:=not_tt (and_tt lo).2,data:=fun a ha=>List.all_eq_true.mp da a ha,nolen:=by simpa using n1,nohint:=by simpa using n2,yf:=yf }
theorem bind_one {x:Str} {v:Value}:bindPV [x] [] [v] []=some [(x,v)]:=by
  have hl:List.lookup x [(x,v)]=some v:=by rw [List.lookup_cons,beq_self_eq_true]
  refine akb (a:=[(x,v)]) rfl (grb ?_ ?_)
  · show (true&&(List.filter (fun n=>(List.lookup n [(x,v)]).isNone) [x]).isEmpty)=true
    rw [List.filter_cons,hl];rfl
  · show some (List.filterMap (fun n=>(List.lookup n [(x,v)]).map (n,·)) [x])=_
    rw [List.filterMap_cons,hl];rfl
theorem funOf_some {K:Frag} {f:Addr} {fd:FuncData} (h:funOf K f=some fd):∃ oc od sl,K.lookup f=some ⟨oc,od,.func fd,sl⟩:=by
  obtain ⟨⟨oc,od,d,sl⟩,e,h1⟩:=ask_some h;clear h
  obtain rfl:=fdOf_of h1
  exact ⟨_,_,_,e⟩
theorem iter_facts {D f:Addr} (h:iterOk K0 D f=true):∃ fd nm attrs kx tp yp pos,IterF D f fd nm attrs kx tp yp pos:=by
  unfold iterOk at h
  induction e1:funOf K0 f with
  | none=>rw [e1] at h;exact nof h
  | some fd=>
    rw [e1] at h
    have h:(match paramsOf fd.params with | some ps=>iterFd K0 D f fd ps | none=>false)=true:=h
    induction e2:paramsOf fd.params with
    | none=>rw [e2] at h;exact nof h
    | some ps=>
      rw [e2] at h
      have h:iterFd K0 D f fd ps=true:=h
      rcases ps with Z | ⟨nm,Z | ⟨Z,Z⟩⟩
      · exact nof h
      · have hc:=iter_fd h
        obtain ⟨es,kx,tp,yp,pos,hb,ha⟩:=yf_of hc.yf
        exact ⟨fd,nm,es,kx,tp,yp,pos,hc,funOf_some e1,e2,hb,ha⟩
      · exact nof h
section
variable {A:Around} {R:Result→Shared→Prop} {S x D d f:Addr} {ox:Obj} {es:List DictEntry} {n:Nat} {fd:FuncData} {nm:PySem.Str} {attrs:List PySem.Expr} {kx:Nat} {tp yp pos:Pos} {vs:List PySem.Value} {s:Shared}
theorem inst_but {h h':Heap} (I:InstAt h x ox D (some (dictOf es n))) (k1:∀ o,h.get? x=some o→h'.get? x=some o) (k2:∀ dx o,ox.dict=some dx→h.get? dx=some o→h'.get? dx=some o):InstAt h' x ox D (some (dictOf es n)):=
  ⟨k1 _ I.at_,I.cls,I.no,by
    have:=I.dict
    induction e:ox.dict with
    | some dx=>rw [e] at this;exact k2 _ _ e this
    | none=>rw [e] at this;exact this.elim⟩
theorem inst_keeps {h h':Heap} (I:InstAt h x ox D (some (dictOf es n))) (k:∀ b o,h.get? b=some o→h'.get? b=some o):InstAt h' x ox D (some (dictOf es n)):=inst_but I (k _) fun Z Z Z=>k _ _
theorem core_extend (hh:A.handled=none) (hroom:A.depth+10 < recursionLimit) (F:IterF D f fd nm attrs kx tp yp pos) (hf:findIn K0 (.ref D) "__iter__"=some (some (.ref f))) (hvs:vs.length=5) (five:FiveA D es n nm attrs vs)
    (X:K0.In s.heap) (I:InstAt s.heap x ox D (some (dictOf es n))) (hl:s.heap.NoLimit) (hKS:K0.lookup S=none) (hxS:x≠S) (hdS:∀ dx,ox.dict=some dx→dx≠S) (hcS:cStatics≠S) (res:PySem.Value) {c₀:Nat}
    (hS:s.heap.get? S=some { cls:=.type "list",data:=.seq #[] c₀ })
    (hR:∀ (s':Shared) c',(∀ b o,b≠S→s.heap.get? b=some o→s'.heap.get? b=some o)→(∃ gs,GenOnlyQ s.gens.size (s.gens.push (.fresh gs)) s'.gens)→s'.os=s.os→s'.heap.get? S=some { cls:=.type "list",dict:=none,data:=.seq vs.toArray c',slots:=#[] }→R (.ok (.ret res)) s'):
    wpAny (model prog w0) A.in1 (Builtin.List.listExtendWith (.ref S) (.ref x) res)
      (fun fin s'=>match fin with | .done f=>R (.ok f) s' | .again c'=>c'.quiet=true∧codeAny (model prog w0) A c' R s') (fun e s'=>R (.error e) s') s:=by
  obtain ⟨oc,od,sl,hlook⟩:=F.look
  have hSx:S≠x:=Ne.symm hxS
  have hSlt:S < s.heap.objs.size:=Heap.lt_size hS
  unfold Builtin.List.listExtendWith
  refine wpAny_bind (I.type.here ?_)
  have h1:Builtin.List.listSameRef (.ref S) (.ref x)=false:=by simp [Builtin.List.listSameRef,hSx]
  refine wpAny_ite_false (by rw [h1];rfl) ?_
  refine wpAny_bind (own_iter X I hf F.fn ?_)
  have hb1:BindsTo s fd ⟨[.ref x],[]⟩ [(nm,.ref x)]:=bind_ok (ds:=[]) (o:=none) F.ps (by rw [F.dfl];intro M A Q E s' k q;exact wpAny_pure q) rfl bind_one
  refine wpAny_call (codeAny_call_generator (by show A.depth < _;lia) (X _ _ hlook) rfl F.co F.gen F.body (codeRec_of X F.code) ?_)
  refine hb1 _ _ _ _ ?_
  rw [F.clo]
  refine wpAny_newFunctionEnv F.nocell (fun y hy=>by rw [List.mem_singleton] at hy;subst hy;exact F.loc) (fun h' hns hsb=>?_) F.kind
  have k1:∀ b o,s.heap.get? b=some o→h'.get? b=some o:=fun b o e=>hsb.extBut b o (Nat.ne_of_lt (Heap.lt_size e)) (Heap.get?_push_of_some _ e)
  refine ⟨hl.keeps k1,?_⟩
  have hsz:h'.objs.size=s.heap.objs.size+1:=by rw [hsb.1,Heap.size_push]
  dsimp only
  generalize hh3:(h'.push { cls:=.type "generator",data:=.fields #[.int s.gens.size 0,.str fd.name (s.toks+[(nm,PySem.Value.ref x)].length),.str fd.qualname (s.toks+[(nm,PySem.Value.ref x)].length+1)] }:Heap)=h₃
  have k3:∀ b o,h'.get? b=some o→h₃.get? b=some o:=fun b o e=>by rw [← hh3];exact Heap.get?_push_of_some _ e
  have k:∀ b o,s.heap.get? b=some o→h₃.get? b=some o:=fun b o e=>k3 _ _ (k1 _ _ e)
  have hgen:h₃.IsGen h'.objs.size s.gens.size:=by rw [← hh3];exact ⟨_,_,_,Heap.get?_push_size _ rfl,rfl,rfl,rfl⟩
  have hsz3:h₃.objs.size=h'.objs.size+1:=by rw [← hh3,Heap.size_push]
  have X₃:=X.keeps k
  have I₃:InstAt h₃ x ox D (some (dictOf es n)):=inst_keeps I k
  refine wpAny_specialOf (s:={ s with gens:=s.gens.push (.fresh _),toks:=_,heap:=h₃ }) hgen.typeIs slot_gen_next.lookup ?_
  dsimp only
  refine wpAny_bind (wpAny_holding ?_)
  unfold Builtin.List.listLengthHint
  refine wpAny_bind (wpAny_bind (I₃.type.here ((looks_findIn X₃ F.nolen).here ?_)))
  show wpAny _ A.in1 (specialOf (Value.ref x) (Str.ofString "__length_hint__")>>=_) _ _ _
  refine wpAny_bind (wpAny_bind (I₃.type.here ((looks_findIn X₃ F.nohint).here ?_)))
  refine wpAny_pure ?_
  show wpAny _ A.in1 (rule "list.extend.makes-room">>=fun Z=>Builtin.List.listTouch (.ref S)>>=fun Z=>
    again (.builtin "list.extend.loop" ⟨[.ref S,.ref h'.objs.size,res],[]⟩)) _ _ _
  refine wpAny_bind (wpAny_rule ?_)
  refine wpAny_bind ?_
  show wpAny _ A.in1 (updateSeq S (·.push .none)>>=fun Z=>updateSeq S (·.pop)) _ _ _
  have hS1:h₃.get? S=some { cls:=.type "list",data:=.seq #[] c₀ }:=k _ _ hS
  refine wpAny_bind (wpAny_updateSeq hS1 rfl ?_)
  have hS2:=Heap.get?_update_self (Obj.mapSeq (·.push Value.none)) hS1 rfl
  refine wpAny_updateSeq (hz:=by seq_fits) hS2 rfl ?_
  have hS3:=Heap.get?_update_self (Obj.mapSeq (·.pop)) hS2 rfl
  have oth:∀ b,b≠S→((h₃.update S (Obj.mapSeq (·.push Value.none))).update S (Obj.mapSeq (·.pop))).get? b=h₃.get? b:=
    fun b hb=>(Heap.get?_update_other _ _ (Ne.symm hb)).trans (Heap.get?_update_other _ _ (Ne.symm hb))
  have aS:h'.objs.size≠S:=by rw [hsz];exact (Nat.ne_of_lt (Nat.lt_succ_of_lt hSlt)).symm
  have LS:S≠s.heap.objs.size:=Nat.ne_of_lt hSlt
  refine wpAny_pure ⟨plainId_quiet PySem.F.plain_extend_loop _,ext_loop (N₀:=h₃.objs.size) (hb:=h₃) (g:=s.gens.size) (vs:=vs) (gens₀:=s.gens.push (.fresh _)) (os₀:=s.os) hh (by lia) hvs res rfl (hl.keeps k) hcS hgen aS (by rw [hsz3,hsz];exact Nat.lt_succ_of_lt (Nat.lt_succ_of_lt hSlt))
    (fun s' c' h1 h2 h3 h4=>hR s' c' (fun b o hb e=>h1 b o hb (k b o e)) ⟨_,h2⟩ h3 h4) 5 0 _ _ rfl ?_ (fun b o hb e=>(oth b hb).trans e) (.inl rfl) rfl hS3⟩
  refine ⟨_,fun h=>Reads5 D x ox es n nm s.heap.objs.size (fun y=>[(nm,PySem.Value.ref x)].reverse.lookup y) h∧∃ o,h.get? h'.objs.size=some o,Array.getElem?_push_size ..,rfl,?_,fun h h'' hc he=>?_,fun s'' hc=>?_⟩
  · obtain ⟨oa,Z,Z,hoa,Z⟩:=hgen
    refine ⟨⟨fun b o e=>(oth b fun e'=>?_).trans (X₃ b o e),inst_but I₃ (fun o e=>(oth _ hxS).trans e) (fun dx o hd e=>(oth _ (hdS dx hd)).trans e),(hns.keeps k3).at' fun o e=>(oth _ (Ne.symm LS)).trans e,?_⟩,oa,(oth _ aS).trans hoa⟩
    · rw [e',hKS] at e;cases e
    · simp
  · obtain ⟨⟨r1,r2,r3,r4⟩,oa,hoa⟩:=hc
    refine ⟨⟨fun b o e=>(he b fun e'=>?_).trans (r1 b o e),inst_but r2 (fun o e=>(he _ hxS).trans e) (fun dx o hd e=>(he _ (hdS dx hd)).trans e),r3.at' fun o e=>(he _ (Ne.symm LS)).trans e,r4⟩,oa,(he _ aS).trans hoa⟩
    rw [e',hKS] at e;cases e
  · obtain ⟨r,oa,hoa⟩:=hc
    exact ⟨rfl,body_seg (A:=A.in1.in1) hh hvs F.kind (by unfold Env.kindOf newEnv;simp [F.loc]) F.dbg (by simp [interactive,newEnv,F.kind]) five r (by rw [hsz3];exact Heap.lt_size hoa)⟩
end
end Mine
end
section
open PySem PySem.W PySem.Calls PyProof.Rows
open Sem (wp)
namespace Mine
section
variable {A:Around} {E:PySem.Value→Shared→Prop} {S x D d f:Addr} {ox:Obj} {es:List DictEntry} {n:Nat} {fd:FuncData} {nm:PySem.Str} {attrs:List PySem.Expr} {kx:Nat} {tp yp pos:Pos} {vs:List PySem.Value} {s:Shared}
noncomputable def Grew (S:Addr) (s s':Shared):Prop:=(∀ b o,b≠S→s.heap.get? b=some o→s'.heap.get? b=some o)∧(∃ gs,GenOnlyQ s.gens.size (s.gens.push (.fresh gs)) s'.gens)∧s'.os=s.os
structure InstF (D f x:Addr) (ox:Obj) (es:List DictEntry) (n:Nat) (fd:FuncData) (nm:PySem.Str) (attrs:List PySem.Expr) (kx:Nat) (tp yp pos:Pos) (vs:List PySem.Value) (h:Heap):Prop where
  F:IterF D f fd nm attrs kx tp yp pos
  it:findIn K0 (.ref D) "__iter__"=some (some (.ref f))
  len:vs.length=5
  five:FiveA D es n nm attrs vs
  k:K0.In h
  inst:InstAt h x ox D (some (dictOf es n))
  lim:h.NoLimit
theorem InstF.keeps {h h':Heap} (i:InstF D f x ox es n fd nm attrs kx tp yp pos vs h) (k:∀ b o,h.get? b=some o→h'.get? b=some o):InstF D f x ox es n fd nm attrs kx tp yp pos vs h':=
  ⟨i.F,i.it,i.len,i.five,i.k.keeps k,inst_keeps i.inst k,i.lim.keeps k⟩
theorem extend_new {R:Result→Shared→Prop} (hh:A.handled=none) (hroom:A.depth+10 < recursionLimit) {h₀:Heap} (i:InstF D f x ox es n fd nm attrs kx tp yp pos vs h₀) (hk:∀ b o,h₀.get? b=some o→s.heap.get? b=some o) (hSn:h₀.get? S=none) (res:PySem.Value) {c₀:Nat}
    (hS:s.heap.get? S=some { cls:=.type "list",data:=.seq #[] c₀ })
    (hR:∀ (s':Shared) c',Grew S s s'→s'.heap.get? S=some { cls:=.type "list",dict:=none,data:=.seq vs.toArray c',slots:=#[] }→R (.ok (.ret res)) s'):
    wpAny (model prog w0) A.in1 (Builtin.List.listExtendWith (.ref S) (.ref x) res)
      (fun fin s'=>match fin with | .done f=>R (.ok f) s' | .again c'=>c'.quiet=true∧codeAny (model prog w0) A c' R s') (fun e s'=>R (.error e) s') s:=by
  have i':=i.keeps hk
  refine core_extend hh hroom i.F i.it i.len i.five i'.k i'.inst i'.lim ?_ ?_ ?_ ?_ res hS fun s' c' h1 h2 h3 h4=>hR s' c' ⟨h1,h2,h3⟩ h4
  · induction e:K0.lookup S with
    | none=>rfl
    | some o=>have:=i.k _ _ e;rw [hSn] at this;cases this
  · intro e;have:=i.inst.at_;rw [e,hSn] at this;cases this
  · intro dx hd e
    have:=i.inst.dict
    rw [hd,e] at this
    have this:h₀.get? S=some (dictOf es n):=this
    rw [hSn] at this
    cases this
  · intro e
    obtain ⟨mc,⟨o,es',ep,ho,Z⟩,Z⟩:=i.lim
    rw [e,hSn] at ho;cases ho
set_option backward.match.sparseCases true in
theorem collect_inst {Q:List PySem.Value→Shared→Prop} (hh:A.handled=none) (hroom:A.depth+10 < recursionLimit) (i:InstF D f x ox es n fd nm attrs kx tp yp pos vs s.heap)
    (hQ:∀ s',Grew s.heap.objs.size s s'→Q vs s'):wpAny (model prog w0) A (collect (.ref x)) Q E s:=by
  unfold collect
  refine wpAny_bind (wpAny_runValue (codeAny_builtin PySem.F.entry_proto_collect ?_))
  rw [Around.under_plainId PySem.F.plain_proto_collect _]
  show wpAny _ A.in1 (newList []>>=fun l=>again (.builtin "list.__iadd__" ⟨[l,.ref x],[]⟩)) _ _ s
  refine wpAny_bind (wpAny_newObj_type ?_)
  refine wpAny_pure ⟨plainId_quiet PySem.F.plain_list_iadd _,codeAny_builtin PySem.F.entry_list_iadd ?_⟩
  rw [Around.under_plainId PySem.F.plain_list_iadd _]
  show wpAny _ A.in1 (Builtin.List.listExtendWith (.ref s.heap.objs.size) (.ref x) (.ref s.heap.objs.size)) _ _ _
  have hn:s.heap.get? s.heap.objs.size=none:=by
    induction e:s.heap.get? s.heap.objs.size with
    | none=>rfl
    | some o=>exact absurd (Heap.lt_size e) (Nat.lt_irrefl _)
  refine extend_new (R:=fun r s'=>match r with
    | .ok (.ret v)=>wpAny (model prog w0) A (match v with
      | .ref a=>do match (← load a).data with | .seq xs _=>pure xs.toList | _=>unsupported "internal:collect"
      | _=>unsupported "internal:collect") Q E s'
    | .ok _=>False
    | .error e=>E e s') (S:=s.heap.objs.size) (s:={ s with heap:=s.heap.push { cls:=.type "list",data:=.seq ([]:List PySem.Value).toArray } }) (c₀:=0) hh hroom i (fun b o e=>Heap.get?_push_of_some _ e) hn _ (Heap.get?_push_size _ rfl) fun s' c' hg hS=>?_
  show wpAny _ A (load s.heap.objs.size>>=_) _ _ s'
  refine wpAny_bind (wpAny_load hS ?_)
  refine wpAny_pure (hQ s' ⟨fun b o hb e=>hg.1 b o hb (Heap.get?_push_of_some _ e),hg.2⟩)
theorem call_list_inst {Q:PySem.Value→Shared→Prop} (hh:A.handled=none) (hroom:A.depth+20 < recursionLimit) (i:InstF D f x ox es n fd nm attrs kx tp yp pos vs s.heap)
    (hQ:∀ s' c',Grew s.heap.objs.size s s'→s'.heap.get? s.heap.objs.size=some { cls:=.type "list",dict:=none,data:=.seq vs.toArray c',slots:=#[] }→Q (.ref s.heap.objs.size) s'):wpAny (model prog w0) A (call (.type "list") [.ref x]) Q E s:=by
  have hn:s.heap.get? s.heap.objs.size=none:=by
    induction e:s.heap.get? s.heap.objs.size with
    | none=>rfl
    | some o=>exact absurd (Heap.lt_size e) (Nat.lt_irrefl _)
  refine callType_codes (Q₁:=fun obj s₁=>obj=.ref s.heap.objs.size∧s₁={ s with heap:=s.heap.push { cls:=.type "list",data:=.seq #[] } }) PySem.F.called_list (PySem.F.typeCall_list_1 _) PySem.F.entry_list_init
    (code_list_new _ ⟨rfl,rfl⟩) fun obj s₁ h₁=>?_
  obtain ⟨rfl,rfl⟩:=h₁
  have hS:(s.heap.push { cls:=.type "list",data:=.seq #[] }).get? s.heap.objs.size=some { cls:=.type "list",data:=.seq #[] }:=Heap.get?_push_size _ rfl
  refine ⟨⟨_,hS,rfl⟩,PySem.F.args_list_init_2 _ _,?_⟩
  show wpAny _ A.in1.in1 (do let old ← Builtin.List.listItems (.ref s.heap.objs.size);Builtin.List.listUpdate (.ref s.heap.objs.size) (fun Z=>#[]);letGo old.toList.reverse;Builtin.List.listExtendWith (.ref s.heap.objs.size) (.ref x) .none) _ _ _
  refine wpAny_bind ?_
  unfold Builtin.List.listItems
  refine wpAny_bind (wpAny_seqItems hS rfl (wpAny_pure ?_))
  show wpAny _ A.in1.in1 (updateSeq s.heap.objs.size (fun Z=>#[])>>=fun Z=>letGo (#[]:Array PySem.Value).toList.reverse>>=fun Z=>Builtin.List.listExtendWith (.ref s.heap.objs.size) (.ref x) .none) _ _ _
  refine wpAny_bind (wpAny_updateSeq hS rfl ?_)
  have hS2:=Heap.get?_update_self (Obj.mapSeq (fun Z=>(#[]:Array PySem.Value))) hS rfl
  have oth:∀ b o,b≠s.heap.objs.size→s.heap.get? b=some o→((s.heap.push { cls:=.type "list",data:=.seq #[] }).update s.heap.objs.size (Obj.mapSeq (fun Z=>(#[]:Array PySem.Value)))).get? b=some o:=
    fun b o hb e=>(Heap.get?_update_other _ _ (Ne.symm hb)).trans (Heap.get?_push_of_some _ e)
  refine wpAny_bind (wpAny_letGo ?_)
  exact extend_new (A:=A.in1) (R:=wants (fun r s₂=>r=.none∧Q (.ref s.heap.objs.size) s₂) E) (S:=s.heap.objs.size) hh (by show A.depth+10 < _;lia) i (fun b o e=>oth b o (Nat.ne_of_lt (Heap.lt_size e)) e) hn _ hS2
    fun s' c' hg hS'=>⟨rfl,hQ s' c' ⟨fun b o hb e=>hg.1 b o hb (oth b o hb e),hg.2⟩ hS'⟩
end
end Mine
end
section
open PySem PySem.W PySem.Calls PyProof.Rows
open Sem (wp)
namespace Mine
section
variable {A:Around} {F:List Addr} {B:Addr→Prop} {s s':Shared} {D:Addr} {fs:List (PySem.Str×PV)} {r:Res PV} {v:PySem.Value}
theorem Grew.go {S:Addr} {s₀:Shared} (g:Grew S s s') (k:∀ b o,s₀.heap.get? b=some o→s.heap.get? b=some o∧b≠S) (hg:s.gens=s₀.gens) (ho:s.os=s₀.os) {h:Heap} (hh:∀ b o,s'.heap.get? b=some o→h.get? b=some o):Go F s₀ { s' with heap:=h }:=by
  obtain ⟨h1,⟨gs,h2⟩,h3⟩:=g
  have kk:∀ b o,s₀.heap.get? b=some o→h.get? b=some o:=fun b o e=>hh _ _ (h1 b o (k b o e).2 (k b o e).1)
  refine ⟨Ext.of_keeps kk,fun t=>t.of_keeps kk,h3.trans ho,fun i x e=>?_,fun b=>?_⟩
  · show s'.gens[i]?=some x
    rw [← hg] at e
    have hi:i < s.gens.size:=(Array.getElem?_eq_some_iff.mp e).1
    have hp:(s.gens.push (.fresh gs))[i]?=some x:=by rw [Array.getElem?_push_lt hi,← e,Array.getElem?_eq_getElem hi]
    rcases h2 with e2 | ⟨⟨Z,ho⟩,Z⟩
    · rw [e2];exact hp
    · rw [ho i (Nat.ne_of_lt hi)];exact hp
  · show AllBare s'.gens
    rw [← hg] at b
    exact h2.bare (AllBare.push b rfl)
theorem five_of {h:Heap} {nm:Str} {es:List DictEntry} {n:Nat} (hv:VRf B h fs es) {ms:List Str} {as:List Expr} (r:AttrsR nm ms as):∀ {l:List PV},(∀ a∈ms,dataIn K0 D a=true)→iterV fs ms=some l→∃ vs,FiveA D es n nm as vs∧VRs B h l vs∧l.length=ms.length:=by
  induction r with
  | nil=>intro l _ e;obtain rfl:=Option.some.inj e;exact ⟨[],.nil,rfl,rfl⟩
  | @cons p q m ms es' r ih=>
    intro l hd e
    obtain ⟨a,h1,e⟩:=ask_some (show ask (fs.lookup m) (fun a=>grd (handedPV a) (ask (iterV fs ms) fun l=>some (a::l)))=some _ from e)
    obtain ⟨h2,e⟩:=grd_some e
    obtain ⟨l',h3,e⟩:=ask_some e
    obtain rfl:=Option.some.inj e
    obtain ⟨v,x,y⟩:=look_some (n:=n) hv h1
    obtain ⟨vs,f,q,hl⟩:=ih (fun a ha=>hd a (.tail _ ha)) h3
    exact ⟨v::vs,.cons (hd m (.head _)) x (vr_handed y h2) f,⟨v,vs,rfl,y,q⟩,congrArg (·+1) hl⟩
theorem inst_F (G:GI F s.heap) (h:iterI K0 D fs=some r) (q:VR B s.heap (.inst D fs) v):∃ f d es n fd nm attrs kx tp yp pos vs l,v=.ref (d+1)∧InstF D f (d+1) (instObj D d) es n fd nm attrs kx tp yp pos vs s.heap∧r=.ok (.list l)∧VRs B s.heap l vs∧l.length=5:=by
  obtain ⟨f,hf,h⟩:=ask_some h
  obtain ⟨hi,h⟩:=grd_some h
  obtain ⟨l,hl,h⟩:=ask_some h
  obtain rfl:=rok_some h
  obtain ⟨d,es,n,rfl,Z,Z,I,hv⟩:=inst_at q
  obtain ⟨fd,nm,attrs,kx,tp,yp,pos,hF⟩:=iter_facts hi
  obtain ⟨vs,f5,qv,hn⟩:=five_of (n:=n) hv hF.attrs hF.data hl
  exact ⟨f,d,es,n,fd,nm,attrs,kx,tp,yp,pos,vs,l,rfl,⟨hF,(specOf_facts hf).1,by rw [qv.length];exact hn,f5,G.k,I,G.lim⟩,rfl,qv,hn⟩
end
theorem itr_ok {d:Nat}:ITR d where
  lst:=fun {A F fr B s D fs r v} X G Bo h q=>by
    obtain ⟨f,dd,es,n,fd,nm,attrs,kx,tp,yp,pos,vs,l,rfl,i,rfl,hv,hl⟩:=inst_F G h q
    refine call_list_inst X.handled (by have:=X.depth';unfold recursionLimit;simp at this;lia) i fun s' c' hg hS=>?_
    have k1:∀ b o,s.heap.get? b=some o→s'.heap.get? b=some o:=fun b o e=>hg.1 b o (Nat.ne_of_lt (Heap.lt_size e)) e
    have hg':Go F s { s' with heap:=s'.heap }:=hg.go (s₀:=s) (fun b o e=>⟨e,Nat.ne_of_lt (Heap.lt_size e)⟩) rfl rfl fun b o e=>e
    refine Post.ok hg' ?_
    show VR B s'.heap (.list l) (.ref s.heap.objs.size)
    refine ⟨_,vs,rfl,fun hb=>?_,⟨_,hS,rfl,_,rfl⟩,by rw [hl];decide,?_⟩
    · exact Nat.lt_irrefl _ (Bo.lt hb)
    · exact hv.keep (fun b o e Z=>k1 b o e) fun Z Z Z y=>y
end Mine
end
section
open PySem PySem.W PySem.Calls PyProof.Rows
namespace Mine
theorem vrs_ints {B:Addr→Prop} {h:Heap} {vs:List PySem.Value} {ns:List Int} (x:IntsAre vs ns):VRs B h (ns.map .int) vs:=by
  induction x with
  | nil=>rfl
  | cons n t _ ih=>
    show VRs B h (.int n::_) _
    exact ⟨_,_,rfl,Exists.intro t rfl,ih⟩
theorem oldK_of {s s':Shared} (x:Go [] s s') (t:TabI s.heap):OldK s.heap s'.heap:=by
  refine ⟨fun b o e=>?_,fun b o e=>x.ext.there (x.tab t) (fun Z h=>nomatch h) ⟨o,e⟩⟩
  by_cases hT:isT b
  · obtain ⟨p,hp,rfl⟩:=hT
    obtain ⟨ps,Z,tt⟩:=t p hp
    obtain ⟨more,hm⟩:=x.ext.grow _ ps ⟨p,hp,rfl⟩ tt.2
    cases e.symm.trans tt.2
    exact .inr (.inl ⟨tt.isCodeTable,rfl,ps,more,rfl,hm⟩)
  · exact .inl (x.ext.keep b o e hT (fun h=>nomatch h))
theorem callerCx (d:Nat) (hd:d≤29):CxC d false callerA [] [] where
  handled:=rfl
  depth:=by have:callerA.depth=301:=rfl;lia
  units:=by have:callerA.units=4:=rfl;lia
  frames:=fun Z=>rfl
  fk:=fun Z h=>(nomatch h)
  fa:=fun Z h=>nomatch h
theorem wrap {C:CallSem} {d:Nat} {s₁:Shared} {c:ClaimW} {cl:PySem.Str→Option Addr} {mean:ExcName→Option PySem.Value} {args:List WData} {fa a:Addr} {vs:List PySem.Value} {ns:List Int}
    (hd:d≤29) (sc:SC C d) (G:GI [] s₁.heap) (hc:C false fa [.list (ns.map .int)] []=some (.ok (.bool true))) (hL:s₁.heap.IsList a vs.toArray) (hI:IntsAre vs ns) (hn:ns.length≤63)
    (hg:s₁.gens=#[]) (hr:∀ cls,c.raises args cls=false) (hp:c.post args (.bool true) args=true):
    wpAny (model prog w0) callerA (call (.ref fa) [.ref a]) (fun v s'=>GoodWG c cl mean args s₁ (.ok (.ret v)) s') (fun e s'=>GoodWG c cl mean args s₁ (.error e) s') s₁:=by
  have nT:¬ isT a:=fun ⟨p,hp,e⟩=>by
    obtain ⟨ps,Z,tt⟩:=G.tab p hp;clear hp
    obtain ⟨o,ho,hcls,Z⟩:=hL
    rw [← e] at ho
    cases ho.symm.trans tt.2
    cases hcls
  have Bo:Bd [] (isT) s₁.heap:=⟨fun Z x=>x,(fun Z h=>nomatch h),fun b ⟨p,hp,e⟩=>by
    obtain ⟨ps,Z,tt⟩:=G.tab p hp;clear hp
    exact ⟨_,e▸tt.2⟩⟩
  have h:=sc (callerCx d hd) G Bo hc (vs:=[.ref a]) (kvs:=[]) (by
    refine ⟨_,_,rfl,?_,by rfl⟩
    exact ⟨a,vs,rfl,nT,hL,by rw [List.length_map];unfold lenLine;lia,vrs_ints hI⟩) rfl
  have good:∀ v s',EPs [] false (isT) s₁ (.ok (.bool true)) v s'→GoodWG c cl mean args s₁ (.ok (.ret v)) s':=fun v s' ⟨g,p,e,q⟩=>by
    cases e
    subst q
    exact ⟨.inl ⟨_,_,[],rfl,hr,ReadsW.bool true,hp,fun Z=>⟨List.nodup_nil,fun Z hm=>(nomatch hm)⟩⟩,oldK_of g G.tab,g.os,g.bare (hg▸AllBare.empty)⟩
  exact wpAny_call (codeAny_CR h good fun e s' q=>nomatch q.1)
end Mine
end
section
open PySem PySem.W PySem.Calls PyProof.Rows
namespace Mine
section
variable {K:Frag} {C:CallSem} {n:Nat} {st:Bool} {fm:Fm}
noncomputable abbrev EV (K:Frag) (C:CallSem) (n:Nat) (st:Bool) (fm:Fm) (e:PySem.Expr) (v:PV):Prop:=evalE K C n st fm e=some (.ok v)
noncomputable abbrev EVs (K:Frag) (C:CallSem) (n:Nat) (st:Bool) (fm:Fm) (e:List PySem.Expr) (v:List PV):Prop:=evalEs K C n st fm e=some (.ok v)
noncomputable abbrev TE (K:Frag) (C:CallSem) (n:Nat) (st:Bool) (fm:Fm) (e:PySem.Expr) (b:Bool):Prop:=testE K C n st fm e=some (.ok b)
noncomputable abbrev BE (K:Frag) (C:CallSem) (n:Nat) (st:Bool) (fm:Fm) (op:BoolOp) (e:List PySem.Expr) (v:PV):Prop:=boolEs K C n st fm op e=some (.ok v)
noncomputable abbrev TS (K:Frag) (C:CallSem) (n:Nat) (st:Bool) (fm:Fm) (op:BoolOp) (e:List PySem.Expr) (b:Bool):Prop:=testEs K C n st fm op e=some (.ok b)
noncomputable abbrev KS (K:Frag) (C:CallSem) (n:Nat) (st:Bool) (fm:Fm) (e:List PySem.Keyword) (v:List (PySem.Str×PV)):Prop:=evalKs K C n st fm e=some (.ok v)
theorem rb {α β:Type} {x:R α} {a:α} {f:α→R β} {r:R β} (h:x=some (.ok a)) (k:f a=r):rbind x f=r:=by subst h;exact k
theorem sb {α:Type} {x:R α} {a:α} {fm:Fm} {f:α→S} {r:S} (h:x=some (.ok a)) (k:f a=r):sbind x fm f=r:=by subst h;exact k
theorem opb {α:Type} {o:Option α} {a:α} (h:o=some a):optR o=some (.ok a):=by subst h;rfl
theorem strR_ok {x:Str} (h:x.length≤lenLine):strR x=some (.ok (.str x)):=grb (decide_eq_true h) rfl
theorem ntb {b:Bool} (h:b=false):(!b)=true:=by subst h;rfl
theorem ev_cstr {x:Str} {k:Nat} {p} (h:decide (x.length≤lenLine)=true):EV K C (n+1) st fm (.Constant (.str x) k p) (.str x):=opb (grb h rfl)
theorem ev_cint {i:Int} {k:Nat} {p}:EV K C (n+1) st fm (.Constant (.int i) k p) (.int i):=rfl
theorem ev_cnone {k:Nat} {p}:EV K C (n+1) st fm (.Constant .none k p) .none:=rfl
theorem ev_cbool {b:Bool} {k:Nat} {p}:EV K C (n+1) st fm (.Constant (.bool b) k p) (.bool b):=rfl
theorem ev_nm {x:Str} {p v} (h:nameE K fm x=some v):EV K C (n+1) st fm (.Name x p) v:=opb h
theorem ev_bool {op es p v} (h:BE K C n st fm op es v):EV K C (n+1) st fm (.BoolOp op es p) v:=h
theorem ev_bin {l op r p a b v} (ha:EV K C n st fm l a) (hb:EV K C n st fm r b) (h:binE fm op a b=some (.ok v)):EV K C (n+1) st fm (.BinOp l op r p) v:=rb ha (rb hb h)
theorem ev_not {x p v b} (ha:EV K C n st fm x v) (h:truth v=some b):EV K C (n+1) st fm (.UnaryOp .Not x p) (.bool (!b)):=rb ha (opb (by rw [h];rfl))
theorem ev_if_t {t b o p v} (ht:TE K C n st fm t true) (h:EV K C n st fm b v):EV K C (n+1) st fm (.IfExp t b o p) v:=rb ht h
theorem ev_if_f {t b o p v} (ht:TE K C n st fm t false) (h:EV K C n st fm o v):EV K C (n+1) st fm (.IfExp t b o p) v:=rb ht h
theorem ev_tup {es k p vs} (h:EVs K C n st fm es vs) (hs:(vs.all solid&&decide (vs.length≤1000))=true):EV K C (n+1) st fm (.Tuple es k p) (.tup vs):=rb h (grb hs rfl)
theorem ev_lst {es p vs} (h:EVs K C n st fm es vs) (hs:(vs.all solid&&decide (vs.length≤1000))=true):EV K C (n+1) st fm (.List es p) (.list vs):=rb h (grb hs rfl)
theorem ev_cmp {l op r p a b v} (hm:behindInMarks op r=false) (ha:EV K C n st fm l a) (hb:EV K C n st fm r b) (h:cmpE K C st op a b=some (.ok v)):EV K C (n+1) st fm (.Compare l [op] [r] p) v:=grb (ntb hm) (rb ha (rb hb h))
theorem ev_slice {v l u q p o a b w} (ho:EV K C n st fm v o) (ha:evalO K C n st fm l=some (.ok a)) (hb:evalO K C n st fm u=some (.ok b)) (h:sliceE fm o a b=some (.ok w)):EV K C (n+1) st fm (.Subscript v (.Slice l u .none q) p) w:=rb ho (rb ha (rb hb h))
theorem o_none:evalO K C (n+1) st fm none=some (.ok none):=rfl
theorem o_some {e v} (h:EV K C n st fm e v):evalO K C (n+1) st fm (some e)=some (.ok (some v)):=rb h rfl
noncomputable def noSlice:Expr→Bool
  | .Slice ..=>false
  | _=>true
theorem kSub_idx {v i p} (hi:noSlice i=true):kSub v i p=.idx v i p:=by cases i<;>first | rfl | exact nof hi
theorem ev_idx {v i p o k w} (hi:noSlice i=true) (ho:EV K C n st fm v o) (hk:EV K C n st fm i k) (h:idxE fm o k=some (.ok w)):EV K C (n+1) st fm (.Subscript v i p) w:=by
  show evalK K C (EvN K C n) st fm (kSub v i p)=_
  rw [kSub_idx hi]
  exact rb ho (rb hk h)
theorem ev_attr {v a p D fs w} (hv:EV K C n st fm v (.inst D fs)) (hs:notSuper v=true) (hd:dataIn K D a=true) (hl:fs.lookup a=some w) (hw:handedPV w=true):EV K C (n+1) st fm (.Attribute v a p) w:=grb hs (rb hv (grb hd (akb hl (grb hw rfl))))
theorem be_one {op e v} (h:EV K C n st fm e v):BE K C (n+1) st fm op [e] v:=h
theorem be_and_f {e e' r v} (h:EV K C n st fm e v) (ht:truth v=some false):BE K C (n+1) st fm .And (e::e'::r) v:=rb h (akb ht rfl)
theorem be_and_t {e e' r v w} (h:EV K C n st fm e v) (ht:truth v=some true) (k:BE K C n st fm .And (e'::r) w):BE K C (n+1) st fm .And (e::e'::r) w:=rb h (akb ht k)
theorem be_or_t {e e' r v} (h:EV K C n st fm e v) (ht:truth v=some true):BE K C (n+1) st fm .Or (e::e'::r) v:=rb h (akb ht rfl)
theorem be_or_f {e e' r v w} (h:EV K C n st fm e v) (ht:truth v=some false) (k:BE K C n st fm .Or (e'::r) w):BE K C (n+1) st fm .Or (e::e'::r) w:=rb h (akb ht k)
theorem be_and {e e' r v w b} (h:EV K C n st fm e v) (ht:truth v=some b) (k:b=true→BE K C n st fm .And (e'::r) w) (hf:b=false→v=w):BE K C (n+1) st fm .And (e::e'::r) w:=by
  induction b with
  | true=>exact be_and_t h ht (k rfl)
  | false=>rw [← hf rfl];exact be_and_f h ht
theorem te_not {x p b} (h:TE K C n st fm x b):TE K C (n+1) st fm (.UnaryOp .Not x p) (!b):=rb h rfl
theorem te_bool {op vs p b} (h:TS K C n st fm op vs b):TE K C (n+1) st fm (.BoolOp op vs p) b:=h
theorem te_cmp {l op r p a b v t} (hm:behindInMarks op r=false) (ha:EV K C n st fm l a) (hb:EV K C n st fm r b) (h:cmpE K C st op a b=some (.ok v)) (ht:truth v=some t):TE K C (n+1) st fm (.Compare l [op] [r] p) t:=grb (ntb hm) (rb ha (rb hb (rb h (opb ht))))
noncomputable def plainT (e:Expr):Bool:=valK (kindE e)
theorem te_val {e v b} (hp:plainT e=true) (h:EV K C n st fm e v) (ht:truth v=some b):TE K C (n+1) st fm e b:=by
  have q:∀ (a:R Bool) (b:Bool) (c:R Bool),b=true→(match b with | true=>a | false=>c)=a:=fun a b c h=>by subst h;rfl
  exact (q _ _ _ hp).trans (rb h (opb ht))
theorem ts_nil {op}:TS K C (n+1) st fm op [] (!stopB op):=rfl
theorem ts_and {e r b c} (h:TE K C n st fm e b) (k:b=true→TS K C n st fm .And r c) (hf:b=false→c=false):TS K C (n+1) st fm .And (e::r) c:=rb h (by
  cases b
  · rw [hf rfl];rfl
  · exact k rfl)
theorem ts_or {e r b c} (h:TE K C n st fm e b) (k:b=false→TS K C n st fm .Or r c) (hf:b=true→c=true):TS K C (n+1) st fm .Or (e::r) c:=rb h (by
  cases b
  · exact k rfl
  · rw [hf rfl];rfl)
theorem es_nil:EVs K C (n+1) st fm [] []:=rfl
theorem es_cons {e r v vs} (hs:notStar e=true) (h:EV K C n st fm e v) (k:EVs K C n st fm r vs):EVs K C (n+1) st fm (e::r) (v::vs):=grb hs (rb h (rb k rfl))
theorem ks_nil:KS K C (n+1) st fm [] []:=rfl
theorem ks_cons {x e p r v vs} (h:EV K C n st fm e v) (k:KS K C n st fm r vs):KS K C (n+1) st fm (⟨some x,e,p⟩::r) ((x,v)::vs):=rb h (rb k rfl)
noncomputable def notGenE:Expr→Bool
  | .GeneratorExp ..=>false
  | _=>true
noncomputable def notGen (l:List Expr):Bool:=l.all notGenE
theorem kCall_fn {f fp args kws p} (h:notGen args=true):kCall (.Name f fp) args kws p=.fn f fp args kws p:=by
  match args,h with
  | [],_=>rfl
  | _::_::_,_=>rfl
  | [a],h=>cases a<;>first | rfl | exact nof h
theorem ev_fn {f fp args kws pos a vs kw r} (hg:(notGen args&&(args.all notStar&&kws.all kwNamed))=true) (hf:nameE K fm f=some (.glob (.ref a))) (hc:callable K (.glob (.ref a))=true) (ha:EVs K C (n+1) st fm args vs) (hk:KS K C (n+1) st fm kws kw)
    (hs:(vs.all solid&&kw.all (fun p=>solid p.2))=true) (h:C st a vs kw=r):evalE K C (n+2) st fm (.Call (.Name f fp) args kws pos)=r:=by
  show evalK K C (EvN K C (n+1)) st fm (kCall (.Name f fp) args kws pos)=_
  rw [kCall_fn (and_tt hg).1]
  exact grb (and_tt hg).2 (rb (ev_nm (n:=n) hf) (grb hc (rb ha (rb hk (grb hs h)))))
theorem callR_bi {v vs r} (hv:∀ a,v≠.ref a) (h:callB K C st fm v vs=r):callR K C st fm (.glob v) vs []=r:=by
  cases v<;>first | exact h | exact absurd rfl (hv _)
theorem ev_bi {f fp args pos v vs r} (hg:(notGen args&&args.all notStar)=true) (hf:nameE K fm f=some (.glob v)) (hc:callable K (.glob v)=true) (hv:∀ a,v≠.ref a) (ha:EVs K C (n+1) st fm args vs)
    (h:callB K C st fm v vs=r):evalE K C (n+2) st fm (.Call (.Name f fp) args [] pos)=r:=by
  show evalK K C (EvN K C (n+1)) st fm (kCall (.Name f fp) args [] pos)=_
  rw [kCall_fn (and_tt hg).1]
  exact grb (by rw [(and_tt hg).2];rfl) (rb (ev_nm (n:=n) hf) (grb hc (rb ha (rb (a:=[]) rfl (callR_bi hv h)))))
noncomputable def isMthK {e:Expr} (k:EK e):Bool:=by
  induction k with
  | mth=>exact true
  | _=>exact false
theorem isMth_eq {o m ap args kws p} {k:EK (.Call (.Attribute o m ap) args kws p)} (h:isMthK k=true):k=.mth o m ap args kws p:=by cases k<;>first | rfl | exact nof h
theorem ev_meth {o m apos args kws pos ov t vs kw r} (hg:(isMthK (kindE (.Call (.Attribute o m apos) args kws pos))&&(notSuper o&&(apos.endLine==pos.line)&&decide (args.length+kws.length < 20)&&args.all notStar&&kws.all kwNamed))=true) (ho:EV K C n st fm o ov) (ht:tgtOf K fm ov m=some t)
    (ha:EVs K C n st fm args vs) (hk:KS K C n st fm kws kw) (hs:(vs.all solid&&kw.all (fun p=>solid p.2))=true) (h:runT C st m t vs kw=r):evalE K C (n+1) st fm (.Call (.Attribute o m apos) args kws pos)=r:=by
  show evalK K C (EvN K C n) st fm (kindE _)=_
  rw [isMth_eq (and_tt hg).1]
  exact grb (and_tt hg).2 (rb ho (akb ht (rb ha (rb hk (grb hs h)))))
theorem ev_neg {x p i} (ha:EV K C n st fm x (.int i)):EV K C (n+1) st fm (.UnaryOp .USub x p) (.int (-i)):=rb ha rfl
theorem ev_rep {o ap x y ky py z kz pz p w} (ht:fm.tk=true) (hg:mthOk o ap [.Constant (.str y) ky py,.Constant (.str z) kz pz] [] p=true) (ho:EV K C n false fm o (.str x)) (hs:(y != z&&decide (x.length≤100000)&&decide (z.length≤10))=true) (hw:strR (PySem.Txt.replace x y z)=some (.ok w)):
    EV K C (n+1) false fm (.Call (.Attribute o (Str.ofString "replace") ap) [.Constant (.str y) ky py,.Constant (.str z) kz pz] [] p) w:=by
  show grd (Str.ofString "replace"==Str.ofString "replace"&&mthOk o ap [.Constant (.str y) ky py,.Constant (.str z) kz pz] [] p&&(!false&&fm.tk)) (repR (EvN K C n) false fm o y z)=_
  exact grb (by rw [beq_self_eq_true,hg,ht];rfl) (rb ho (akb (a:=x) rfl (grb hs hw)))
theorem ev_jg {s ks ps ap elt x xp it sc gp p} {L:List PV} {ys:List Str} {w} (hg:((ap.endLine==p.line)&&(genScope sc x&&plainIter it&&codeHere fm&&modIn K))=true) (hi:iterE K C n false fm it=some (.ok L)) (hy:strsM (fun u=>evalE K C n true (genFm sc x u) elt) L=some ys)
    (hs:(decide ((ys.map (·.length)).sum+ys.length≤100000)&&decide (s.length≤16))=true) (hw:strR (PySem.Txt.join s ys)=some (.ok w)):
    EV K C (n+1) false fm (.Call (.Attribute (.Constant (.str s) ks ps) (Str.ofString "join") ap) [.GeneratorExp elt [⟨.Name x xp,it,[],0⟩] sc gp] [] p) w:=
  grb (b:=_==_&&_&&!false&&_) (by rw [beq_self_eq_true,(and_tt hg).1,(and_tt hg).2]) (rb hi (akb hy (grb hs hw)))
noncomputable def isRange (e:Expr):Bool:=(fnK (kindE e)).isSome
theorem it_val {e v l} (hr:isRange e=false) (h:EV K C n st fm e v) (hi:itemsOf v=some l) (hs:l.all simple=true):iterE K C (n+1) st fm e=some (.ok l):=by
  show iterK K (EvN K C n) st fm e=_
  unfold iterK
  rw [show fnK (kindE e)=none from by
    unfold isRange at hr
    induction q:fnK (kindE e) with
    | none=>rfl
    | some=>rw [q] at hr;exact nomatch hr]
  exact rb h (akb hi (grb hs rfl))
theorem it_range {f fp a pos i} (hf:nameE K fm f=some (.glob (.type "range"))) (ha:(notGenE a&&notStar a)=true) (h:EV K C (n+1) st fm a (.int i)) (hi:(decide (0≤i)&&decide (i≤1000))=true):iterE K C (n+3) st fm (.Call (.Name f fp) [a] [] pos)=some (.ok (rangeL i)):=by
  have h1:∀ x:Bool,x=true→(x&&true)=true:=fun x h=>by subst h;rfl
  have e:kindE (.Call (.Name f fp) [a] [] pos)=.fn f fp [a] [] pos:=@kCall_fn f fp [a] [] pos (h1 _ (and_tt ha).1)
  show iterK K (EvN K C (n+2)) st fm _=_
  unfold iterK
  rw [e]
  exact grb (by rw [hf];exact h1 _ (and_tt ha).2) (rb (es_cons (n:=n+1) (and_tt ha).2 h es_nil) (grb hi rfl))
end
end Mine
end
section
open PySem PySem.W PySem.Calls PyProof.Rows
namespace Mine
noncomputable abbrev Bnd:=List (PySem.Str×PV)
structure Fr (sc:PySem.Scope) (cd:PySem.Value) (l:Bnd) (c:List Unit) (m:Option MO) (fm:Fm):Prop where
  scope:fm.scope=sc
  code:fm.code=cd
  loc:∀ x v,l.lookup x=some v→fm.loc.lookup x=some v
  tk:c=[]∨fm.tk=true
  mu:fm.mu=m
theorem Fr.me {sc cd l c m fm} (h:Fr sc cd l c m fm):Fr sc cd l c m fm:=h
theorem nrB {s}:∀ a,PySem.Value.builtin s≠.ref a:=fun Z h=>nomatch h
theorem nrT {s}:∀ a,PySem.Value.type s≠.ref a:=fun Z h=>nomatch h
section
variable {K:Frag} {C:CallSem} {n:Nat} {st:Bool} {fm:Fm} {sc:PySem.Scope} {cd:PySem.Value} {l:Bnd} {c:List Unit} {m:Option MO} {x:PySem.Str} {v:PV} {Q:SR→Prop} {r:List PySem.Stmt}
noncomputable def Lk (g:Bool) (l:Bnd) (x:Str) (t:Bnd) (v:PV):Prop:=grd g (l.lookup x)=some v
theorem lf0 {g:Bool} {l t:Bnd} (h:grd g (l.lookup x)=some v):Lk g l x ((x,v)::t) v:=h
theorem lf1 {g:Bool} {l t:Bnd} {p} (h:grd g (l.lookup x)=some v):Lk g l x (p::(x,v)::t) v:=h
theorem lf2 {g:Bool} {l t:Bnd} {p q} (h:grd g (l.lookup x)=some v):Lk g l x (p::q::(x,v)::t) v:=h
theorem lf3 {g:Bool} {l t:Bnd} {p q r} (h:grd g (l.lookup x)=some v):Lk g l x (p::q::r::(x,v)::t) v:=h
theorem ls4 {g:Bool} {l t:Bnd} {p q r s} (h:Lk g l x t v):Lk g l x (p::q::r::s::t) v:=h
theorem lkp_put {x y:PySem.Str} {v u:PV} {l:Bnd} {l':Bnd} (F:∀ x v,l.lookup x=some v→l'.lookup x=some v) (h:((x,v)::l).lookup y=some u):(put x v l').lookup y=some u:=by
  rw [List.lookup_cons] at h
  induction e:(y==x) with
  | true=>rw [e] at h;cases h;rw [beq_iff_eq.mp e];exact lookup_put_self
  | false=>rw [e] at h;rw [lookup_put_ne e];exact F _ _ h
noncomputable def isLocal (sc:PySem.Scope) (x:PySem.Str):Bool:=sc.names.lookup x==some .local
noncomputable def isGlob (sc:PySem.Scope) (x:PySem.Str):Bool:=sc.names.lookup x==some .globalImplicit
noncomputable def plainName (x:PySem.Str):Bool:=!(x==Str.ofString "__debug__"||(x==Str.ofString "__name__"||x==Str.ofString "__classdict__"))
theorem setN_loc {fm:Fm} {x:Str} {v:PV} (h:fm.scope.names.lookup x=some .local):setN fm x v=some { fm with loc:=put x v fm.loc }:=by unfold setN;rw [h]
theorem Fr.set (F:Fr sc cd l c m fm) (hx:isLocal sc x=true):∃ fm',setN fm x v=some fm'∧Fr sc cd ((x,v)::l) c m fm':=
  ⟨{ fm with loc:=put x v fm.loc },setN_loc (by rw [F.scope];exact beq_iff_eq.mp hx),F.scope,F.code,fun Z Z h=>lkp_put F.loc h,F.tk,F.mu⟩
theorem Fr.nil (F:Fr sc cd l c m fm):Fr sc cd [] c m fm:=⟨F.scope,F.code,(fun Z Z e=>nomatch e),F.tk,F.mu⟩
theorem Fr.cons {l':Bnd} (F:Fr sc cd l c m fm) (h:l.lookup x=some v) (G:Fr sc cd l' c m fm):Fr sc cd ((x,v)::l') c m fm:=⟨F.scope,F.code,fun y u e=>by
  rw [List.lookup_cons] at e
  induction q:(y==x) with
  | true=>rw [q] at e;cases e;rw [beq_iff_eq.mp q];exact F.loc _ _ h
  | false=>rw [q] at e;exact G.loc _ _ e,F.tk,F.mu⟩
theorem nameE_pl {fm:Fm} {x:Str} {k:NameKind} {v:PV} (hx:plainName x=true) (hk:(fm.scope.names.lookup x==some k)=true) (h:nameK K fm x k=some v):nameE K fm x=some v:=
  grb hx (akb (beq_iff_eq.mp hk) h)
theorem Fr.nm (F:Fr sc cd l c m fm) (hx:(plainName x&&isLocal sc x)=true) (h:l.lookup x=some v):nameE K fm x=some v:=
  nameE_pl (k:=.local) (and_tt hx).1 (by rw [F.scope];exact (and_tt hx).2) (F.loc _ _ h)
theorem Fr.nl (F:Fr sc cd l c m fm) (h:Lk (plainName x&&isLocal sc x) l x l v):nameE K fm x=some v:=
  let ⟨h1,h2⟩:=grd_some h
  F.nm h1 h2
theorem Fr.co {l':Bnd} (F:Fr sc cd l c m fm) (h:Lk true l x l v) (G:Fr sc cd l' c m fm):Fr sc cd ((x,v)::l') c m fm:=F.cons h G
noncomputable def XS (K:Frag) (C:CallSem) (n:Nat) (st:Bool) (fm:Fm) (ss:List PySem.Stmt) (Q:SR→Prop):Prop:=∃ r,execEs K C n st fm ss=some r∧Q r
noncomputable def XE (K:Frag) (C:CallSem) (n:Nat) (st:Bool) (fm:Fm) (s:PySem.Stmt) (Q:SR→Prop):Prop:=∃ r,execE K C n st fm s=some r∧Q r
noncomputable def FO (K:Frag) (C:CallSem) (n:Nat) (st:Bool) (fm:Fm) (x:PySem.Str) (l:List PV) (b:List PySem.Stmt) (Q:SR→Prop):Prop:=∃ r,forE K C n st fm x l b=some r∧Q r
noncomputable def next (N:Fm→Prop) (Q:SR→Prop):SR→Prop
  | .nx f=>N f
  | x=>Q x
theorem XS.mono {ss} {Q Q':SR→Prop} (h:XS K C n st fm ss Q) (k:∀ r,Q r→Q' r):XS K C n st fm ss Q':=let ⟨r,e,q⟩:=h;⟨r,e,k r q⟩
theorem xs_nil (h:Q (.nx fm)):XS K C (n+1) st fm [] Q:=⟨_,rfl,h⟩
theorem then_of {sr:SR} {f:Fm→S} {N:Fm→Prop} (q:next N Q sr) (k:∀ g,N g→∃ r,f g=some r∧Q r):∃ r,thenS sr f=some r∧Q r:=by
  induction sr with
  | nx g=>exact k g q
  | rt v g=>exact ⟨_,rfl,q⟩
  | ex g=>exact ⟨_,rfl,q⟩
theorem xs_cons {s} (h:XE K C n st fm s (next (fun f=>XS K C n st f r Q) Q)):XS K C (n+1) st fm (s::r) Q:=by
  obtain ⟨sr,e,q⟩:=h
  obtain ⟨r',e',q'⟩:=then_of (f:=fun f=>execEs K C n st f r) q fun Z h=>h
  exact ⟨r',akb e e',q'⟩
theorem XE.mono {s} {Q Q':SR→Prop} (h:XE K C n st fm s Q) (k:∀ r,Q r→Q' r):XE K C n st fm s Q':=let ⟨r,e,q⟩:=h;⟨r,e,k r q⟩
noncomputable def tagS {s:Stmt} (k:SK s):Nat:=by
  induction k with
  | expr=>exact 1
  | tup=>exact 2
  | asg=>exact 3
  | _=>exact 0
noncomputable def isS1 (t:Nat) (s:Stmt):Bool:=tagS (kindS s)==t
theorem kAsg_eq {x p e q} (h:isS1 3 (.Assign [.Name x p] e q)=true):kindS (.Assign [.Name x p] e q)=.asg x p e q:=by
  have h:=beq_iff_eq.mp h
  generalize kindS (.Assign [.Name x p] e q)=k at h
  cases k<;>first | rfl | cases h
theorem eq_asg {x p e q} (h:isS1 3 (.Assign [.Name x p] e q)=true):execE K C (n+1) st fm (.Assign [.Name x p] e q)=sbind (evalE K C n st fm e) fm fun v=>nx (setN fm x v):=by
  show execK K C (EvN K C n) (ExN K C n) st fm (kindS (.Assign [.Name x p] e q))=_
  rw [kAsg_eq h]
  rfl
theorem xs_asg {p e q} (F:Fr sc cd l c m fm) (h:(isS1 3 (.Assign [.Name x p] e q)&&isLocal sc x)=true) (he:EV K C n st fm e v) (k:∀ fm',Fr sc cd ((x,v)::l) c m fm'→XS K C (n+1) st fm' r Q):XS K C (n+2) st fm (.Assign [.Name x p] e q::r) Q:=by
  rw [Bool.and_eq_true] at h
  obtain ⟨fm',e1,F'⟩:=F.set (v:=v) h.2
  exact xs_cons ⟨.nx fm',by rw [eq_asg h.1];exact sb he (by rw [e1];rfl),k fm' F'⟩
theorem kTup_eq {ts tk tp e q} (h:isS1 2 (.Assign [.Tuple ts tk tp] e q)=true):kindS (.Assign [.Tuple ts tk tp] e q)=.tup ts tk tp e q:=by
  have h:=beq_iff_eq.mp h
  generalize kindS (.Assign [.Tuple ts tk tp] e q)=k at h
  cases k<;>first | rfl | cases h
theorem eq_tup {ts tk tp e q} (h:isS1 2 (.Assign [.Tuple ts tk tp] e q)=true):execE K C (n+1) st fm (.Assign [.Tuple ts tk tp] e q)=ask (swapT fm.scope ts e) fun o=>sbind (evalE K C n st fm e) fm (setTv fm ts o):=by
  show execK K C (EvN K C n) (ExN K C n) st fm (kindS (.Assign [.Tuple ts tk tp] e q))=_
  rw [kTup_eq h]
  rfl
noncomputable def prs:List PySem.Str→List PV→Bnd→Bnd
  | x::r,v::vs,l=>prs r vs ((x,v)::l)
  | _,_,l=>l
theorem Fr.sets {ns:List PySem.Str}:∀ {vs:List PV} {l:Bnd} {fm:Fm},Fr sc cd l c m fm→ns.all (isLocal sc)=true→ns.length=vs.length→∃ fm',setNs fm ns vs=some fm'∧Fr sc cd (prs ns vs l) c m fm':=by
  induction ns with
  | nil=>intro vs l fm F _ hl;induction vs using List.casesOn with
    | nil=>exact ⟨fm,rfl,F⟩
    | cons=>cases hl
  | cons x r ih=>
    intro vs l fm F h hl
    induction vs using List.casesOn with
    | nil=>cases hl
    | cons v vs=>
      rw [List.all_cons,Bool.and_eq_true] at h
      obtain ⟨f1,e1,F1⟩:=F.set (v:=v) h.1
      obtain ⟨f2,e2,F2⟩:=ih (vs:=vs) F1 h.2 (Nat.succ.inj hl)
      exact ⟨f2,akb (a:=v) rfl (akb e1 e2),F2⟩
theorem nxb {o:Option Fm} {f:Fm} (h:o=some f):nx o=some (.nx f):=by subst h;rfl
theorem setTv_of {ts:List Expr} {o:Option (List Str)} {vs:List PV} {f:Fm} (hv:tupVs v=some vs) (h:setT fm ts o vs=some f):setTv fm ts o v=some (.nx f):=akb hv (nxb h)
theorem xs_tup {ts tk tp e q} {vs:List PV} {ns:List Str} (F:Fr sc cd l c m fm) (h:isS1 2 (.Assign [.Tuple ts tk tp] e q)=true) (hsw:(swapT sc ts e=some none∧tgtNames ts=some ns)) (hn:(ns.all (isLocal sc)&&ns.length==vs.length)=true) (hv:v=.tup vs∨v=.list vs)
    (he:EV K C n st fm e v) (k:∀ fm',Fr sc cd (prs ns vs l) c m fm'→XS K C (n+1) st fm' r Q):XS K C (n+2) st fm (.Assign [.Tuple ts tk tp] e q::r) Q:=by
  obtain ⟨fm',e1,F'⟩:=Fr.sets (vs:=vs) F (and_tt hn).1 (beq_iff_eq.mp (and_tt hn).2)
  refine xs_cons ⟨.nx fm',?_,k fm' F'⟩
  rw [eq_tup h,F.scope]
  exact akb hsw.1 (sb he (setTv_of (by rcases hv with rfl | rfl<;>rfl) (akb hsw.2 e1)))
theorem xs_swp {ts tk tp e q} {vs:List PV} {ns:List Str} (F:Fr sc cd l c m fm) (h:isS1 2 (.Assign [.Tuple ts tk tp] e q)=true) (hsw:swapT sc ts e=some (some ns)) (hn:(ns.reverse.all (isLocal sc)&&ns.reverse.length==vs.reverse.length)=true)
    (he:EV K C n st fm e (.tup vs)) (k:∀ fm',Fr sc cd (prs ns.reverse vs.reverse l) c m fm'→XS K C (n+1) st fm' r Q):XS K C (n+2) st fm (.Assign [.Tuple ts tk tp] e q::r) Q:=by
  obtain ⟨fm',e1,F'⟩:=Fr.sets (vs:=vs.reverse) F (and_tt hn).1 (beq_iff_eq.mp (and_tt hn).2)
  refine xs_cons ⟨.nx fm',?_,k fm' F'⟩
  rw [eq_tup h,F.scope]
  exact akb hsw (sb he (setTv_of rfl e1))
theorem xs_if {t b o p tb} (ht:TE K C (n+1) st fm t tb) (k:XS K C (n+1) st fm (if tb then b else o) (next (fun f=>XS K C (n+2) st f r Q) Q)):XS K C (n+3) st fm (.If t b o p::r) Q:=by
  obtain ⟨sr,e,q⟩:=k
  refine xs_cons ⟨sr,sb ht ?_,q⟩
  cases tb<;>exact e
theorem xs_ret {e p} (he:EV K C n st fm e v) (k:Q (.rt v fm)):XS K C (n+2) st fm (.Return (some e) p::r) Q:=xs_cons ⟨.rt v fm,sb he rfl,k⟩
theorem typ_of {t:String} {v:Option PV} (h:v=some (.glob (.type t))):isTyp t v=true:=by subst h;exact beq_self_eq_true t
theorem xs_raise {x xp e p q} (hx:nameE K fm x=some (.glob (.type "ValueError"))) (hs:notStar e=true) (he:EV K C n st fm e v) (hv:solid v=true) (k:Q (.ex fm)):XS K C (n+2) st fm (.Raise (some (.Call (.Name x xp) [e] [] p)) .none q::r) Q:=
  xs_cons ⟨.ex fm,grb (by rw [typ_of hx,hs];rfl) (sb he (grb hv rfl)),k⟩
theorem xs_try {b x xp hb p q} (k:XS K C n st fm b (fun sr=>match sr with
      | .ex f=>nameE K f x=some (.glob (.type "ValueError"))∧(st||hb.isEmpty)=false∧∃ sr',plainB f hb=some sr'∧next (fun f=>XS K C (n+1) st f r Q) Q sr'
      | y=>next (fun f=>XS K C (n+1) st f r Q) Q y)):XS K C (n+2) st fm (.Try b [.ExceptHandler (some (.Name x xp)) .none hb p] [] [] q::r) Q:=by
  obtain ⟨sr,e,h⟩:=k
  induction sr with
  | nx f=>exact xs_cons ⟨_,akb e rfl,h⟩
  | rt v f=>exact xs_cons ⟨_,akb e rfl,h⟩
  | ex f=>
    obtain ⟨h1,h2,sr',h3,h4⟩:=h
    exact xs_cons ⟨sr',akb e (grb (by rw [typ_of h1,h2];rfl) h3),h4⟩
theorem kExpr_eq {e p} (h:isS1 1 (.Expr e p)=true):kindS (.Expr e p)=.expr e p:=by
  have h:=beq_iff_eq.mp h
  generalize kindS (.Expr e p)=k at h
  cases k<;>first | rfl | cases h
theorem eq_expr {e p} (h:(isS1 1 (.Expr e p)&&notComp e)=true):execE K C (n+1) st fm (.Expr e p)=sbind (evalE K C n st fm e) fm fun Z=>some (.nx fm):=by
  show execK K C (EvN K C n) (ExN K C n) st fm (kindS (.Expr e p))=_
  rw [kExpr_eq (and_tt h).1]
  exact grb (and_tt h).2 rfl
theorem xs_expr {e p} (h:(isS1 1 (.Expr e p)&&notComp e)=true) (he:EV K C n st fm e v) (k:XS K C (n+1) st fm r Q):XS K C (n+2) st fm (.Expr e p::r) Q:=
  xs_cons ⟨.nx fm,by rw [eq_expr h];exact sb he rfl,k⟩
theorem fo_nil {x b} (h:Q (.nx fm)):FO K C (n+1) st fm x [] b Q:=⟨_,rfl,h⟩
theorem fo_cons {b v vs} (F:Fr sc cd l c m fm) (hx:isLocal sc x=true) (k:∀ fm',Fr sc cd ((x,v)::l) c m fm'→XS K C n st fm' b (next (fun g=>FO K C n st g x vs b Q) Q)):FO K C (n+1) st fm x (v::vs) b Q:=by
  obtain ⟨f,e1,F'⟩:=F.set (v:=v) hx
  obtain ⟨sr,e2,q⟩:=k f F'
  obtain ⟨r',e',q'⟩:=then_of (f:=fun g=>forE K C n st g x vs b) q fun Z h=>h
  exact ⟨r',akb e1 (akb e2 e'),q'⟩
theorem xs_for {xp it b p} {L:List PV} (hp:plainIter it=true) (hi:iterE K C n st fm it=some (.ok L)) (k:FO K C n st fm x L b (next (fun f=>XS K C (n+1) st f r Q) Q)):XS K C (n+2) st fm (.For (.Name x xp) it b [] p::r) Q:=by
  obtain ⟨sr,e,q⟩:=k
  exact xs_cons ⟨sr,grb hp (sb hi e),q⟩
theorem own_t {v:Option PV} (h:v=some .own):isOwn v=true:=by subst h;rfl
theorem xs_attr {xp a ap e p D fs} (hx:nameE K fm x=some .own) (F:Fr sc cd l c (some (.inst D fs)) fm) (he:EV K C n st fm e v) (hv:(solid v&&!hasInst D v&&storeIn K D a&&decide (fs.length≤100))=true)
    (k:∀ fm',Fr sc cd l c (some (.inst D (put a v fs))) fm'→XS K C (n+1) st fm' r Q):XS K C (n+2) st fm (.Assign [.Attribute (.Name x xp) a ap] e p::r) Q:=
  xs_cons ⟨.nx { fm with mu:=some (.inst D (put a v fs)) },sb he (grb (own_t hx) (akb (a:=(D,fs)) (by unfold muInst;rw [F.mu]) (grb hv rfl))),k _ ⟨F.scope,F.code,F.loc,F.tk,rfl⟩⟩
theorem xs_app {xp mq e rp p} {ls:List PV} (hx:nameE K fm x=some .own) (F:Fr sc cd l c (some (.list ls)) fm) (he:EV K C n st fm e v) (h:(decide (ls.length≤1000)&&(mq.endLine==rp.line)&&notStar e&&solid v)=true)
    (k:∀ fm',Fr sc cd l c (some (.list (ls++[v]))) fm'→XS K C (n+1) st fm' r Q):XS K C (n+2) st fm (.Expr (.Call (.Attribute (.Name x xp) (Str.ofString "append") mq) [e] [] rp) p::r) Q:=by
  obtain ⟨h,hv⟩:=and_tt h
  refine xs_cons ⟨.nx { fm with mu:=some (.list (ls++[v])) },?_,k _ ⟨F.scope,F.code,F.loc,F.tk,rfl⟩⟩
  show (bif isOwn (nameE K fm x) then ask (muList fm) fun l=>grd (Str.ofString "append"==Str.ofString "append"&&decide (l.length≤1000)&&(mq.endLine==rp.line)&&notStar e) (sbind (evalE K C n st fm e) fm (appTo fm l)) else _)=_
  rw [own_t hx]
  exact akb (a:=ls) (by unfold muList;rw [F.mu]) (grb (by rw [beq_self_eq_true];exact h) (sb he (grb hv rfl)))
theorem xs_aug {p e q} {a b:Str} (F:Fr sc cd l c m fm) (hx:isLocal sc x=true) (hn:nameE K fm x=some (.str a)) (he:EV K C n st fm e (.str b)) (hl:decide (a.length+b.length≤lenLine)=true) (k:∀ fm',Fr sc cd ((x,.str (a++b))::l) c m fm'→XS K C (n+1) st fm' r Q):XS K C (n+2) st fm (.AugAssign (.Name x p) .Add e q::r) Q:=by
  obtain ⟨fm',e1,F'⟩:=F.set (v:=.str (a++b)) hx
  exact xs_cons ⟨.nx fm',akb hn (akb (a:=a) rfl (sb he (akb (a:=b) rfl (grb hl (nxb e1))))),k fm' F'⟩
theorem Fr.told (F:Fr sc cd l c m fm):Fr sc cd l [()] m { fm with tk:=true }:=⟨F.scope,F.code,F.loc,.inr rfl,F.mu⟩
theorem Fr.tok (F:Fr sc cd l [()] m fm):fm.tk=true:=F.tk.resolve_left nofun
theorem xe_wh {lh op cc k q w b p a u} {t:Bool} (hm:behindInMarks op (.Constant (.int cc) k q)=false) (ha:EV K C (n+1) st fm lh a) (h:cmpE K C st op a (.int cc)=some (.ok u)) (ht:truth u=some t)
    (kt:t=true→XS K C (n+1) st fm b (next (fun f=>XE K C (n+1) st f (.While (.Compare lh [op] [.Constant (.int cc) k q] w) b [] p) Q) Q)) (kf:t=false→Q (.nx { fm with tk:=true })):XE K C (n+2) st fm (.While (.Compare lh [op] [.Constant (.int cc) k q] w) b [] p) Q:=by
  have e:cmpT K C (EvN K C (n+1)) st fm lh op (.Constant (.int cc) k q)=some (.ok t):=grb (ntb hm) (rb ha (rb (a:=.int cc) rfl (rb h (opb ht))))
  induction t with
  | true=>
    obtain ⟨sr,e2,q2⟩:=kt rfl
    obtain ⟨r',e',q'⟩:=then_of (f:=fun f=>execE K C (n+1) st f (.While (.Compare lh [op] [.Constant (.int cc) k q] w) b [] p)) q2 fun Z h=>h
    exact ⟨r',sb e (akb e2 e'),q'⟩
  | false=>exact ⟨_,sb e rfl,kf rfl⟩
end
end Mine
end
section
open PySem PySem.W PySem.Calls PyProof.Rows
namespace Mine
section
variable {K:Frag} {C:CallSem} {n:Nat} {st:Bool} {fm:Fm} {sc:PySem.Scope} {cd:PySem.Value} {l:Bnd} {c:List Unit} {m:Option MO} {x:PySem.Str} {v:PV}
theorem Fr.gv (F:Fr sc cd l c m fm) (hx:(plainName x&&isGlob sc x)=true) (h:gval K x=some v):nameE K fm x=some v:=by
  exact nameE_pl (k:=.globalImplicit) (and_tt hx).1 (by rw [F.scope];exact (and_tt hx).2) h
theorem noExc_ok {st:Bool} {v:PV}:noExc st (rok v)=some (.ok v):=by cases st<;>rfl
theorem fn_ret {a:Addr} {args kw ss} {N:Nat} (e:callAt K n st a args kw=noExc st (endOf (execEs K C N st fm ss))) (hv:solid v=true) (h:XS K C N st fm ss fun r=>∃ f,r=.rt v f):callAt K n st a args kw=some (.ok v):=by
  obtain ⟨r,e2,f,rfl⟩:=h
  rw [e,e2,← noExc_ok (st:=st)]
  congr 1
  cases v<;>first | rfl | cases hv
theorem fn_end {a:Addr} {args kw ss} {N:Nat} (e:callAt K n st a args kw=noExc st (endOf (execEs K C N st fm ss))) (h:XS K C N st fm ss fun r=>∃ f,r=.nx f):callAt K n st a args kw=some (.ok .none):=by
  obtain ⟨r,e2,f,rfl⟩:=h
  rw [e,e2,← noExc_ok (st:=st)]
  rfl
theorem fn_exc {a:Addr} {args kw ss} {N:Nat} (e:callAt K n false a args kw=noExc false (endOf (execEs K C N false fm ss))) (h:XS K C N false fm ss fun r=>∃ f,r=.ex f):callAt K n false a args kw=some .exc:=by
  obtain ⟨r,e2,f,rfl⟩:=h
  rw [e,e2]
  rfl
theorem F0 {sc cd l}:Fr sc cd l [] none { scope:=sc,loc:=l,cel:=[],mu:=none,code:=cd }:=⟨rfl,rfl,fun Z Z h=>h,.inl rfl,rfl⟩
noncomputable def ch (c:Nat):PySem.Str:=⟨#[c]⟩
theorem p_ne_str {x y:PySem.Str}:cmpE K C st .NotEq (.str x) (.str y)=some (.ok (.bool (!(x==y)))):=rfl
theorem p_eq_str {x y:PySem.Str}:cmpE K C st .Eq (.str x) (.str y)=some (.ok (.bool (x==y))):=rfl
theorem p_eq_int {x y:Int}:cmpE K C st .Eq (.int x) (.int y)=some (.ok (.bool (x==y))):=rfl
theorem p_ne_int {x y:Int}:cmpE K C st .NotEq (.int x) (.int y)=some (.ok (.bool (!(x==y)))):=rfl
theorem p_lt {x y:Int}:cmpE K C st .Lt (.int x) (.int y)=some (.ok (.bool (decide (x < y)))):=rfl
theorem p_gt {x y:Int}:cmpE K C st .Gt (.int x) (.int y)=some (.ok (.bool (decide (x > y)))):=rfl
theorem p_is_none {v:PV} {b:Bool} (h:isNone v=some b):cmpE K C st .Is v .none=some (.ok (.bool b)):=akb (show isE v .none=some b from h) rfl
theorem contains_one {y:PySem.Str} {c:Nat}:PySem.Txt.contains y (ch c)=decide (c∈y.cps.toList):=PySem.StrLaws.found_one y c
theorem p_in {y:PySem.Str} {c:Nat}:cmpE K C st .In (.str (ch c)) (.str y)=some (.ok (.bool (decide (c∈y.cps.toList)))):=by
  rw [← contains_one];rfl
theorem canLay_strs:∀ ws:List PySem.Str,toPDs (ws.map .str)=some (ws.map PyData.str)
  | []=>rfl
  | w::r=>by
    rw [List.map_cons]
    exact akb (show toPD (.str w)=some (.str w) from rfl) (congrArg (Option.map (PyData.str w::·)) (canLay_strs r))
end
end Mine
end
section
open PySem PySem.W PySem.Calls PyProof.Rows
namespace Mine
noncomputable def asc (x:PySem.Str):Bool:=x.cps.toList.all (· < 128)
noncomputable def gd (x:PySem.Str):Bool:=asc x&&decide (x.length≤600)
theorem strOk_gd {x:PySem.Str} (h:gd x=true):PySem.PyData.strOk x=true:=by
  unfold gd asc at h
  rw [Bool.and_eq_true,decide_eq_true_eq,List.all_eq_true] at h
  unfold PySem.PyData.strOk
  rw [← Array.all_toList,List.all_eq_true]
  intro c hc
  have:=of_decide_eq_true (h.1 c hc)
  exact decide_eq_true (by lia)
theorem eqd_of {a b:PV} {x y:PyData} (h1:toPD a=some x) (h2:toPD b=some y) (h3:PySem.SeqAt.shaped x=true) (h4:PySem.SeqAt.shaped y=true):eqd a b=some (PyData.eqv x y):=akb h1 (akb h2 (grb (by rw [h3,h4];rfl) rfl))
section
variable {K:Frag} {C:CallSem} {st:Bool}
theorem eqvAll_strs:∀ ws us:List PySem.Str,PyData.eqvAll (ws.map PyData.str) (us.map PyData.str)=(ws==us)
  | [],[]=>by unfold PyData.eqvAll;rfl
  | [],_::_=>by rw [List.map_nil,List.map_cons];unfold PyData.eqvAll;rfl
  | _::_,[]=>by rw [List.map_nil,List.map_cons];unfold PyData.eqvAll;rfl
  | w::r,u::s=>by
    rw [List.map_cons,List.map_cons]
    unfold PyData.eqvAll
    rw [eqvAll_strs r s]
    unfold PyData.eqv
    rfl
theorem canLay_all {ws:List PySem.Str} (h:ws.all gd=true):PyData.canLayAll0 (ws.map PyData.str)=true:=by
  induction ws with
  | nil=>unfold PyData.canLayAll0;rfl
  | cons w r ih=>
    rw [List.all_cons,Bool.and_eq_true] at h
    rw [List.map_cons]
    unfold PyData.canLayAll0
    rw [ih h.2,Bool.and_true]
    unfold PyData.canLay0
    exact strOk_gd h.1
theorem depth_strs:∀ ws:List PySem.Str,PyData.depthAll (ws.map PyData.str)=0
  | []=>by unfold PyData.depthAll;rfl
  | w::r=>by rw [List.map_cons];unfold PyData.depthAll;rw [depth_strs r];unfold PyData.depth;rfl
theorem shaped_list {ws:List PySem.Str} (h:ws.all gd=true):PySem.SeqAt.shaped (.list (ws.map .str))=true:=by
  unfold PySem.SeqAt.shaped PyData.canLay0 PyData.depth
  rw [canLay_all h,depth_strs];rfl
theorem toPD_tup {ws:List PySem.Str}:toPD (.tup (ws.map .str))=some (.tuple (ws.map .str)):=congrArg (Option.map PyData.tuple) (canLay_strs ws)
theorem shaped_tup {ws:List Str} (h:ws.all gd=true):PySem.SeqAt.shaped (.tuple (ws.map .str))=true:=(show PySem.SeqAt.shaped (.tuple (ws.map .str))=PySem.SeqAt.shaped (.list (ws.map .str)) by unfold PySem.SeqAt.shaped PyData.canLay0 PyData.depth;rfl).trans (shaped_list h)
theorem eqv_tup {ws us:List Str} (h:ws.all gd=true) (k:us.all gd=true):eqv (.tup (ws.map .str)) (.tup (us.map .str))=some (ws==us):=
  (eqd_of toPD_tup toPD_tup (shaped_tup h) (shaped_tup k)).trans (by unfold PyData.eqv;rw [eqvAll_strs])
theorem p_eqT {l:List PV} {b:PV} {o:Bool} (h:eqv (.tup l) b=some o):cmpE K C st .Eq (.tup l) b=some (.ok (.bool o)):=akb (a:=o) (congrArg (Option.map id) h) rfl
theorem p_neL {l:List PV} {b:PV} {o:Bool} (h:eqv (.list l) b=some o):cmpE K C st .NotEq (.list l) b=some (.ok (.bool (!o))):=akb (a:=!o) (congrArg (Option.map not) h) rfl
noncomputable def five (a b c:Int) (e u:List PySem.Str):List PV:=[.int a,.int b,.int c,.tup (e.map .str),.tup (u.map .str)]
noncomputable def fiveD (a b c:Int) (e u:List PySem.Str):List PyData:=[.int a,.int b,.int c,.tuple (e.map .str),.tuple (u.map .str)]
theorem toPDs_c {p:PV} {d:PyData} {l:List PV} {ds:List PyData} (h:toPD p=some d) (k:toPDs l=some ds):toPDs (p::l)=some (d::ds):=akb h (congrArg (Option.map (d::·)) k)
theorem toPD_five {a b c:Int} {e u:List PySem.Str}:toPDs (five a b c e u)=some (fiveD a b c e u):=toPDs_c rfl (toPDs_c rfl (toPDs_c rfl (toPDs_c toPD_tup (toPDs_c toPD_tup rfl))))
theorem shaped_five {a b c:Int} {e u:List PySem.Str} (he:e.all gd=true) (hu:u.all gd=true):PySem.SeqAt.shaped (.tuple (fiveD a b c e u))=true∧PySem.SeqAt.shaped (.list (fiveD a b c e u))=true:=by
  have h1:PyData.canLayAll0 (fiveD a b c e u)=true:=by
    unfold fiveD
    simp only [PyData.canLayAll0,PyData.canLay0,canLay_all he,canLay_all hu,Bool.and_self]
  have h2:PyData.depthAll (fiveD a b c e u)≤1:=by
    unfold fiveD
    simp only [PyData.depthAll,PyData.depth,depth_strs]
    decide
  constructor
  all_goals
    unfold PySem.SeqAt.shaped PyData.canLay0 PyData.depth
    rw [h1,Bool.true_and,decide_eq_true_eq]
    lia
theorem eqv_five {a b c a' b' c':Int} {e u e' u':List PySem.Str}:PyData.eqvAll (fiveD a b c e u) (fiveD a' b' c' e' u')=(a==a'&&(b==b'&&(c==c'&&(e==e'&&(u==u'&&true))))):=by
  unfold fiveD
  simp only [PyData.eqvAll,PyData.eqv,eqvAll_strs]
theorem p_five {a b c a' b' c':Int} {e u e' u':List PySem.Str} (he:e.all gd=true) (hu:u.all gd=true) (he':e'.all gd=true) (hu':u'.all gd=true):
    eqv (.tup (five a b c e u)) (.tup (five a' b' c' e' u'))=some (a==a'&&(b==b'&&(c==c'&&(e==e'&&(u==u'&&true))))) ∧
    eqv (.list (five a b c e u)) (.list (five a' b' c' e' u'))=some (a==a'&&(b==b'&&(c==c'&&(e==e'&&(u==u'&&true))))):=by
  have t:∀ (a b c:Int) (e u:List Str),toPD (.tup (five a b c e u))=some (.tuple (fiveD a b c e u)):=fun Z Z Z Z Z=>congrArg (Option.map PyData.tuple) toPD_five
  have l:∀ (a b c:Int) (e u:List Str),toPD (.list (five a b c e u))=some (.list (fiveD a b c e u)):=fun Z Z Z Z Z=>congrArg (Option.map PyData.list) toPD_five
  constructor
  · exact (eqd_of (t ..) (t ..) (shaped_five he hu).1 (shaped_five he' hu').1).trans (by unfold PyData.eqv;rw [eqv_five])
  · exact (eqd_of (l ..) (l ..) (shaped_five he hu).2 (shaped_five he' hu').2).trans (by unfold PyData.eqv;rw [eqv_five])
end
end Mine
end
section
set_option tactic.hygienic true
open PySem PySem.W PySem.Calls PyProof.Rows
namespace Mine
noncomputable abbrev mk (l:List Nat):PySem.Str:=⟨⟨l⟩⟩
noncomputable def cutB (c:Nat) (l:List Nat):List Nat:=l.takeWhile (· != c)
noncomputable def cutA (c:Nat) (l:List Nat):List Nat:=(l.dropWhile (· != c)).drop 1
noncomputable def addH (a:Nat):List (List Nat)→List (List Nat)
  | []=>[[a]]
  | h::t=>(a::h)::t
noncomputable def spl (c:Nat):List Nat→List (List Nat)
  | []=>[[]]
  | a::r=>if a==c then []::spl c r else addH a (spl c r)
theorem spl_hit {c:Nat} {r:List Nat}:spl c (c::r)=[]::spl c r:=if_pos (beq_self_eq_true c)
theorem spl_step {a c:Nat} {r:List Nat} (h:(a==c)=false):spl c (a::r)=addH a (spl c r):=if_neg (Bool.eq_false_iff.mp h)
theorem spl_sum {c:Nat}:∀ l:List Nat,((spl c l).map List.length).sum+(spl c l).length=l.length+1
  | []=>rfl
  | a::r=>by
    have ih:=spl_sum (c:=c) r
    induction q:(a==c) with
    | true=>
      obtain rfl:=beq_iff_eq.mp q
      rw [spl_hit]
      simp only [List.map_cons,List.sum_cons,List.length_cons,List.length_nil] at ih ⊢
      lia
    | false=>
      rw [spl_step q]
      generalize spl c r=w at ih
      induction w using List.casesOn with
      | nil=>cases ih
      | cons h t=>
        refine (?_:(((a::h)::t).map List.length).sum+((a::h)::t).length=_)
        simp only [List.map_cons,List.sum_cons,List.length_cons] at ih ⊢
        lia
noncomputable def joinL (c:Nat):List (List Nat)→List Nat
  | []=>[]
  | [x]=>x
  | x::y::r=>x++c::joinL c (y::r)
theorem cut_eq {c:Nat} {l:List Nat} (h:c∈l):l=cutB c l++c::cutA c l:=by
  unfold cutB cutA
  induction l with
  | nil=>cases h
  | cons a r ih=>
    by_cases e:a=c
    · subst e
      simp
    · have h':c∈r:=by rcases List.mem_cons.mp h with q | q;exact absurd q.symm e;exact q
      have hb:(a != c)=true:=by simpa using e
      rw [List.takeWhile_cons,List.dropWhile_cons,hb]
      simp only [if_true,List.cons_append]
      rw [← ih h']
theorem cutB_free {c:Nat} {l:List Nat}:c∉cutB c l:=by
  unfold cutB
  intro h
  have:=List.all_takeWhile (l:=l) (p:=(· != c))
  rw [List.all_eq_true] at this
  simpa using this _ h
theorem cutB_app {c:Nat} {a b:List Nat} (h:c∉a):cutB c (a++c::b)=a∧cutA c (a++c::b)=b:=by
  unfold cutB cutA
  induction a with
  | nil=>simp
  | cons x r ih=>
    have e:(x != c)=true:=by
      have:x≠c:=fun e=>h (e▸.head _)
      simpa using this
    have ih:=ih fun q=>h (.tail _ q)
    rw [List.cons_append,List.takeWhile_cons,List.dropWhile_cons,e]
    simp only [if_true]
    exact ⟨by rw [ih.1],ih.2⟩
theorem spl_ne {c:Nat}:∀ l,spl c l≠[]
  | l=>fun e=>by
    have:=spl_sum (c:=c) l
    rw [e] at this
    cases this
theorem spl_free_one {c:Nat}:∀ {a:List Nat},c∉a→spl c a=[a]
  | [],_=>rfl
  | x::r,h=>by
    have e:(x==c)=false:=by
      have:x≠c:=fun e=>h (e▸.head _)
      simpa using this
    rw [spl_step e,spl_free_one fun q=>h (.tail _ q)];rfl
theorem spl_app {c:Nat} {b:List Nat}:∀ {a:List Nat},c∉a→spl c (a++c::b)=a::spl c b
  | [],_=>spl_hit
  | x::r,h=>by
    have e:(x==c)=false:=by
      have:x≠c:=fun e=>h (e▸.head _)
      simpa using this
    rw [List.cons_append,spl_step e,spl_app fun q=>h (.tail _ q)];rfl
theorem spl_join {c:Nat}:∀ {ws:List (List Nat)},ws≠[]→(∀ w∈ws,c∉w)→spl c (joinL c ws)=ws
  | [],h,_=>absurd rfl h
  | [x],_,h=>spl_free_one (h x (.head _))
  | x::y::r,_,h=>by
    show spl c (x++c::joinL c (y::r))=_
    rw [spl_app (h x (.head _)),spl_join (by nofun) fun w hw=>h w (.tail _ hw)]
theorem joinL_part {c:Nat} {w:List Nat}:∀ {ws:List (List Nat)},w∈ws→w.length≤(joinL c ws).length
  | [x],h=>by rw [List.mem_singleton.mp h];exact Nat.le_refl _
  | x::y::r,h=>by
    show w.length≤(x++c::joinL c (y::r)).length
    rw [List.length_append,List.length_cons]
    rcases List.mem_cons.mp h with h | h
    · rw [h];exact Nat.le_add_right _ _
    · have:=joinL_part (c:=c) h;lia
theorem join_cps {c:Nat}:∀ ws:List (List Nat),PySem.Str.join (ch c) (ws.map mk)=mk (joinL c ws)
  | []=>rfl
  | [_]=>rfl
  | x::y::r=>by
    show mk x++ch c++PySem.Str.join (ch c) ((y::r).map mk)=_
    rw [join_cps (y::r)]
    apply PySem.Str.ext'
    show ((⟨x⟩:Array Nat)++#[c]++⟨joinL c (y::r)⟩)=⟨x++c::joinL c (y::r)⟩
    simp
theorem map_mk (ws:List PySem.Str):(ws.map (·.cps.toList)).map mk=ws:=by
  rw [List.map_map];exact List.map_id' ws
theorem join_eq (c:Nat) (ws:List (List Nat)):PySem.Txt.join (ch c) (ws.map mk)=mk (joinL c ws):=by
  rw [← join_cps];exact PySem.StrLaws.glued_eq_join _ _
theorem split_eq (c:Nat) (l:List Nat):PySem.Txt.split (mk l) (ch c)=(spl c l).map mk:=by
  have h1:=PySem.StrLaws.join_split (mk l) (ch c)
  have h2:=PySem.StrLaws.split_free (mk l) c
  generalize hw:PySem.Txt.split (mk l) (ch c)=ws at h1
  have h2:∀ p∈ws,c∉p.cps.toList:=by rw [← hw];exact h2
  have hne:ws≠[]:=by
    rw [← hw]
    unfold PySem.Txt.split
    split
    · nofun
    · split
      · nofun
      · rw [PySem.StrLaws.partsBetween_eq]
        obtain ⟨p,r,e⟩:=PySem.StrLaws.partsFrom_ne (mk l) (ch c).length 0 (PySem.Builtin.Str.occurrences (mk l) (ch c) 0 (mk l).length ((mk l).length+1))
        rw [e];nofun
  rw [← map_mk ws] at h1 ⊢
  rw [join_cps] at h1
  have h3:joinL c (ws.map (·.cps.toList))=l:=congrArg (fun x:PySem.Str=>x.cps.toList) h1
  rw [← h3,spl_join (by simpa using hne) fun w hw=>by
    obtain ⟨p,hp,rfl⟩:=List.mem_map.mp hw;clear hw
    exact h2 p hp]
theorem slice_is (x:PySem.Str) (l u:Option Int):PySem.Txt.slice x l u=PySem.StrLaws.sliceText x l u:=rfl
theorem slice_from {l:List Nat} {i:Nat} (h:i≤l.length):PySem.Txt.slice (mk l) (some (i:Int)) none=mk (l.drop i):=by
  rw [slice_is,PySem.StrLaws.sliceText_from (by constructor<;>show _<;>simp<;>lia)]
  show (⟨⟨_⟩⟩:PySem.Str)=_
  congr 2
  show ((l.drop _).take _)=_
  rw [List.take_of_length_le]
  · rfl
  · simp
theorem slice_to {l:List Nat} {i:Nat} (h:i≤l.length):PySem.Txt.slice (mk l) none (some (i:Int))=mk (l.take i):=by
  rw [slice_is,PySem.StrLaws.sliceText_to (by constructor<;>show _<;>simp<;>lia)]
  show (⟨⟨_⟩⟩:PySem.Str)=_
  congr 2
end Mine
end
section
open PySem PySem.W PySem.Calls PyProof.Rows
namespace Mine
section
variable {P:Params}
theorem gv_len:gval (KF P) (so "len")=some (.glob (.builtin "len")):=by kernel_rfl
theorem gv_abs:gval (KF P) (so "abs")=some (.glob (.builtin "abs")):=by kernel_rfl
theorem gv_isi:gval (KF P) (so "isinstance")=some (.glob (.builtin "isinstance")):=by kernel_rfl
theorem gv_str:gval (KF P) (so "str")=some (.glob (.type "str")):=by kernel_rfl
theorem gv_int:gval (KF P) (so "int")=some (.glob (.type "int")):=by kernel_rfl
theorem gv_tup:gval (KF P) (so "tuple")=some (.glob (.type "tuple")):=by kernel_rfl
theorem gv_lst:gval (KF P) (so "list")=some (.glob (.type "list")):=by kernel_rfl
theorem gv_rng:gval (KF P) (so "range")=some (.glob (.type "range")):=by kernel_rfl
theorem gv_ve:gval (KF P) (so "ValueError")=some (.glob (.type "ValueError")):=by kernel_rfl
theorem gv_ver:gval (KF P) (so "Version")=some (.glob (.ref 448)):=by kernel_rfl
theorem gv_num:gval (KF P) (so "NumericIdentifier")=some (.glob (.ref 180)):=by kernel_rfl
theorem gv_alp:gval (KF P) (so "AlphaIdentifier")=some (.glob (.ref 243)):=by kernel_rfl
theorem gv_max:gval (KF P) (so "MaxIdentifier")=some (.glob (.ref 117)):=by kernel_rfl
theorem gv_hlz:gval (KF P) (so "_has_leading_zero")=some (.glob (.ref 65)):=by kernel_rfl
theorem gv_val:gval (KF P) (so "validate")=some (.glob (.ref 459)):=by kernel_rfl
theorem gv_lws:gval (KF P) (so "_law_words")=some (.glob (.ref 466)):=by kernel_rfl
theorem gv_odd:gval (KF P) (so "_law_odd")=some (.glob (.ref 473)):=by kernel_rfl
theorem gv_t1:gval (KF P) (so "_twin_re_1")=some (.glob (.ref 43)):=by kernel_rfl
theorem gv_t2:gval (KF P) (so "_twin_re_2")=some (.glob (.ref 48)):=by kernel_rfl
theorem gv_t3:gval (KF P) (so "_twin_re_3")=some (.glob (.ref 53)):=by kernel_rfl
theorem gv_t4:gval (KF P) (so "_twin_re_4")=some (.glob (.ref 58)):=by kernel_rfl
end
section
variable {K:Frag} {C:CallSem} {st:Bool} {fm:Fm} {l:List Nat}
noncomputable def wl (ws:List (List Nat)):PV:=.list (ws.map fun w=>PV.str (mk w))
theorem wl_eq (ws:List (List Nat)):wl ws=.list ((ws.map mk).map .str):=by unfold wl;rw [List.map_map];rfl
theorem tg_join {x:Str}:tgtOf K fm (.str x) (Str.ofString "join")=some (.str x .join):=by kernel_rfl
theorem tg_split {x:Str}:tgtOf K fm (.str x) (Str.ofString "split")=some (.str x .split):=by kernel_rfl
theorem tg_isd {x:Str}:tgtOf K fm (.str x) (Str.ofString "isdigit")=some (.str x .isdigit):=by kernel_rfl
theorem tg_enc {x:Str}:tgtOf K fm (.str x) (Str.ofString "encode")=some (.str x .encode):=by kernel_rfl
theorem tg_lst {x:Str}:tgtOf K fm (.str x) (Str.ofString "lstrip")=some (.str x .lstrip):=by kernel_rfl
theorem tg_cnt {x:Str}:tgtOf K fm (.str x) (Str.ofString "count")=some (.str x .count):=by kernel_rfl
theorem p_in_plus:cmpE K C st .In (.str (Str.ofString "+")) (.str (mk l))=some (.ok (.bool (decide (43∈l)))):=by
  rw [show Str.ofString "+"=ch 43 by decide +kernel];exact p_in
theorem dotC:Str.ofString "."=ch 46:=by decide +kernel
theorem r_split (h:decide (l.length≤1000)=true):runT C st (Str.ofString "split") (.str (mk l) .split) [.str (Str.ofString ".")] []=some (.ok (wl (spl 46 l))):=by
  show splitE (mk l) (Str.ofString ".")=_
  unfold splitE
  rw [dotC,split_eq,wl_eq]
  refine grb ?_ rfl
  have:=of_decide_eq_true h
  show (!(false||decide (lenLine≤l.length+2)))=true
  rw [decide_eq_false (by unfold lenLine;lia)];rfl
theorem smallI_t {i:Int} (h0:0≤i) (h1:i < 10 ^ 250):smallI i=true:=by unfold smallI;rw [decide_eq_true h0,decide_eq_true h1];rfl
theorem p_add_int {i j:Int}:binE fm .Add (.int i) (.int j)=some (.ok (.int (i+j))):=rfl
theorem p_add_str {x y:PySem.Str} (h:decide (x.length+y.length≤lenLine)=true):binE fm .Add (.str x) (.str y)=some (.ok (.str (x++y))):=strR_ok (by rw [Str.length_append];exact of_decide_eq_true h)
theorem p_from {i:Nat} (h:i≤l.length):sliceE fm (.str (mk l)) (some (.int (i:Nat))) none=some (.ok (.str (mk (l.drop i)))):=by
  rw [← slice_from h];rfl
theorem p_to {i:Nat} (h:i≤l.length):sliceE fm (.str (mk l)) none (some (.int (i:Nat)))=some (.ok (.str (mk (l.take i)))):=by
  rw [← slice_to h];rfl
theorem len_str {x:PySem.Str}:callB K C st fm (.builtin "len") [.str x]=some (.ok (.int (x.length:Nat))):=rfl
theorem idx_str {c:Nat} {l:List Nat}:idxE fm (.str (mk (c::l))) (.int 0)=some (.ok (.str (ch c))):=akb (show asInt (.int 0)=some 0 from rfl) (grb rfl (akb (show (mk (c::l)).cps[(0:Int).toNat]?=some c from rfl) rfl))
theorem int_int {i:Int}:callB K C st fm (.type "int") [.int i]=some (.ok (.int i)):=rfl
theorem int_str {l:List Nat} (h:l≠[]) (hd:∀ c∈l,48≤c∧c≤57) (hl:l.length≤640):callB K C st fm (.type "int") [.str (mk l)]=some (.ok (.int (digitsVal l))):=by
  show intOfText (mk l)=_
  unfold intOfText
  have:(asciiDigits (mk l)&&decide ((mk l).length≤640))=true:=by
    unfold asciiDigits
    simp only [Bool.and_eq_true,List.all_eq_true,decide_eq_true_eq]
    refine ⟨⟨?_,hd⟩,hl⟩
    induction l using List.casesOn with
    | nil=>exact absurd rfl h
    | cons a r=>rfl
  exact grb this rfl
end
end Mine
end
section
open PySem PySem.W PySem.Calls PyProof.Rows
namespace Mine
section
variable {K:Frag} {C:CallSem} {n:Nat} {st:Bool} {fm:Fm} {sc:PySem.Scope} {cd:PySem.Value} {l:Bnd} {c:List Unit} {m:Option MO} {x:PySem.Str} {v:PV} {Q:SR→Prop} {r:List PySem.Stmt}
theorem xs_pair {y px py kx pt pl e ke pe q} {vs:List PV} {ns:List Str} (F:Fr sc cd l c m fm) (hm:mutNames.contains x=false) (hsw:swapT sc [.Name x px,.Name y py] (.Tuple [.List [] pl,e] ke pe)=some (some ns)) (hn:(ns.reverse.all (isLocal sc)&&ns.reverse.length==vs.reverse.length)=true)
    (he:EV K C n st fm (.Tuple [.List [] pl,e] ke pe) (.tup vs)) (k:∀ fm',Fr sc cd (prs ns.reverse vs.reverse l) c m fm'→XS K C (n+1) st fm' r Q):XS K C (n+2) st fm (.Assign [.Tuple [.Name x px,.Name y py] kx pt] (.Tuple [.List [] pl,e] ke pe) q::r) Q:=by
  obtain ⟨fm',e1,F'⟩:=Fr.sets (vs:=vs.reverse) F (and_tt hn).1 (beq_iff_eq.mp (and_tt hn).2)
  refine xs_cons ⟨.nx fm',akb (a:=some ns) (by rw [F.scope];exact hsw) ?_,k fm' F'⟩
  rw [hm]
  exact sb he (setTv_of rfl e1)
theorem xs_ifM {t b o p tb} (M:Fm→Prop) (ht:TE K C (n+1) st fm t tb) (kb:XS K C (n+1) st fm (if tb then b else o) (next M Q)) (kr:∀ fm',M fm'→XS K C (n+2) st fm' r Q):XS K C (n+3) st fm (.If t b o p::r) Q:=
  xs_if ht (kb.mono fun sr h=>by induction sr with
    | nx f=>exact kr f h
    | rt v f=>exact h
    | ex f=>exact h)
theorem fn_ret' {a:Addr} {args kw ss} {N:Nat} (e:callAt K n st a args kw=noExc st (endOf (execEs K C N st { scope:=sc,loc:=l,cel:=[],mu:=none,code:=cd } ss))) (hv:solid v=true) (h:∀ fm,Fr sc cd l [] none fm→XS K C N st fm ss fun r=>∃ f,r=.rt v f):callAt K n st a args kw=some (.ok v):=fn_ret e hv (h _ F0)
theorem fn_end' {a:Addr} {args kw ss} {N:Nat} (e:callAt K n st a args kw=noExc st (endOf (execEs K C N st { scope:=sc,loc:=l,cel:=[],mu:=none,code:=cd } ss))) (h:∀ fm,Fr sc cd l [] none fm→XS K C N st fm ss fun r=>∃ f,r=.nx f):callAt K n st a args kw=some (.ok .none):=fn_end e (h _ F0)
theorem fn_exc' {a:Addr} {args kw ss} {N:Nat} (e:callAt K n false a args kw=noExc false (endOf (execEs K C N false { scope:=sc,loc:=l,cel:=[],mu:=none,code:=cd } ss))) (h:∀ fm,Fr sc cd l [] none fm→XS K C N false fm ss fun r=>∃ f,r=.ex f):callAt K n false a args kw=some .exc:=fn_exc e (h _ F0)
theorem gd_size {l:List Nat} (h:gd (mk l)=true):l.length≤600:=by
  unfold gd at h
  rw [Bool.and_eq_true] at h
  exact of_decide_eq_true h.2
theorem te_or2 {e e' p b1 b2} (h1:TE K C (n+2) st fm e b1) (h2:b1=false→TE K C (n+1) st fm e' b2):TE K C (n+4) st fm (.BoolOp .Or [e,e'] p) (b1||b2):=
  te_bool (ts_or h1 (fun q=>by
    rw [q,Bool.false_or]
    exact ts_or (h2 q) (fun q=>q▸ts_nil) fun q=>q) fun q=>by rw [q];rfl)
theorem te_and2 {e e' p b1 b2} (h1:TE K C (n+2) st fm e b1) (h2:b1=true→TE K C (n+1) st fm e' b2):TE K C (n+4) st fm (.BoolOp .And [e,e'] p) (b1&&b2):=
  te_bool (ts_and h1 (fun q=>by
    rw [q,Bool.true_and]
    exact ts_and (h2 q) (fun q=>q▸ts_nil) fun q=>q) fun q=>by rw [q];rfl)
end
end Mine
end
section
set_option tactic.hygienic true
open PySem PySem.W PySem.Calls PyProof.Rows
namespace Mine
section
variable {K:Frag} {C:CallSem} {n:Nat} {st:Bool} {fm:Fm} {sc:PySem.Scope} {cd:PySem.Value} {l:Bnd} {c:List Unit} {m:Option MO} {x:PySem.Str} {v:PV} {Q:SR→Prop} {r:List PySem.Stmt}
theorem fo_rule0 {x b} {N:Nat} (I:List PV→Fm→Prop) (step:∀ v vs k fm,I (v::vs) fm→∃ fm',setN fm x v=some fm'∧XS K C (k+N) st fm' b (next (I vs) Q)) (fin:∀ fm,I [] fm→Q (.nx fm)):
    ∀ (l:List PV) (k:Nat) (fm:Fm),I l fm→FO K C (k+l.length+N+1) st fm x l b Q
  | [],k,fm,h=>fo_nil (fin fm h)
  | v::vs,k,fm,h=>by
    obtain ⟨fm',e1,sr,e2,q⟩:=step v vs (k+vs.length+1) fm h
    obtain ⟨r',e',q'⟩:=then_of (f:=fun g=>forE K C (k+vs.length+1+N) st g x vs b) q fun g h=>by
      have:=fo_rule0 I step fin vs k g h
      rwa [Nat.add_right_comm _ N 1] at this
    exact ⟨r',akb e1 (akb e2 e'),q'⟩
theorem fo_rule {x b} {N:Nat} (I:List PV→Fm→Prop) (step:∀ v vs k fm,I (v::vs) fm→∃ fm',setN fm x v=some fm'∧XS K C (k+N) st fm' b (next (I vs) Q)) (fin:∀ fm,I [] fm→Q (.nx fm)) (l:List PV) (k:Nat) (fm:Fm) (h:I l fm) (hk:l.length+N+1≤k):FO K C k st fm x l b Q:=by
  have:=fo_rule0 I step fin l (k - (l.length+N+1)) fm h
  rwa [show k - (l.length+N+1)+l.length+N+1=k by rw [Nat.add_assoc (k - _) l.length N];exact Nat.sub_add_cancel hk] at this
noncomputable abbrev PS (K:Frag) (C:CallSem) (n:Nat) (st:Bool) (fm:Fm) (e:List PySem.Expr) (v:List PySem.Str):Prop:=partsE K C n st fm e=some (.ok v)
theorem ps_nil:PS K C (n+1) st fm [] []:=rfl
theorem ps_c {x:Str} {k:Nat} {p r ps} (h:decide (x.length≤1000)=true) (q:PS K C n st fm r ps):PS K C (n+1) st fm (.Constant (.str x) k p::r) (x::ps):=grb h (rb q rfl)
theorem ps_s {x:Str} {e p r ps} (he:EV K C n st fm e (.str x)) (h:decide (x.length≤100000)=true) (q:PS K C n st fm r ps):PS K C (n+1) st fm (.FormattedValue e 115 .none p::r) (x::ps):=grb rfl (rb he (akb (a:=x) rfl (grb h (rb q rfl))))
theorem ev_fs {a b r p ps} (h:PS K C n st fm (a::b::r) ps) (hr:decide (r.length≤8)=true) (k:joinR ps=some (.ok v)):EV K C (n+1) st fm (.JoinedStr (a::b::r) p) v:=grb hr (rb h k)
theorem gd_r {x:Str} (h:gd x=true):(x.cps.toList.all (· < 128)&&decide (x.length≤100000))=true:=by
  unfold gd asc at h
  rw [Bool.and_eq_true,decide_eq_true_eq] at h ⊢
  exact ⟨h.1,by lia⟩
theorem p_fmt {f x:Str} (hf:errF f=true) (hx:gd x=true):binE fm .Mod (.str f) (.str x)=some (.ok .any):=grb (b:=errF f&&asciiT x) (by rw [hf,show asciiT x=true from gd_r hx];rfl) rfl
theorem xs_if_t {t b o p} (ht:TE K C (n+1) st fm t true) (k:XS K C (n+1) st fm b (next (fun f=>XS K C (n+2) st f r Q) Q)):XS K C (n+3) st fm (.If t b o p::r) Q:=xs_if (tb:=true) ht k
theorem xs_if_e {t b o p} (ht:TE K C (n+1) st fm t false) (k:XS K C (n+1) st fm o (next (fun f=>XS K C (n+2) st f r Q) Q)):XS K C (n+3) st fm (.If t b o p::r) Q:=xs_if (tb:=false) ht k
theorem xs_if_f {t b p} (ht:TE K C (n+1) st fm t false) (k:XS K C (n+2) st fm r Q):XS K C (n+3) st fm (.If t b [] p::r) Q:=xs_if_e ht (xs_nil k)
structure GW (ws:List (List Nat)):Prop where
  gd:(ws.map mk).all gd=true
  sum:(ws.map List.length).sum+ws.length≤2000
  len:ws.length≤170
theorem GW_nil:GW []:=⟨rfl,by decide,by decide⟩
theorem strsOf_map {ws:List (List Nat)}:strsOf (ws.map fun w=>PV.str (mk w))=some (ws.map mk):=by
  induction ws with
  | nil=>rfl
  | cons w r ih=>
    exact akb (show asStr (.str (mk w))=some (mk w) from rfl) (congrArg (Option.map (mk w::·)) ih)
theorem sum_mk (ws:List (List Nat)):((ws.map mk).map (·.length)).sum+(ws.map mk).length=(ws.map List.length).sum+ws.length:=by
  rw [List.map_map,List.length_map];rfl
theorem joinL_len {c:Nat}:∀ ws:List (List Nat),(joinL c ws).length≤(ws.map List.length).sum+ws.length
  | []=>Nat.zero_le _
  | [x]=>by show x.length≤_;simp
  | x::y::r=>by
    have:=joinL_len (c:=c) (y::r)
    show (x++c::joinL c (y::r)).length≤_
    simp only [List.map_cons,List.sum_cons,List.length_cons,List.length_append] at this ⊢
    lia
noncomputable def wt (ws:List (List Nat)):PV:=.tup (ws.map fun w=>PV.str (mk w))
theorem wt_eq (ws:List (List Nat)):wt ws=.tup ((ws.map mk).map .str):=by unfold wt;rw [List.map_map];rfl
theorem tup_wl2 {ws:List (List Nat)}:callB K C st fm (.type "tuple") [wl ws]=some (.ok (wt ws)):=rfl
theorem join_at {x:Str} {ws:List (List Nat)} (hx:decide (x.length≤16)=true) (h:(ws.map List.length).sum+ws.length≤100000) (hl:(PySem.Txt.join x (ws.map mk)).length≤lenLine):joinL' x (ws.map fun w=>PV.str (mk w))=some (.ok (.str (PySem.Txt.join x (ws.map mk)))):=
  akb strsOf_map (grb (by rw [sum_mk,decide_eq_true h,hx];rfl) (strR_ok hl))
theorem join_dot {ws:List (List Nat)} (h:GW ws):joinL' (Str.ofString ".") (ws.map fun w=>PV.str (mk w))=some (.ok (.str (mk (joinL 46 ws)))):=by
  have h1:=joinL_len (c:=46) ws
  have h2:=h.sum
  rw [← join_eq,← dotC]
  refine join_at (by decide +kernel) (by lia) ?_
  rw [dotC,join_eq]
  show (joinL 46 ws).length≤lenLine
  unfold lenLine;lia
theorem r_joinL {ws:List (List Nat)} (h:GW ws):runT C st (Str.ofString "join") (.str (Str.ofString ".") .join) [wl ws] []=some (.ok (.str (mk (joinL 46 ws)))):=join_dot h
theorem r_joinT {ws:List (List Nat)} (h:GW ws):runT C st (Str.ofString "join") (.str (Str.ofString ".") .join) [wt ws] []=some (.ok (.str (mk (joinL 46 ws)))):=join_dot h
theorem joinL_mem {c d:Nat}:∀ {ws:List (List Nat)},d∈joinL c ws→d=c∨∃ w∈ws,d∈w
  | [],h=>nomatch h
  | [x],h=>.inr ⟨x,.head _,h⟩
  | x::y::r,h=>by
    rcases List.mem_append.mp (show d∈x++c::joinL c (y::r) from h) with h | h
    · exact .inr ⟨x,.head _,h⟩
    · rcases List.mem_cons.mp h with h | h
      · exact .inl h
      · rcases joinL_mem h with h | ⟨w,hw,h⟩
        · exact .inl h
        · exact .inr ⟨w,.tail _ hw,h⟩
end
end Mine
end
section
set_option tactic.hygienic true
open PySem PySem.W PySem.Calls PyProof.Rows
namespace Mine
noncomputable abbrev Five:=List Nat×List Nat×List Nat×Option (List Nat)×Option (List Nat)
noncomputable def grp (x:Five):List (Option PySem.Str):=[some (mk x.1),some (mk x.2.1),some (mk x.2.2.1),x.2.2.2.1.map mk,x.2.2.2.2.map mk]
noncomputable def opt (c:Nat):Option (List Nat)→List Nat
  | none=>[]
  | some w=>c::w
noncomputable def comp5 (x:Five):List Nat:=x.1++46::(x.2.1++46::(x.2.2.1++(opt 45 x.2.2.2.1++opt 43 x.2.2.2.2)))
noncomputable def optOk (w:Option (List Nat)):Prop:=∀ u,w=some u→u≠[]∧u.all isC=true
structure Ok5 (x:Five):Prop where
  a:x.1≠[]∧x.1.all isD=true
  b:x.2.1≠[]∧x.2.1.all isD=true
  c:x.2.2.1≠[]∧x.2.2.1.all isD=true
  p:optOk x.2.2.2.1
  q:optOk x.2.2.2.2
theorem tw_app {p:Nat→Bool} {a b:List Nat} (ha:a.all p=true) (hb:∀ c r,b=c::r→p c=false):(a++b).takeWhile p=a∧(a++b).drop a.length=b:=by
  refine ⟨?_,List.drop_left⟩
  rw [List.takeWhile_append_of_pos fun x hx=>List.all_eq_true.mp ha x hx]
  induction b using List.casesOn with
  | nil=>simp
  | cons c r=>rw [List.takeWhile_cons,hb c r rfl];simp
theorem isEmpty_ne {l:List Nat} (h:l≠[]):l.isEmpty=false:=by cases l<;>first | rfl | exact absurd rfl h
theorem m3b_met {q:Option (List Nat)} (h:optOk q):m3b (opt 43 q)=some (q.map mk):=by
  induction q with
  | none=>rfl
  | some w=>
    obtain ⟨h1,h2⟩:=h w rfl
    have e:=(tw_app (b:=[]) h2 fun Z Z e=>nomatch e).1
    rw [List.append_nil] at e
    show m3b (43::w)=_
    rw [m3b_43,run_t (by rw [e];exact isEmpty_ne h1),e,List.drop_length]
    rfl
theorem m3p_met {p q:Option (List Nat)} (hp:optOk p) (hq:optOk q):m3p (opt 45 p++opt 43 q)=some (p.map mk,q.map mk):=by
  induction p with
  | none=>
    show m3p (opt 43 q)=_
    induction q with
    | none=>rfl
    | some w=>
      show m3p (43::w)=_
      rw [m3p_no (by decide)]
      exact congrArg (Option.map _) (m3b_met hq)
  | some w=>
    obtain ⟨h1,h2⟩:=hp w rfl
    have e:=tw_app (b:=opt 43 q) h2 fun c r e=>by
      induction q with
      | none=>cases e
      | some u=>cases e;rfl
    show m3p (45::(w++opt 43 q))=_
    rw [m3p_45,run_t (by rw [e.1];exact isEmpty_ne h1),e.1,e.2,m3b_met hq]
    rfl
theorem m3_met {x:Five} (h:Ok5 x) (hd:isD 46=false∧isD 45=false∧isD 43=false):m3 (comp5 x)=some (grp x):=by
  obtain ⟨a,b,c,p,q⟩:=x
  have e1:=tw_app (b:=46::(b++46::(c++(opt 45 p++opt 43 q)))) h.a.2 fun c r e=>by cases e;exact hd.1
  have e2:=tw_app (b:=46::(c++(opt 45 p++opt 43 q))) h.b.2 fun c r e=>by cases e;exact hd.1
  have e3:=tw_app (b:=opt 45 p++opt 43 q) h.c.2 fun d r e=>by
    induction p with
    | some w=>cases e;exact hd.2.1
    | none=>induction q with
      | some w=>cases e;exact hd.2.2
      | none=>cases e
  show m3 (a++46::(b++46::(c++(opt 45 p++opt 43 q))))=_
  refine (run46 (by rw [e1.1];exact isEmpty_ne h.a.1) (by rw [e1.1];exact e1.2)).trans ((run46 (by rw [e2.1];exact isEmpty_ne h.b.1) (by rw [e2.1];exact e2.2)).trans ((run_t (by rw [e3.1];exact isEmpty_ne h.c.1)).trans ?_))
  rw [e1.1,e2.1,e3.1,e3.2,m3p_met h.p h.q]
  rfl
end Mine
end
section
open PySem PySem.W PySem.Calls PyProof.Rows
namespace Mine
section
variable {K:Frag} {C:CallSem} {n:Nat} {st:Bool} {fm:Fm} {sc:PySem.Scope} {cd:PySem.Value} {l:Bnd} {c:List Unit} {m:Option MO} {x:PySem.Str} {v:PV} {Q:SR→Prop} {r:List PySem.Stmt}
theorem F0m:Fr sc cd l [] m { scope:=sc,loc:=l,cel:=[],mu:=m,code:=cd }:=⟨rfl,rfl,fun Z Z h=>h,.inl rfl,rfl⟩
noncomputable def clsEnd (a:Addr) (s:S):R PV:=ask s (madeR a)
theorem cls_end {a:Addr} {args kw ss fs} {N:Nat} (e:callAt K n st a args kw=noExc st (clsEnd a (execEs K C N st { scope:=sc,loc:=l,cel:=[],mu:=some (.inst a []),code:=cd } ss)))
    (h:∀ fm,Fr sc cd l [] (some (.inst a [])) fm→XS K C N st fm ss fun r=>∃ f,r=.nx f∧f.mu=some (.inst a fs)):callAt K n st a args kw=some (.ok (.inst a fs)):=by
  obtain ⟨r,e2,f,rfl,hf⟩:=h _ F0m
  rw [e,e2,← noExc_ok (st:=st)]
  exact congrArg (noExc st) (akb (a:=(a,fs)) (by unfold muInst;rw [hf]) (grb (beq_self_eq_true a) rfl))
theorem ev_gen {f fp elt xp iter scope gp pos} {L:List PV} (F:Fr sc cd l c m fm) (hf:nameE K fm f=some (.glob (.type "tuple"))) (hs:(genScope scope x&&plainIter iter&&codeHere { scope:=sc,loc:=[],cel:=[],mu:=none,code:=cd }&&modIn K)=true)
    (hi:iterE K C n false fm iter=some (.ok L)) (h:∀ v∈L,∀ fm',Fr scope .none [(x,v)] [] none fm'→∃ w,evalE K C n true fm' elt=some (.ok w)):
    EV K C (n+1) false fm (.Call (.Name f fp) [.GeneratorExp elt [⟨.Name x xp,iter,[],0⟩] scope gp] [] pos) .any:=by
  have:codeHere fm=codeHere { scope:=sc,loc:=[],cel:=[],mu:=none,code:=cd }:=by unfold codeHere;rw [F.code]
  refine grb (b:=genOk K false fm f scope x iter) ?_ (rb hi (grb (List.all_eq_true.mpr fun v hv=>?_) rfl))
  · unfold genOk
    rw [typ_of hf,this,hs]
  · obtain ⟨w,hw⟩:=h v hv _ (F0 (sc:=scope) (cd:=.none) (l:=[(x,v)]))
    rw [show (EvN K C n).E true (genFm scope x v) elt=some (.ok w) from hw];rfl
theorem r_encode {x:Str} (h:gd x=true):runT C st (Str.ofString "encode") (.str x .encode) [.str (Str.ofString "ascii")] []=some (.ok .any):=
  grb (b:=x.cps.toList.all (· < 128)&&Str.ofString "ascii"==Str.ofString "ascii") (by rw [(and_tt (gd_r h)).1,beq_self_eq_true];rfl) rfl
theorem hasInst_wt {D:Addr} {ws:List (List Nat)}:hasInst D (wt ws)=false:=by
  show hasInsts D (ws.map fun w=>.str (mk w))=false
  induction ws with
  | nil=>rfl
  | cons w r ih=>exact ih
theorem itemsOf_wt {ws:List (List Nat)}:itemsOf (wt ws)=some (ws.map fun w=>PV.str (mk w)):=rfl
theorem simple_wt (ws:List (List Nat)):(ws.map fun w=>PV.str (mk w)).all simple=true:=by
  induction ws with
  | nil=>rfl
  | cons w r ih=>exact ih
theorem truth_wt {ws:List (List Nat)}:truth (wt ws)=some (!ws.isEmpty):=by
  cases ws<;>rfl
theorem or_wt {e p q k} {ws:List (List Nat)} (h:EV K C (n+3) st fm e (wt ws)):EV K C (n+5) st fm (.BoolOp .Or [e,.Tuple [] k q] p) (wt ws):=by
  induction ws using List.casesOn with
  | nil=>exact ev_bool (be_or_f h rfl (be_one rfl))
  | cons w r=>exact ev_bool (be_or_t h rfl)
end
end Mine
end
section
open PySem PySem.W PySem.Calls PyProof.Rows
namespace Mine
section
variable {K:Frag} {C:CallSem} {n:Nat} {st:Bool} {fm:Fm} {sc:PySem.Scope} {cd:PySem.Value} {l:Bnd} {c:List Unit} {m:Option MO} {x:PySem.Str} {v:PV} {Q:SR→Prop} {r:List PySem.Stmt}
theorem eq_exprM {p mm q e r' pos} (hx:nameE K fm x=some v) (hv:solid v=true):execE K C (n+1) st fm (.Expr (.Call (.Attribute (.Name x p) mm q) [e] [] r') pos)=sbind (evalE K C n st fm (.Call (.Attribute (.Name x p) mm q) [e] [] r')) fm fun Z=>some (.nx fm):=by
  show (bif isOwn (nameE K fm x) then _ else _)=_
  rw [hx]
  cases v<;>first | rfl | exact nof hv
theorem xs_exprM {p mm q e r' pos w} (hx:nameE K fm x=some v) (hv:solid v=true) (he:EV K C n st fm (.Call (.Attribute (.Name x p) mm q) [e] [] r') w) (k:XS K C (n+1) st fm r Q):XS K C (n+2) st fm (.Expr (.Call (.Attribute (.Name x p) mm q) [e] [] r') pos::r) Q:=
  xs_cons ⟨.nx fm,by rw [eq_exprM hx hv];exact sb he rfl,k⟩
theorem xs_exprMX {p mm q e r' pos} (hx:nameE K fm x=some v) (hv:solid v=true) (he:evalE K C n st fm (.Call (.Attribute (.Name x p) mm q) [e] [] r')=some .exc) (k:Q (.ex fm)):XS K C (n+2) st fm (.Expr (.Call (.Attribute (.Name x p) mm q) [e] [] r') pos::r) Q:=
  xs_cons ⟨.ex fm,by rw [eq_exprM hx hv,he];rfl,k⟩
theorem mk_inj {a b:List Nat}:(mk a==mk b)=(a==b):=by
  rw [Bool.eq_iff_iff,beq_iff_eq,beq_iff_eq]
  exact ⟨fun h=>congrArg (fun x:PySem.Str=>x.cps.toList) h,fun h=>h▸rfl⟩
theorem maps_eq:∀ {a b:List (List Nat)},(a.map mk==b.map mk)=(a==b)
  | [],[]=>rfl
  | [],_::_=>rfl
  | _::_,[]=>rfl
  | x::a,y::b=>by
    have:=maps_eq (a:=a) (b:=b)
    show (mk x==mk y&&(a.map mk==b.map mk))=(x==y&&(a==b))
    rw [this,mk_inj]
theorem p_eq_wt {a b:List (List Nat)} (h:GW a) (k:GW b):cmpE K C st .Eq (wt a) (wt b)=some (.ok (.bool (a==b))):=by
  rw [wt_eq,wt_eq,p_eqT (eqv_tup h.gd k.gd),maps_eq]
noncomputable def five5 (i j k:Int) (e u:List (List Nat)):List PV:=[.int i,.int j,.int k,wt e,wt u]
theorem five_is {i j k:Int} {e u:List (List Nat)}:five5 i j k e u=five i j k (e.map mk) (u.map mk):=by unfold five5 five;rw [wt_eq,wt_eq]
noncomputable def same5 (i j k:Int) (e u:List (List Nat)) (i' j' k':Int) (e' u':List (List Nat)):Bool:=i==i'&&(j==j'&&(k==k'&&(e==e'&&(u==u'&&true))))
theorem p_lst5 {i j k i' j' k':Int} {e u e' u':List (List Nat)} (he:GW e) (hu:GW u) (he':GW e') (hu':GW u'):
    cmpE K C st .NotEq (.list (five5 i j k e u)) (.list (five5 i' j' k' e' u'))=some (.ok (.bool (!same5 i j k e u i' j' k' e' u'))):=by
  rw [five_is,five_is,p_neL (p_five he.gd hu.gd he'.gd hu'.gd).2,maps_eq,maps_eq];rfl
end
end Mine
end
section
open PySem PySem.W PySem.Calls PyProof.Rows
namespace Mine
section
variable {K:Frag} {C:CallSem} {n:Nat} {st:Bool} {fm:Fm} {sc:PySem.Scope} {cd:PySem.Value} {l:Bnd} {c:List Unit} {m:Option MO} {x:PySem.Str} {v:PV} {Q:SR→Prop} {r:List PySem.Stmt}
theorem p_mod {i j:Int} (h:(j==0)=false):binE fm .Mod (.int i) (.int j)=some (.ok (.int (i.fmod j))):=grb (b:=!(j==0)) (by rw [h];rfl) rfl
theorem p_div {i j:Int} (h:(j==0||!decide (j.natAbs < 1073741824))=false):binE fm .FloorDiv (.int i) (.int j)=some (.ok (.int (i.fdiv j))):=grb (b:=!(j==0||!decide (j.natAbs < 1073741824))) (by rw [h];rfl) rfl
theorem p_pow {i j:Int} (h:(decide (0≤j)&&decide (j≤100)&&decide (0≤i)&&decide (i≤100))=true):binE fm .Pow (.int i) (.int j)=some (.ok (.int (i ^ j.toNat))):=grb h rfl
theorem fmod0 {x k:Int} (hk:0 < k):0≤x.fmod k∧x.fmod k < k:=⟨Int.fmod_nonneg_of_pos x hk,Int.fmod_lt_of_pos x hk⟩
theorem idx_get {w:List PV} {k:Int} {v:PV} (h0:0≤k) (h1:w[k.toNat]?=some v):idxE fm (.list w) (.int k)=some (.ok v):=by
  show listAt w k=_
  unfold listAt
  rw [decide_eq_true h0]
  show optR w[k.toNat]?=_
  rw [h1];rfl
end
end Mine
end
section
open PySem PySem.W PySem.Calls PyProof.Rows
namespace Mine
theorem pickL_take {α:Type} {xs:List α} {k:Nat} (h:k≤xs.length):pickL none (some (k:Int)) xs=xs.take k:=by
  have e:PySem.sliceBounds none (some (k:Int)) none xs.length=(0,(k:Int),1):=by
    simp only [PySem.sliceBounds,Option.getD_none]
    rw [if_pos (by decide),if_neg (show ¬ ((k:Int) < 0) by lia),if_pos (by decide)]
    rw [show max 0 (min (k:Int) (xs.length:Int))=k by lia]
  have e2:PySem.sliceRange 0 (k:Int) 1=(List.range k).map fun j=>0+j:=by
    unfold PySem.sliceRange
    have hc:(if (0:Int) < k then ((k:Int) - 0+1 - 1) / 1 else 0).toNat=k:=by
      split
      · rw [Int.ediv_one];lia
      · lia
    simp only [show (1:Int) > 0 from by decide,if_true]
    rw [hc]
    apply List.map_congr_left
    intro a Z
    lia
  unfold pickL
  rw [e]
  show (PySem.sliceRange 0 (k:Int) 1).filterMap (xs[·]?)=_
  rw [e2,PySem.StrLaws.picks xs k 0 (by lia)]
  rfl
section
variable {K:Frag} {C:CallSem} {n:Nat} {st:Bool} {fm:Fm} {sc:PySem.Scope} {cd:PySem.Value} {l:Bnd} {c:List Unit} {m:Option MO} {x:PySem.Str} {v:PV} {Q:SR→Prop} {r:List PySem.Stmt}
theorem p_lslice {xs:List PV} {k:Nat} (h:k≤xs.length):sliceE fm (.list xs) none (some (.int (k:Int)))=some (.ok (.list (xs.take k))):=by
  show rok (PV.list (pickL none (some (k:Int)) xs))=_
  rw [pickL_take h];rfl
theorem p_add_lst {a b:List PV} (h:a.length+b.length≤lenLine):binE fm .Add (.list a) (.list b)=some (.ok (.list (a++b))):=by
  exact grb (decide_eq_true (by rw [List.length_append];exact h)) rfl
theorem same_refl {i j k:Int} {e u:List (List Nat)}:same5 i j k e u i j k e u=true:=by unfold same5;simp
theorem p_absI {i:Int}:callB K C st fm (.builtin "abs") [.int i]=some (.ok (.int (if i < 0 then -i else i))):=rfl
theorem p_strI {i:Int} {l:List Nat} (h0:0≤i) (h1:i < 10 ^ 250) (e:Str.ofString (toString i)=mk l) (hl:l.length≤600):callB K C st fm (.type "str") [.int i]=some (.ok (.str (mk l))):=by
  show grd (smallI i) (strR (Str.ofString (toString i)))=_
  rw [e]
  exact grb (smallI_t h0 h1) (strR_ok (show l.length≤lenLine by unfold lenLine;lia))
theorem p_addL {a b:List Nat} (h:a.length+b.length≤5000):binE fm .Add (.str (mk a)) (.str (mk b))=some (.ok (.str (mk (a++b)))):=by
  rw [p_add_str (x:=mk a) (y:=mk b) (decide_eq_true (show a.length+b.length≤lenLine by unfold lenLine;lia))]
  congr 3
  apply PySem.Str.ext'
  show (⟨a⟩:Array Nat)++⟨b⟩=⟨a++b⟩
  simp
theorem xs_tryM {b x xp hb p q} (M:Fm→Prop) (k:XS K C n st fm b (fun sr=>match sr with
      | .ex f=>nameE K f x=some (.glob (.type "ValueError"))∧(st||hb.isEmpty)=false∧∃ f',plainB f hb=some (.nx f')∧M f'
      | .nx f=>M f
      | .rt v f=>Q (.rt v f))) (kr:∀ f,M f→XS K C (n+1) st f r Q):XS K C (n+2) st fm (.Try b [.ExceptHandler (some (.Name x xp)) .none hb p] [] [] q::r) Q:=
  xs_try (k.mono fun sr h=>by
    induction sr with
    | nx f=>exact kr f h
    | rt v f=>exact h
    | ex f=>
      obtain ⟨h1,h2,f',h3,h4⟩:=h
      exact ⟨h1,h2,_,h3,kr f' h4⟩)
theorem plain_asg {v} {cc:PySem.Const} (F:Fr sc cd l c m fm) (hx:isLocal sc x=true) (hc:constE cc=some v):∃ f',(∀ k p q q',plainB fm [.Assign [.Name x p] (.Constant cc k q) q']=some (.nx f'))∧Fr sc cd ((x,v)::l) c m f':=by
  obtain ⟨f',e1,F'⟩:=F.set (v:=v) hx;clear hx
  exact ⟨f',fun k p q q'=>akb hc (akb e1 rfl),F'⟩
theorem p_add_wl {a b:List (List Nat)} (h:a.length+b.length≤1000):binE fm .Add (wl a) (wl b)=some (.ok (wl (a++b))):=by
  unfold wl
  rw [p_add_lst (by rw [List.length_map,List.length_map];unfold lenLine;lia),List.map_append]
end
end Mine
end
open PySem PySem.W PySem.Calls PyProof.Rows
set_option maxRecDepth 20000
namespace Mine
local macro_rules | `(tactic| walk_at "l")=>`(tactic| with_reducible first | exact lf0 (by kernel_rfl) | exact lf1 (by kernel_rfl) | exact lf2 (by kernel_rfl) | exact lf3 (by kernel_rfl) | (apply ls4;walk_at "l"))
local macro_rules | `(tactic| walk_at "g")=>`(tactic| with_reducible first | exact gv_len | exact gv_abs | exact gv_isi | exact gv_str | exact gv_int | exact gv_tup | exact gv_lst | exact gv_rng | exact gv_ve | exact gv_ver | exact gv_num | exact gv_alp | exact gv_max | exact gv_hlz | exact gv_val | exact gv_lws | exact gv_odd | exact gv_t1 | exact gv_t2 | exact gv_t3 | exact gv_t4)
local macro_rules | `(tactic| walk_at "n")=>`(tactic| with_reducible first | assumption | (apply Fr.nl;(k_dflt assumption);walk_at "l") | (apply Fr.gv;(k_dflt assumption);kernel_rfl;walk_at "g"))
local macro_rules | `(tactic| walk_at "r")=>`(tactic| first | (k_dflt rfl) | kernel_rfl)
local macro_rules | `(tactic| walk_at "e")=>`(tactic| with_reducible first
  | assumption
  | exact ev_cint | exact ev_cnone | exact ev_cbool | (apply ev_cstr;kernel_rfl) | (apply ev_nm;walk_at "n")
  | (apply ev_neg;walk_at "e")
  | (apply ev_bin;walk_at "e";walk_at "e";walk_at "p")
  | (apply ev_cmp;kernel_rfl;walk_at "e";walk_at "e";walk_at "p")
  | (apply ev_lst;walk_at "es";walk_at "r")
  | (apply ev_tup;walk_at "es";walk_at "r")
  | (apply ev_attr;walk_at "e";kernel_rfl;kernel_rfl;(first | assumption | (apply Lk.get;walk_at "l"));first | (k_dflt rfl) | assumption)
  | (apply ev_fs;walk_at "ps";kernel_rfl;first | assumption | (k_dflt rfl))
  | (apply ev_slice;walk_at "e";walk_at "o";walk_at "o";walk_at "p")
  | (apply ev_idx;kernel_rfl;walk_at "e";walk_at "e";walk_at "p")
  | (apply ev_fn;kernel_rfl;walk_at "n";kernel_rfl;walk_at "es";walk_at "ks";walk_at "r";assumption)
  | (apply ev_bi;kernel_rfl;walk_at "n";kernel_rfl;(k_dflt (intro _ h;cases h));walk_at "es";walk_at "p")
  | (apply ev_meth;kernel_rfl;walk_at "e";walk_at "t";walk_at "es";walk_at "ks";walk_at "r";walk_at "p"))
local macro_rules | `(tactic| walk_at "ps")=>`(tactic| with_reducible first | exact ps_nil | (apply ps_c;kernel_rfl;walk_at "ps") | (apply ps_s;walk_at "e";(first | assumption | (k_dflt (exact decide_eq_true (by assumption))));walk_at "ps"))
local macro_rules | `(tactic| walk_at "o")=>`(tactic| with_reducible first | exact o_none | (apply o_some;walk_at "e"))
local macro_rules | `(tactic| walk_at "es")=>`(tactic| with_reducible first | exact es_nil | (apply es_cons;kernel_rfl;walk_at "e";walk_at "es"))
local macro_rules | `(tactic| walk_at "ks")=>`(tactic| with_reducible first | exact ks_nil | (apply ks_cons;walk_at "e";walk_at "ks"))
local macro_rules | `(tactic| walk_at "t")=>`(tactic| with_reducible first | assumption | exact tg_join | exact tg_split | exact tg_lst | exact tg_cnt | exact tg_isd | exact tg_enc)
local macro_rules | `(tactic| walk_at "p")=>`(tactic| with_reducible first | assumption | exact p_ne_str | exact p_eq_str | exact p_eq_int | exact p_ne_int | exact p_gt | exact p_lt | exact p_in_plus | exact p_add_int | exact len_str | exact len_list | exact tup_list | exact tup_wl2 | exact tup_wl | exact tup_tup | exact int_int | exact idx_str | (apply p_fmt;kernel_rfl;assumption) | (apply p_mod;kernel_rfl) | (apply p_div;kernel_rfl))
local macro_rules | `(tactic| walk_at "te")=>`(tactic| with_reducible first
  | assumption | (apply te_not;walk_at "te")
  | (apply te_cmp;kernel_rfl;walk_at "e";walk_at "e";walk_at "p";first | assumption | (k_dflt rfl))
  | (apply te_val;kernel_rfl;walk_at "e";first | assumption | (k_dflt rfl)))
local macro_rules | `(tactic| walk_at "f")=>`(tactic| first | exact Fr.nil (by assumption) | ((with_reducible apply Fr.co);assumption;walk_at "l";walk_at "f"))
local macro_rules | `(tactic| walk_at "m")=>`(tactic| (show Fr _ _ _ _ _ _;walk_at "f"))
section
variable {P:Params} {n:Nat} {st:Bool}
theorem empty_eq {x:PySem.Str}:(x==so "")=(x.length==0):=by
  obtain ⟨⟨l⟩⟩:=x
  have:so ""=⟨#[]⟩:=by decide +kernel
  rw [this]
  induction l using List.casesOn with
  | nil=>rfl
  | cons a r=>rfl
theorem ch48 {c:Nat}:(ch c==so "0")=(c==48):=by
  have:so "0"=ch 48:=by decide +kernel
  rw [this,Bool.eq_iff_iff,beq_iff_eq,beq_iff_eq]
  exact ⟨fun h=>by injection h with h;injection h with h;injection h,fun h=>h▸rfl⟩
theorem gd_of {ws:List (List Nat)} {w:List Nat} (h:(ws.map mk).all gd=true) (hw:w∈ws):gd (mk w)=true:=by
  rw [List.all_map,List.all_eq_true] at h
  exact h w hw
theorem r_isdigit {C:CallSem} {x:PySem.Str}:runT C st (Str.ofString "isdigit") (.str x .isdigit) [] []=some (.ok (.bool (PySem.Txt.isdigit x))):=rfl
noncomputable def lzS:List Nat→Bool
  | []=>false
  | c::r=>c==48&&(PySem.Txt.isdigit (mk (c::r))&&!(mk (c::r)==so "0"))
theorem lzS_cons {c:Nat} {r:List Nat}:lzS (c::r)=(c==48&&(PySem.Txt.isdigit (mk (c::r))&&!(mk (c::r)==so "0"))):=rfl
theorem hlz_ok {l:List Nat}:∃ v,callAt (KF P) (n+1) st 65 [.str (mk l)] []=some (.ok v)∧truth v=some (lzS l):=by
  refine ⟨match l with | []=>.str (mk []) | c::r=>.bool (lzS (c::r)),?_,?_⟩
  · refine fn_ret' (C:=callAt (KF P) n) (N:=200) (sc:=fScope (top1 7)) (cd:=vr 64) (l:=[(so "value",.str (mk l))]) (ss:=fBody (top1 7)) (by kernel_rfl) (by cases l<;>rfl) fun fm F=>?_
    conv=>arg 6;whnf
    refine xs_ret ?_ ⟨_,rfl⟩
    refine ev_bool ?_
    induction l using List.casesOn with
    | nil=>exact be_and_f (by walk_at "e") rfl
    | cons c r=>
      refine be_and_t (v:=.str (mk (c::r))) (by walk_at "e") (congrArg some (by rfl)) ?_
      have hi:=r_isdigit (C:=callAt (KF P) n) (st:=st) (x:=mk (c::r))
      refine be_and (v:=.bool (ch c==so "0")) ?_ rfl (fun hb=>be_and (v:=.bool (PySem.Txt.isdigit (mk (c::r)))) ?_ rfl (fun hc=>be_one ?_) fun hc=>?_) fun hb=>?_
      · walk_at "e"
      · walk_at "e"
      · show EV _ _ _ _ _ _ (.bool (lzS (c::r)))
        rw [ch48] at hb
        rw [lzS_cons]
        rw [hb,hc,Bool.true_and,Bool.true_and]
        walk_at "e"
      · rw [ch48] at hb
        show _=PV.bool (lzS (c::r))
        rw [lzS_cons]
        rw [hb,hc];rfl
      · show _=PV.bool (lzS (c::r))
        rw [lzS_cons]
        rw [← ch48,hb];rfl
  · induction l using List.casesOn with
    | nil=>rfl
    | cons c r=>rfl
theorem coerce_int {v:PV} {i:Int}:callAt (KF P) (n+1) st 277 [v,.int i,.bool false] []=some (.ok (.int i)):=by
  refine fn_ret' (C:=callAt (KF P) n) (N:=200) (sc:=fScope (mth 14 1)) (cd:=vr 276) (l:=[(so "cls",v),(so "value",.int i),(so "allow_none",.bool false)]) (ss:=fBody (mth 14 1)) (by kernel_rfl) rfl fun fm F=>?_
  conv=>arg 6;whnf
  have hn:cmpE (KF P) (callAt (KF P) n) st .Is (.int i) .none=some (.ok (.bool false)):=rfl
  refine xs_if (tb:=false&&false) (te_and2 (te_cmp (a:=.int i) (b:=.none) (v:=.bool false) (by kernel_rfl) (by walk_at "e") (by walk_at "e") hn rfl) fun h=>nomatch h) ?_
  refine xs_nil (xs_ret ?_ ⟨_,rfl⟩)
  walk_at "e"
theorem coerce_str {v:PV} {l:List Nat} {i:Int} (hi:∀ C st fm,callB (KF P) C st fm (.type "int") [.str (mk l)]=some (.ok (.int i))):callAt (KF P) (n+1) st 277 [v,.str (mk l),.bool false] []=some (.ok (.int i)):=by
  refine fn_ret' (C:=callAt (KF P) n) (N:=200) (sc:=fScope (mth 14 1)) (cd:=vr 276) (l:=[(so "cls",v),(so "value",.str (mk l)),(so "allow_none",.bool false)]) (ss:=fBody (mth 14 1)) (by kernel_rfl) rfl fun fm F=>?_
  conv=>arg 6;whnf
  have hn:cmpE (KF P) (callAt (KF P) n) st .Is (.str (mk l)) .none=some (.ok (.bool false)):=rfl
  refine xs_if (tb:=false&&false) (te_and2 (te_cmp (a:=.str (mk l)) (b:=.none) (v:=.bool false) (by kernel_rfl) (by walk_at "e") (by walk_at "e") hn rfl) fun h=>nomatch h) ?_
  have h2:=hi (callAt (KF P) n) st fm
  refine xs_nil (xs_ret ?_ ⟨_,rfl⟩)
  walk_at "e"
end
section
variable {P:Params} {n:Nat} {st:Bool}
noncomputable def badId (b:Bool) (w:List Nat):Bool:=w.isEmpty||(lzS w&&!b)
theorem vid_ok {b:Bool} {ws:List (List Nat)} {u:PV} (h:GW ws) (hb:∀ w∈ws,badId b w=false):callAt (KF P) (n+1) false 339 [u,wt ws] [(so "allow_leading_zeroes",.bool b)]=some (.ok .none):=by
  refine fn_end' (C:=callAt (KF P) n) (N:=200) (sc:=fScope (mth 14 8)) (cd:=vr 338) (l:=[(so "cls",u),(so "identifiers",wt ws),(so "allow_leading_zeroes",.bool b)]) (ss:=fBody (mth 14 8)) (by kernel_rfl) fun fm F=>?_
  conv=>arg 6;whnf
  refine xs_for (by kernel_rfl) (it_val (by kernel_rfl) (by walk_at "e") rfl (simple_wt ws)) ?_
  refine fo_rule (N:=20) (fun r fm=>Fr (fScope (mth 14 8)) (vr 338) [(so "allow_leading_zeroes",.bool b)] [] none fm∧∃ ws',r=ws'.map (fun w=>PV.str (mk w))∧∀ w∈ws',gd (mk w)=true∧badId b w=false) ?_ ?_ _ _ _ ⟨by walk_at "f",ws,rfl,fun w hw=>⟨gd_of h.gd hw,hb w hw⟩⟩ ?_
  · clear F
    rintro v vs k fm ⟨F,ws',hv,hg⟩
    match ws',hv with
    | w::r,hv=>
      obtain ⟨rfl,rfl⟩:=List.cons.inj hv;clear hv
      obtain ⟨fm',e1,F'⟩:=F.set (x:=Str.ofString "item") (v:=.str (mk w)) (by kernel_rfl)
      refine ⟨fm',e1,?_⟩
      clear F e1
      obtain ⟨gw,hbw⟩:=hg w (.head _)
      induction w using List.casesOn with
      | nil=>cases hbw
      | cons c t=>
        refine xs_if_f (te_not (b:=true) (te_val (v:=.str (mk (c::t))) (by kernel_rfl) (by walk_at "e") rfl)) ?_
        have hi:=r_isdigit (C:=callAt (KF P) n) (st:=false) (x:=mk (c::t))
        refine xs_if (tb:=lzS (c::t)&&!b) (te_bool (ts_and (b:=ch c==so "0") ?_ (fun q1=>ts_and (b:=PySem.Txt.isdigit (mk (c::t))) ?_ (fun q2=>ts_and (b:=!(mk (c::t)==so "0")) ?_ (fun q3=>ts_and (b:=!b) ?_ (fun q4=>?_) fun q4=>?_) fun q3=>?_) fun q2=>?_) fun q1=>?_)) ?_
        · walk_at "te"
        · walk_at "te"
        · walk_at "te"
        · walk_at "te"
        · rw [ch48] at q1
          rw [lzS_cons,q1,q2,q3,q4];exact ts_nil
        · rw [q4,Bool.and_false]
        · rw [lzS_cons,q3,Bool.and_false,Bool.and_false,Bool.false_and]
        · rw [lzS_cons,q2,Bool.false_and,Bool.and_false,Bool.false_and]
        · rw [lzS_cons,← ch48,q1,Bool.false_and,Bool.false_and]
        rw [show (lzS (c::t)&&!b)=false from hbw]
        exact xs_nil (xs_nil ⟨by walk_at "f",r,rfl,fun w hw=>hg w (.tail _ hw)⟩)
  · rintro fm ⟨F,ws',hv,Z⟩
    match ws',hv with
    | [],_=>exact xs_nil ⟨_,rfl⟩
  · rw [List.length_map];have:=h.len;lia
end
section
variable {P:Params} {n:Nat} {st:Bool}
theorem isD_asc:∀ c:Fin 128,isD c.val=(decide (48≤c.val)&&decide (c.val≤57)):=by decide +kernel
theorem isDig_is:∀ c:Fin 128,Unicode.isDigit c.val=(decide (48≤c.val)&&decide (c.val≤57)):=by decide +kernel
theorem isD_is {c:Nat} (h:c < 128):isD c=(decide (48≤c)&&decide (c≤57)):=isD_asc ⟨c,h⟩
theorem asc_of {l:List Nat} (h:gd (mk l)=true):∀ c∈l,c < 128:=by
  unfold gd asc at h
  rw [Bool.and_eq_true,List.all_eq_true] at h
  exact fun c hc=>of_decide_eq_true (h.1 c hc)
noncomputable def pw:Option (List Nat)→List (List Nat)
  | none=>[]
  | some w=>spl 46 w
noncomputable def tupV (x:Five):List PV:=[.int (digitsVal x.1),.int (digitsVal x.2.1),.int (digitsVal x.2.2.1),wt (pw x.2.2.2.1),wt (pw x.2.2.2.2)]
noncomputable def NumOk (a:List Nat):Prop:=a≠[]∧(∀ c∈a,48≤c∧c≤57)∧a.length≤640∧lzS a=false
noncomputable def PartsOk (b:Bool) (o:Option (List Nat)):Prop:=optOk o∧GW (pw o)∧(∀ w∈pw o,badId b w=false)∧∀ w,o=some w→decide (w.length≤1000)=true
structure In5 (x:Five):Prop where
  e:m3 (comp5 x)=some (grp x)
  n10:(comp5 x).contains 10=false
  a:NumOk x.1
  b:NumOk x.2.1
  c:NumOk x.2.2.1
  p:PartsOk false x.2.2.2.1
  q:PartsOk true x.2.2.2.2
theorem int_of {a:List Nat} {K C st fm} (h:NumOk a):callB K C st fm (.type "int") [.str (mk a)]=some (.ok (.int (digitsVal a))):=int_str h.1 h.2.1 h.2.2.1
theorem tg_p3 {fm:Fm}:tgtOf (KF P) fm (.glob (.ref 53)) (Str.ofString "match")=some (.pat .p3):=by kernel_rfl
theorem r_pat {C:CallSem} {l:List Nat} {o} (hn:l.contains 10=false) (hm:m3 l=o):runT C st (Str.ofString "match") (.pat .p3) [.str (mk l)] []=some (.ok (matPV (mk l) o)):=by
  rw [← hm];exact grb (b:=!l.contains 10) (by rw [hn];rfl) rfl
theorem tg_coe {fm:Fm}:tgtOf (KF P) fm (.glob (.ref 448)) (Str.ofString "_coerce")=some (.cm 448 277):=by kernel_rfl
theorem tg_vid {fm:Fm}:tgtOf (KF P) fm (.glob (.ref 448)) (Str.ofString "_validate_identifiers")=some (.cm 448 339):=by kernel_rfl
theorem tg_grp {fm:Fm} {gs e}:tgtOf (KF P) fm (.mat gs e) (Str.ofString "groups")=some (.mat gs e true):=by kernel_rfl
theorem r_grp {C:CallSem} {gs e}:runT C st (Str.ofString "groups") (.mat gs e true) [] []=some (.ok (.tup (gs.map grpPV))):=rfl
noncomputable abbrev scP:PySem.Scope:=fScope (mth 14 7)
theorem ne_emptyS {K:Frag} {C:CallSem} {w:List Nat} (h:w≠[]):cmpE K C st .Eq (.str (mk w)) (.str (Str.ofString ""))=some (.ok (.bool false)):=by
  rw [p_eq_str,empty_eq]
  induction w using List.casesOn with
  | nil=>exact absurd rfl h
  | cons=>rfl
theorem parse_body {x:Five} (I:In5 x) {fm:Fm}
    (F:Fr scP (vr 327) [(so "cls",.glob (.ref 448)),(so "version_string",.str (mk (comp5 x))),(so "partial",.bool false),(so "coerce",.bool false)] [] none fm):
    XS (KF P) (callAt (KF P) (n+1)) 200 false fm (fBody (mth 14 7)) fun r=>∃ f,r=.rt (.tup (tupV x)) f:=by
  conv=>arg 6;whnf
  have ht:truth (.str (mk (comp5 x)))=some true:=by
    obtain ⟨a,r⟩:=x
    cases a with
    | nil=>exact absurd rfl I.a.1
    | cons=>rfl
  refine xs_if_f (te_not (b:=true) (te_val (v:=.str (mk (comp5 x))) (by kernel_rfl) (by walk_at "e") ht)) ?_
  refine xs_asg F (by kernel_rfl) (by walk_at "e") fun fm F=>?_
  refine xs_asg F (by kernel_rfl) (by walk_at "e") fun fm F=>?_
  refine xs_if_f (te_val (v:=.bool false) (by kernel_rfl) (by walk_at "e") rfl) ?_
  have ht:=tg_p3 (P:=P) (fm:=fm)
  have hr:runT (callAt (KF P) (n+1)) false (Str.ofString "match") (.pat .p3) [.str (mk (comp5 x))] []=some (.ok (.mat (grp x) (mk (comp5 x)).length)):=r_pat I.n10 I.e
  refine xs_asg F (by kernel_rfl) (by walk_at "e") fun fm F=>?_
  refine xs_if_f (te_not (b:=true) (te_val (v:=.mat (grp x) (mk (comp5 x)).length) (by kernel_rfl) (by walk_at "e") rfl)) ?_
  have hg:=tg_grp (P:=P) (fm:=fm) (gs:=grp x) (e:=(mk (comp5 x)).length)
  have hr2:=r_grp (C:=callAt (KF P) (n+1)) (st:=false) (gs:=grp x) (e:=(mk (comp5 x)).length)
  clear hr ht
  obtain ⟨Z,Z,ia,ib,ic,ip,iq⟩:=I
  generalize mk (comp5 x)=l at *
  obtain ⟨a,b,c,p,q⟩:=x
  dsimp only at ia ib ic ip iq
  refine xs_tup (vs:=[.str (mk a),.str (mk b),.str (mk c),grpPV (p.map mk),grpPV (q.map mk)]) (ns:=[so "major",so "minor",so "patch",so "prerelease",so "build"]) F (by kernel_rfl) ⟨by kernel_rfl,by kernel_rfl⟩ (by kernel_rfl) (.inl rfl) ?_ fun fm G=>?_
  · show EV _ _ _ _ _ _ (.tup ((grp (a,b,c,p,q)).map grpPV))
    walk_at "e"
  clear F hg hr2;revert G;intro F
  change Fr _ _ [(so "build",grpPV (q.map mk)),(so "prerelease",grpPV (p.map mk)),(so "patch",.str (mk c)),(so "minor",.str (mk b)),(so "major",.str (mk a)),_,_,_,(so "cls",.glob (.ref 448)),(so "version_string",.str l),(so "partial",.bool false),_] _ _ _ at F
  obtain ⟨va,h1,h2⟩:=hlz_ok (P:=P) (n:=n) (st:=false) (l:=a)
  rw [ia.2.2.2] at h2
  refine xs_if_f (te_val (v:=va) (by kernel_rfl) (by walk_at "e") h2) ?_
  obtain ⟨vb,h1,h2⟩:=hlz_ok (P:=P) (n:=n) (st:=false) (l:=b)
  rw [ib.2.2.2] at h2
  refine xs_if_f (te_val (v:=vb) (by kernel_rfl) (by walk_at "e") h2) ?_
  obtain ⟨vc,h1,h2⟩:=hlz_ok (P:=P) (n:=n) (st:=false) (l:=c)
  rw [ic.2.2.2] at h2
  refine xs_if_f (te_val (v:=vc) (by kernel_rfl) (by walk_at "e") h2) ?_
  have ja:=int_of (K:=KF P) (C:=callAt (KF P) (n+1)) (st:=false) (fm:=fm) ia
  refine xs_asg F (by kernel_rfl) (by walk_at "e") fun fm G=>?_
  clear F;revert G;intro F
  clear ja
  have tc:=tg_coe (P:=P) (fm:=fm)
  have cb:runT (callAt (KF P) (n+1)) false (Str.ofString "_coerce") (.cm 448 277) [.str (mk b),.bool false] []=some (.ok (.int (digitsVal b))):=coerce_str fun Z Z Z=>int_of ib
  refine xs_asg F (by kernel_rfl) (by walk_at "e") fun fm G=>?_
  clear F;revert G;intro F
  clear tc cb
  have tc:=tg_coe (P:=P) (fm:=fm)
  have cc:runT (callAt (KF P) (n+1)) false (Str.ofString "_coerce") (.cm 448 277) [.str (mk c),.bool false] []=some (.ok (.int (digitsVal c))):=coerce_str fun Z Z Z=>int_of ic
  refine xs_asg F (by kernel_rfl) (by walk_at "e") fun fm G=>?_
  clear F;revert G;intro F
  clear tc cc
  refine xs_ifM (tb:=(p.map mk).isNone) (fun fm=>Fr scP (vr 327) [(so "prerelease",wt (pw p)),(so "build",grpPV (q.map mk)),(so "major",.int (digitsVal a)),(so "minor",.int (digitsVal b)),(so "patch",.int (digitsVal c)),(so "cls",.glob (.ref 448)),(so "partial",.bool false)] [] none fm) ?_ ?_ ?_
  · have hi:=p_is_none (K:=KF P) (C:=callAt (KF P) (n+1)) (st:=false) (v:=grpPV (p.map mk)) (b:=(p.map mk).isNone) (by cases p<;>rfl)
    walk_at "te"
  · rcases p with Z | w
    · refine xs_if_e (te_and2 (b1:=false) (b2:=false) (te_val (v:=.bool false) (by kernel_rfl) (by walk_at "e") rfl) fun h=>nomatch h) ?_
      refine xs_asg F (by kernel_rfl) (by walk_at "e") fun fm F=>?_
      refine xs_nil (xs_nil ?_)
      show Fr _ _ [(so "prerelease",.tup []),_,_,_,_,_,_] _ _ _
      walk_at "f"
    · obtain ⟨w0,wd⟩:=ip.1 w rfl
      change Fr _ _ [_,_,_,_,(so "prerelease",.str (mk w)),_,_,_,_,_,_,_,_,_,_] _ _ _ at F
      have hw0:=ne_emptyS (K:=KF P) (C:=callAt (KF P) (n+1)) (st:=false) w0
      refine xs_if_e (te_cmp (a:=.str (mk w)) (b:=.str (Str.ofString "")) (v:=.bool false) (by kernel_rfl) (by walk_at "e") (by walk_at "e") hw0 rfl) ?_
      have hs:=r_split (C:=callAt (KF P) (n+1)) (st:=false) (ip.2.2.2 w rfl)
      refine xs_asg F (by kernel_rfl) (by walk_at "e") fun fm F=>?_
      have tv:=tg_vid (P:=P) (fm:=fm)
      have hv:runT (callAt (KF P) (n+1)) false (Str.ofString "_validate_identifiers") (.cm 448 339) [wt (spl 46 w)] [(Str.ofString "allow_leading_zeroes",.bool false)]=some (.ok .none):=vid_ok ip.2.1 ip.2.2.1
      refine xs_expr (v:=.none) (by kernel_rfl) (by walk_at "e") (xs_nil (xs_nil ?_))
      show Fr _ _ [(so "prerelease",wt (spl 46 w)),_,_,_,_,_,_] _ _ _
      walk_at "f"
  clear F
  intro fm F
  refine xs_ifM (tb:=(q.map mk).isNone) (fun fm=>Fr scP (vr 327) [(so "prerelease",wt (pw p)),(so "build",wt (pw q)),(so "major",.int (digitsVal a)),(so "minor",.int (digitsVal b)),(so "patch",.int (digitsVal c))] [] none fm) ?_ ?_ ?_
  · have hi:=p_is_none (K:=KF P) (C:=callAt (KF P) (n+1)) (st:=false) (v:=grpPV (q.map mk)) (b:=(q.map mk).isNone) (by cases q<;>rfl)
    walk_at "te"
  · rcases q with Z | w
    · refine xs_if_e (te_val (v:=.bool false) (by kernel_rfl) (by walk_at "e") rfl) ?_
      refine xs_asg F (by kernel_rfl) (by walk_at "e") fun fm F=>?_
      refine xs_nil (xs_nil ?_)
      show Fr _ _ [_,(so "build",.tup []),_,_,_] _ _ _
      walk_at "f"
    · obtain ⟨w0,wd⟩:=iq.1 w rfl
      change Fr _ _ [_,(so "build",.str (mk w)),_,_,_,_,_] _ _ _ at F
      have hw0:=ne_emptyS (K:=KF P) (C:=callAt (KF P) (n+1)) (st:=false) w0
      refine xs_if_e (te_cmp (a:=.str (mk w)) (b:=.str (Str.ofString "")) (v:=.bool false) (by kernel_rfl) (by walk_at "e") (by walk_at "e") hw0 rfl) ?_
      have hs:=r_split (C:=callAt (KF P) (n+1)) (st:=false) (iq.2.2.2 w rfl)
      refine xs_asg F (by kernel_rfl) (by walk_at "e") fun fm F=>?_
      have tv:=tg_vid (P:=P) (fm:=fm)
      have hv:runT (callAt (KF P) (n+1)) false (Str.ofString "_validate_identifiers") (.cm 448 339) [wt (spl 46 w)] [(Str.ofString "allow_leading_zeroes",.bool true)]=some (.ok .none):=vid_ok iq.2.1 iq.2.2.1
      refine xs_expr (v:=.none) (by kernel_rfl) (by walk_at "e") (xs_nil (xs_nil ?_))
      show Fr _ _ [_,(so "build",wt (spl 46 w)),_,_,_] _ _ _
      walk_at "f"
  clear F
  intro fm F
  refine xs_ret (v:=.tup (tupV (a,b,c,p,q))) ?_ ⟨_,rfl⟩
  unfold tupV
  have hs:solid (wt (pw p))=true:=rfl
  have hs2:solid (wt (pw q))=true:=rfl
  walk_at "e"
theorem parse_two {x:Five} (I:In5 x):callAt (KF P) (n+2) false 328 [.glob (.ref 448),.str (mk (comp5 x))] []=some (.ok (.tup (tupV x)))∧callAt (KF P) (n+2) false 328 [.glob (.ref 448),.str (mk (comp5 x)),.bool false] []=some (.ok (.tup (tupV x))):=
  ⟨fn_ret' (C:=callAt (KF P) (n+1)) (N:=200) (sc:=scP) (cd:=vr 327) (l:=[(so "cls",.glob (.ref 448)),(so "version_string",.str (mk (comp5 x))),(so "partial",.bool false),(so "coerce",.bool false)]) (ss:=fBody (mth 14 7)) (by kernel_rfl) rfl fun Z=>parse_body I,
   fn_ret' (C:=callAt (KF P) (n+1)) (N:=200) (sc:=scP) (cd:=vr 327) (l:=[(so "cls",.glob (.ref 448)),(so "version_string",.str (mk (comp5 x))),(so "partial",.bool false),(so "coerce",.bool false)]) (ss:=fBody (mth 14 7)) (by kernel_rfl) rfl fun Z=>parse_body I⟩
end
section
variable {P:Params} {n:Nat} {st:Bool}
theorem num_ok {w:List Nat} (hw:gd (mk w)=true) (hd:PySem.Txt.isdigit (mk w)=true):callAt (KF P) (n+1) st 180 [.str (mk w)] []=some (.ok (.inst 180 [(so "value",.int (digitsVal w))])):=by
  refine cls_end (C:=callAt (KF P) n) (N:=200) (sc:=fScope (mth 9 0)) (cd:=vr 134) (l:=[(so "self",.own),(so "value",.str (mk w))]) (ss:=fBody (mth 9 0)) (by kernel_rfl) fun fm F=>?_
  conv=>arg 6;whnf
  have hi:callB (KF P) (callAt (KF P) n) st fm (.type "int") [.str (mk w)]=some (.ok (.int (digitsVal w))):=by
    unfold PySem.Txt.isdigit at hd
    rw [Bool.and_eq_true,decide_eq_true_eq,← Array.all_toList,List.all_eq_true] at hd
    refine int_str (fun e=>by subst e;exact absurd hd.1 (by decide)) (fun c hc=>?_) (Nat.le_trans (gd_size hw) (by decide))
    have h1:=hd.2 c hc
    rw [show Unicode.isDigit c=_ from isDig_is ⟨c,asc_of hw c hc⟩] at h1
    simpa using h1
  refine xs_attr (v:=.int (digitsVal w)) (by walk_at "n") F (by walk_at "e") (by kernel_rfl) fun fm F=>?_
  exact xs_nil ⟨fm,rfl,F.mu⟩
theorem alp_ok {w:List Nat} (hw:gd (mk w)=true):callAt (KF P) (n+1) st 243 [.str (mk w)] []=some (.ok (.inst 243 [(so "value",.any)])):=by
  refine cls_end (C:=callAt (KF P) n) (N:=200) (sc:=fScope (mth 10 0)) (cd:=vr 197) (l:=[(so "self",.own),(so "value",.str (mk w))]) (ss:=fBody (mth 10 0)) (by kernel_rfl) fun fm F=>?_
  conv=>arg 6;whnf
  have hi:=r_encode (C:=callAt (KF P) n) (st:=st) hw
  refine xs_attr (v:=.any) (by walk_at "n") F (by walk_at "e") (by kernel_rfl) fun fm F=>?_
  exact xs_nil ⟨fm,rfl,F.mu⟩
theorem max_ok:callAt (KF P) (n+1) st 117 [] []=some (.ok (.inst 117 [])):=by cases st<;>kernel_rfl
theorem bpk_ok {b:Bool} {fs:Bnd} {i j k:Int} {e u:List (List Nat)} (he:GW e) (hu:GW u) (h1:fs.lookup (so "major")=some (.int i)) (h2:fs.lookup (so "minor")=some (.int j)) (h3:fs.lookup (so "patch")=some (.int k))
    (h4:fs.lookup (so "prerelease")=some (wt e)) (h5:fs.lookup (so "build")=some (wt u)):∃ v,callAt (KF P) (n+2) false 388 [.inst 448 fs] [(so "with_build",.bool b)]=some (.ok v)∧(solid v&&!hasInst 448 v)=true:=by
  have e0:callAt (KF P) (n+2) false 388 [.inst 448 fs] [(so "with_build",.bool b)]=noExc false (endOf (execEs (KF P) (callAt (KF P) (n+1)) 200 false { scope:=fScope (mth 14 14),loc:=[(so "self",.inst 448 fs),(so "with_build",.bool b)],cel:=[],mu:=none,code:=vr 387 } (fBody (mth 14 14)))):=by kernel_rfl
  have key:∀ fm,Fr (fScope (mth 14 14)) (vr 387) [(so "self",.inst 448 fs),(so "with_build",.bool b)] [] none fm→XS (KF P) (callAt (KF P) (n+1)) 200 false fm (fBody (mth 14 14)) fun sr=>∃ v f,sr=.rt v f∧(solid v&&!hasInst 448 v)=true:=by
    intro fm F
    conv=>arg 6;whnf
    have genh:∀ {ws:List (List Nat)},GW ws→∀ v∈ws.map (fun w=>PV.str (mk w)),∃ w,v=.str (mk w)∧gd (mk w)=true:=fun h v hv=>by
      obtain ⟨w,hw,rfl⟩:=List.mem_map.mp hv;clear hv
      exact ⟨w,rfl,gd_of h.gd hw⟩
    refine xs_ifM (tb:=!e.isEmpty) (fun fm=>∃ v,(solid v&&!hasInst 448 v)=true∧Fr (fScope (mth 14 14)) (vr 387) [(so "prerelease_key",v),(so "self",.inst 448 fs),(so "with_build",.bool b)] [] none fm) ?_ ?_ ?_
    · refine te_val (v:=wt e) (by kernel_rfl) (ev_attr (by walk_at "e") (by kernel_rfl) (by kernel_rfl) h4 rfl) truth_wt
    · by_cases hc:(!e.isEmpty)=true
      · rw [if_pos hc]
        refine xs_asg (v:=.any) F (by kernel_rfl) ?_ fun fm F=>xs_nil ⟨.any,rfl,by walk_at "f"⟩
        refine ev_gen F (by walk_at "n") (by kernel_rfl) (it_val (by kernel_rfl) (ev_attr (by walk_at "e") (by kernel_rfl) (by kernel_rfl) h4 rfl) itemsOf_wt (simple_wt e)) fun v hv fm F=>?_
        obtain ⟨w,rfl,hg⟩:=genh he v hv;clear hv
        have hi:=r_isdigit (C:=callAt (KF P) (n+1)) (st:=true) (x:=mk w)
        induction hd:PySem.Txt.isdigit (mk w) with
        | true=>
          have hm:=num_ok (P:=P) (n:=n) (st:=true) hg hd
          rw [hd] at hi
          exact ⟨_,ev_if_t (by walk_at "te") (v:=.inst 180 [(so "value",.int (digitsVal w))]) (by walk_at "e")⟩
        | false=>
          have hm:=alp_ok (P:=P) (n:=n) (st:=true) hg
          rw [hd] at hi
          exact ⟨_,ev_if_f (by walk_at "te") (v:=.inst 243 [(so "value",.any)]) (by walk_at "e")⟩
      · rw [if_neg hc]
        have hm:=max_ok (P:=P) (n:=n) (st:=false)
        refine xs_asg (v:=.tup [.inst 117 []]) F (by kernel_rfl) (by walk_at "e") fun fm F=>xs_nil ⟨_,by kernel_rfl,by walk_at "f"⟩
    clear F
    rintro fm ⟨v,hv,F⟩
    induction b with
    | false=>
      refine xs_if_t (te_not (b:=false) (te_val (v:=.bool false) (by kernel_rfl) (by walk_at "e") rfl)) ?_
      rw [Bool.and_eq_true] at hv
      refine xs_ret (v:=.tup [.int i,.int j,.int k,v]) (ev_tup (by walk_at "es") ?_) ⟨_,_,rfl,?_⟩
      · show (solid v&&true&&true)=true
        rw [hv.1];rfl
      · show (true&&!(false||(false||(false||(hasInst 448 v||false)))))=true
        rw [not_tt hv.2];rfl
    | true=>
      refine xs_if_f (te_not (b:=true) (te_val (v:=.bool true) (by kernel_rfl) (by walk_at "e") rfl)) ?_
      rw [Bool.and_eq_true] at hv
      refine xs_asg (v:=.any) F (by kernel_rfl) ?_ fun fm F=>?_
      · refine ev_gen F (by walk_at "n") (by kernel_rfl) (it_val (by kernel_rfl) (or_wt (by walk_at "e")) itemsOf_wt (simple_wt u)) fun v hv fm F=>?_
        obtain ⟨w,rfl,hg⟩:=genh hu v hv;clear hv
        have hi:=r_isdigit (C:=callAt (KF P) (n+1)) (st:=true) (x:=mk w)
        induction hd:PySem.Txt.isdigit (mk w) with
        | true=>
          have hm:=num_ok (P:=P) (n:=n) (st:=true) hg hd
          rw [hd] at hi
          exact ⟨_,ev_if_t (by walk_at "te") (v:=.inst 180 [(so "value",.int (digitsVal w))]) (by walk_at "e")⟩
        | false=>
          have hm:=alp_ok (P:=P) (n:=n) (st:=true) hg
          rw [hd] at hi
          exact ⟨_,ev_if_f (by walk_at "te") (v:=.inst 243 [(so "value",.any)]) (by walk_at "e")⟩
      refine xs_ret (v:=.tup [.int i,.int j,.int k,v,.any]) (ev_tup (by walk_at "es") ?_) ⟨_,_,rfl,?_⟩
      · show (solid v&&(true&&true)&&true)=true
        rw [hv.1];rfl
      · show (true&&!(false||(false||(false||(hasInst 448 v||(false||false))))))=true
        rw [not_tt hv.2];rfl
  obtain ⟨sr,e2,v,f,rfl,hv⟩:=key _ F0
  refine ⟨v,?_,hv⟩
  rw [e0,e2]
  rw [Bool.and_eq_true] at hv
  cases v<;>first | rfl | cases hv.1
end
section
variable {P:Params} {n:Nat} {st:Bool}
theorem p_ne_self {K C st} {i:Int}:cmpE K C st .NotEq (.int i) (.int i)=some (.ok (.bool false)):=by rw [p_ne_int,beq_self_eq_true];rfl
theorem vkw_ok {i j k:Int} {e u:List (List Nat)} (he:GW e) (hu:GW u) (be:∀ w∈e,badId false w=false) (bu:∀ w∈u,badId true w=false):callAt (KF P) (n+2) false 349 [.glob (.ref 448),.int i,.int j,.int k,wt e,wt u,.bool false] []=some (.ok .none):=by
  refine fn_end' (C:=callAt (KF P) (n+1)) (N:=200) (sc:=fScope (mth 14 9)) (cd:=vr 348) (l:=[(so "cls",.glob (.ref 448)),(so "major",.int i),(so "minor",.int j),(so "patch",.int k),(so "prerelease",wt e),(so "build",wt u),(so "partial",.bool false)]) (ss:=fBody (mth 14 9)) (by kernel_rfl) fun fm F=>?_
  conv=>arg 6;whnf
  have t1:=tg_coe (P:=P) (fm:=fm)
  have t2:=tg_vid (P:=P) (fm:=fm)
  have h1:callB (KF P) (callAt (KF P) (n+1)) false fm (.type "int") [.int i]=some (.ok (.int i)):=rfl
  have h2:∀ i,runT (callAt (KF P) (n+1)) false (Str.ofString "_coerce") (.cm 448 277) [.int i,.bool false] []=some (.ok (.int i)):=fun i=>coerce_int
  have h2j:=h2 j
  have h2k:=h2 k
  have hp:∀ i:Int,cmpE (KF P) (callAt (KF P) (n+1)) false .NotEq (.int i) (.int i)=some (.ok (.bool false)):=fun i=>p_ne_self
  have hpi:=hp i
  have hpj:=hp j
  have hpk:=hp k
  have hne:cmpE (KF P) (callAt (KF P) (n+1)) false .Is (wt e) .none=some (.ok (.bool false)):=rfl
  have hnu:cmpE (KF P) (callAt (KF P) (n+1)) false .Is (wt u) .none=some (.ok (.bool false)):=rfl
  refine xs_if_f (te_bool (ts_or (b:=false) (te_cmp (a:=.int i) (b:=.int i) (v:=.bool false) (by kernel_rfl) (by walk_at "e") (by walk_at "e") hpi rfl) (fun Z=>
    ts_or (b:=false) (te_cmp (a:=.int j) (b:=.int j) (v:=.bool false) (by kernel_rfl) (by walk_at "e") (by walk_at "e") hpj rfl) (fun Z=>
    ts_or (b:=false) (te_cmp (a:=.int k) (b:=.int k) (v:=.bool false) (by kernel_rfl) (by walk_at "e") (by walk_at "e") hpk rfl) (fun Z=>
    ts_or (b:=false) (te_and2 (b1:=false) (b2:=false) (te_cmp (a:=wt e) (b:=.none) (v:=.bool false) (by kernel_rfl) (by walk_at "e") (by walk_at "e") hne rfl) fun h=>nomatch h) (fun Z=>
    ts_or (b:=false) (te_and2 (b1:=false) (b2:=false) (te_cmp (a:=wt u) (b:=.none) (v:=.bool false) (by kernel_rfl) (by walk_at "e") (by walk_at "e") hnu rfl) fun h=>nomatch h) (fun Z=>ts_nil) id) id) id) id) id)) ?_
  have hie:cmpE (KF P) (callAt (KF P) (n+1)) false .IsNot (wt e) .none=some (.ok (.bool true)):=rfl
  have hiu:cmpE (KF P) (callAt (KF P) (n+1)) false .IsNot (wt u) .none=some (.ok (.bool true)):=rfl
  have v1:runT (callAt (KF P) (n+1)) false (Str.ofString "_validate_identifiers") (.cm 448 339) [wt e] [(Str.ofString "allow_leading_zeroes",.bool false)]=some (.ok .none):=vid_ok he be
  have v2:runT (callAt (KF P) (n+1)) false (Str.ofString "_validate_identifiers") (.cm 448 339) [wt u] [(Str.ofString "allow_leading_zeroes",.bool true)]=some (.ok .none):=vid_ok hu bu
  refine xs_if_t (te_cmp (a:=wt e) (b:=.none) (v:=.bool true) (by kernel_rfl) (by walk_at "e") (by walk_at "e") hie rfl) ?_
  refine xs_expr (v:=.none) (by kernel_rfl) (by walk_at "e") (xs_nil ?_)
  refine xs_if_t (te_cmp (a:=wt u) (b:=.none) (v:=.bool true) (by kernel_rfl) (by walk_at "e") (by walk_at "e") hiu rfl) ?_
  exact xs_expr (v:=.none) (by kernel_rfl) (by walk_at "e") (xs_nil (xs_nil ⟨_,rfl⟩))
structure IsVer (fs:Bnd) (i j k:Int) (e u:List (List Nat)):Prop where
  a:fs.lookup (so "major")=some (.int i)
  b:fs.lookup (so "minor")=some (.int j)
  c:fs.lookup (so "patch")=some (.int k)
  d:fs.lookup (so "prerelease")=some (wt e)
  e:fs.lookup (so "build")=some (wt u)
  f:fs.lookup (so "partial")=some (.bool false)
  g:∀ m,m=so "__str__"∨m=so "__eq__"∨m=so "__ne__"→(fs.lookup m).isNone=true
noncomputable abbrev scI:PySem.Scope:=fScope (mth 14 0)
theorem tg_own {K:Frag} {sc cd l c D fs m t} {fm:Fm} (F:Fr sc cd l c (some (.inst D fs)) fm) (h:tgtOf K { scope:=sc,loc:=[],cel:=[],mu:=some (.inst D fs) } .own m=some t):tgtOf K fm .own m=some t:=by
  rw [← h]
  unfold tgtOf
  rw [F.mu]
noncomputable def fs6 (i j k:Int) (e u:List (List Nat)):Bnd:=put (so "partial") (.bool false) (put (so "build") (wt u) (put (so "prerelease") (wt e) (put (so "patch") (.int k) (put (so "minor") (.int j) (put (so "major") (.int i) [])))))
theorem init_tail {i j k:Int} {e u:List (List Nat)} (he:GW e) (hu:GW u) {fm:Fm}
    (F:Fr scI (vr 268) [(so "self",.own),(so "major",.int i),(so "minor",.int j),(so "patch",.int k),(so "prerelease",wt e),(so "build",wt u),(so "partial",.bool false)] [] (some (.inst 448 [])) fm):
    XS (KF P) (callAt (KF P) (n+2)) 195 false fm ((fBody (mth 14 0)).drop 5) fun sr=>∃ f fs,sr=.nx f∧f.mu=some (.inst 448 fs)∧IsVer fs i j k e u:=by
  conv=>arg 6;whnf
  have hwe:hasInst 448 (wt e)=false:=hasInst_wt
  have hwu:hasInst 448 (wt u)=false:=hasInst_wt
  refine xs_attr (v:=.int i) (by walk_at "n") F (by walk_at "e") (by kernel_rfl) fun fm F=>?_
  refine xs_attr (v:=.int j) (by walk_at "n") F (by walk_at "e") (by kernel_rfl) fun fm F=>?_
  refine xs_attr (v:=.int k) (by walk_at "n") F (by walk_at "e") (by kernel_rfl) fun fm F=>?_
  refine xs_attr (v:=wt e) (by walk_at "n") F (by walk_at "e") (by rw [hwe];kernel_rfl) fun fm F=>?_
  refine xs_attr (v:=wt u) (by walk_at "n") F (by walk_at "e") (by rw [hwu];kernel_rfl) fun fm F=>?_
  refine xs_attr (v:=.bool false) (by walk_at "n") F (by walk_at "e") (by kernel_rfl) fun fm F=>?_
  change Fr _ _ _ _ (some (.inst 448 (fs6 i j k e u))) fm at F
  obtain ⟨v1,hb1,hv1⟩:=bpk_ok (P:=P) (n:=n) (b:=false) (i:=i) (j:=j) (k:=k) (fs:=fs6 i j k e u) he hu (by kernel_rfl) (by kernel_rfl) (by kernel_rfl) (by kernel_rfl) (by kernel_rfl)
  have hr1:runT (callAt (KF P) (n+2)) false (Str.ofString "_build_precedence_key") (.ownPlain 388 448 (fs6 i j k e u)) [] [(Str.ofString "with_build",.bool false)]=some (.ok v1):=by
    rw [Bool.and_eq_true,Bool.not_eq_true'] at hv1
    exact rb hb1 (by rw [hv1.2];rfl)
  have ht1:=tg_own (K:=KF P) (m:=Str.ofString "_build_precedence_key") (t:=.ownPlain 388 448 (fs6 i j k e u)) F (by kernel_rfl)
  refine xs_attr (v:=v1) (by walk_at "n") F (by walk_at "e") (by rw [hv1];kernel_rfl) fun fm F=>?_
  obtain ⟨v2,hb2,hv2⟩:=bpk_ok (P:=P) (n:=n) (b:=true) (i:=i) (j:=j) (k:=k) (fs:=put (so "_cmp_precedence_key") v1 (fs6 i j k e u)) he hu (by kernel_rfl) (by kernel_rfl) (by kernel_rfl) (by kernel_rfl) (by kernel_rfl)
  have hr2:runT (callAt (KF P) (n+2)) false (Str.ofString "_build_precedence_key") (.ownPlain 388 448 (put (so "_cmp_precedence_key") v1 (fs6 i j k e u))) [] [(Str.ofString "with_build",.bool true)]=some (.ok v2):=by
    rw [Bool.and_eq_true,Bool.not_eq_true'] at hv2
    exact rb hb2 (by rw [hv2.2];rfl)
  have ht2:=tg_own (K:=KF P) (m:=Str.ofString "_build_precedence_key") (t:=.ownPlain 388 448 (put (so "_cmp_precedence_key") v1 (fs6 i j k e u))) F (by kernel_rfl)
  refine xs_attr (v:=v2) (by walk_at "n") F (by walk_at "e") (by rw [hv2];kernel_rfl) fun fm F=>?_
  refine xs_nil ⟨fm,_,rfl,F.mu,by kernel_rfl,by kernel_rfl,by kernel_rfl,by kernel_rfl,by kernel_rfl,by kernel_rfl,?_⟩
  rintro m (rfl | rfl | rfl)<;>kernel_rfl
theorem tg_parse {fm:Fm} {sc cd l c} (F:Fr sc cd l c (some (.inst 448 [])) fm):tgtOf (KF P) fm .own (Str.ofString "parse")=some (.cm 448 328):=tg_own F (by kernel_rfl)
theorem ver_text {x:Five} (I:In5 x):∃ fs,IsVer fs (digitsVal x.1) (digitsVal x.2.1) (digitsVal x.2.2.1) (pw x.2.2.2.1) (pw x.2.2.2.2)∧callAt (KF P) (n+3) false 448 [.str (mk (comp5 x))] []=some (.ok (.inst 448 fs))∧callAt (KF P) (n+3) false 448 [.str (mk (comp5 x))] [(so "partial",.bool false)]=some (.ok (.inst 448 fs)):=by
  have e0:callAt (KF P) (n+3) false 448 [.str (mk (comp5 x))] []=noExc false (clsEnd 448 (execEs (KF P) (callAt (KF P) (n+2)) 200 false { scope:=scI,loc:=[(so "self",.own),(so "version_string",.str (mk (comp5 x))),(so "major",.none),(so "minor",.none),(so "patch",.none),(so "prerelease",.none),(so "build",.none),(so "partial",.bool false)],cel:=[],mu:=some (.inst 448 []),code:=vr 268 } (fBody (mth 14 0)))):=by kernel_rfl
  have e1:callAt (KF P) (n+3) false 448 [.str (mk (comp5 x))] [(so "partial",.bool false)]=noExc false (clsEnd 448 (execEs (KF P) (callAt (KF P) (n+2)) 200 false { scope:=scI,loc:=[(so "self",.own),(so "version_string",.str (mk (comp5 x))),(so "major",.none),(so "minor",.none),(so "patch",.none),(so "prerelease",.none),(so "build",.none),(so "partial",.bool false)],cel:=[],mu:=some (.inst 448 []),code:=vr 268 } (fBody (mth 14 0)))):=by kernel_rfl
  have key:∀ fm,Fr scI (vr 268) [(so "self",.own),(so "version_string",.str (mk (comp5 x))),(so "major",.none),(so "minor",.none),(so "patch",.none),(so "prerelease",.none),(so "build",.none),(so "partial",.bool false)] [] (some (.inst 448 [])) fm→XS (KF P) (callAt (KF P) (n+2)) 200 false fm (fBody (mth 14 0)) fun sr=>∃ f fs,sr=.nx f∧f.mu=some (.inst 448 fs)∧IsVer fs (digitsVal x.1) (digitsVal x.2.1) (digitsVal x.2.2.1) (pw x.2.2.2.1) (pw x.2.2.2.2):=by
    intro fm F
    conv=>arg 6;whnf
    refine xs_if_f (te_val (v:=.bool false) (by kernel_rfl) (by walk_at "e") rfl) ?_
    have i1:cmpE (KF P) (callAt (KF P) (n+2)) false .IsNot (.str (mk (comp5 x))) .none=some (.ok (.bool true)):=rfl
    have i2:=p_is_none (K:=KF P) (C:=callAt (KF P) (n+2)) (st:=false) (v:=.none) rfl
    refine xs_asg (v:=.bool true) F (by kernel_rfl) (by walk_at "e") fun fm F=>?_
    refine xs_asg (v:=.bool false) F (by kernel_rfl) (ev_not (b:=true) (ev_bool (be_and_t (v:=.bool true) (by walk_at "e") rfl (be_and_t (v:=.bool true) (by walk_at "e") rfl (be_and_t (v:=.bool true) (by walk_at "e") rfl (be_and_t (v:=.bool true) (by walk_at "e") rfl (be_one (v:=.bool true) (by walk_at "e"))))))) rfl) fun fm F=>?_
    have hxor:binE fm .BitXor (.bool true) (.bool false)=some (.ok (.bool true)):=rfl
    refine xs_if_f (te_not (b:=true) (te_val (v:=.bool true) (by kernel_rfl) (by walk_at "e") rfl)) ?_
    have hrp:runT (callAt (KF P) (n+2)) false (Str.ofString "parse") (.cm 448 328) [.str (mk (comp5 x)),.bool false] []=some (.ok (.tup (tupV x))):=(parse_two (P:=P) (n:=n) I).2
    have tp:=tg_parse (P:=P) F
    refine xs_ifM (tb:=true) (fun fm=>Fr scI (vr 268) [(so "self",.own),(so "major",.int (digitsVal x.1)),(so "minor",.int (digitsVal x.2.1)),(so "patch",.int (digitsVal x.2.2.1)),(so "prerelease",wt (pw x.2.2.2.1)),(so "build",wt (pw x.2.2.2.2)),(so "partial",.bool false)] [] (some (.inst 448 [])) fm) (te_val (v:=.bool true) (by kernel_rfl) (by walk_at "e") rfl) ?_ ?_
    · refine xs_tup (vs:=tupV x) (ns:=[so "major",so "minor",so "patch",so "prerelease",so "build"]) F (by kernel_rfl) ⟨by kernel_rfl,by kernel_rfl⟩ (by kernel_rfl) (.inl rfl) (by walk_at "e") fun fm F=>?_
      change Fr _ _ [(so "build",wt (pw x.2.2.2.2)),(so "prerelease",wt (pw x.2.2.2.1)),(so "patch",.int (digitsVal x.2.2.1)),(so "minor",.int (digitsVal x.2.1)),(so "major",.int (digitsVal x.1)),_,_,(so "self",.own),_,_,_,_,_,_,(so "partial",.bool false)] _ _ _ at F
      exact xs_nil (by walk_at "m")
    clear F
    intro fm F
    refine XS.mono (init_tail I.p.2.1 I.q.2.1 F) ?_
    rintro sr ⟨f,fs,rfl,hm,hv⟩
    exact ⟨f,fs,rfl,hm,hv⟩
  obtain ⟨sr,e2,f,fs,rfl,hm,hv⟩:=key _ F0m
  have e3:=congrArg (fun s=>noExc false (clsEnd 448 s)) e2
  have e4:noExc false (clsEnd 448 (some (.nx f)))=some (.ok (.inst 448 fs)):=congrArg (noExc false) (akb (a:=(448,fs)) (by unfold muInst;rw [hm]) rfl)
  exact ⟨fs,hv,e0.trans (e3.trans e4),e1.trans (e3.trans e4)⟩
noncomputable def isWs (v:PV) (e:List (List Nat)):Prop:=v=wl e∨v=wt e
theorem or_ws {C:CallSem} {m:Nat} {fm:Fm} {ex k p q v} {e:List (List Nat)} (hv:isWs v e) (h:EV (KF P) C (m+3) st fm ex v):∃ w,EV (KF P) C (m+5) st fm (.BoolOp .Or [ex,.Tuple [] k q] p) w∧callB (KF P) C st fm (.type "tuple") [w]=some (.ok (wt e)):=by
  rcases hv with rfl | rfl
  · induction e using List.casesOn with
    | nil=>exact ⟨.tup [],ev_bool (be_or_f h rfl (be_one rfl)),rfl⟩
    | cons a r=>exact ⟨_,ev_bool (be_or_t h rfl),rfl⟩
  · exact ⟨_,or_wt h,rfl⟩
theorem ev_tor {C:CallSem} {m:Nat} {fm:Fm} {f fp ex k p q pos v} {e:List (List Nat)} (hf:nameE (KF P) fm f=some (.glob (.type "tuple"))) (hv:isWs v e) (h:EV (KF P) C (m+3) st fm ex v):EV (KF P) C (m+7) st fm (.Call (.Name f fp) [.BoolOp .Or [ex,.Tuple [] k q] p] [] pos) (wt e):=by
  obtain ⟨w,h1,h2⟩:=or_ws (k:=k) (p:=p) (q:=q) hv h
  exact ev_bi (by kernel_rfl) hf (by kernel_rfl) (fun Z h=>nomatch h) (es_cons rfl h1 es_nil) h2
theorem tg_vkw {fm:Fm} {sc cd l c} (F:Fr sc cd l c (some (.inst 448 [])) fm):tgtOf (KF P) fm .own (Str.ofString "_validate_kwargs")=some (.cm 448 349):=tg_own F (by kernel_rfl)
theorem ver_parts {i j k:Int} {e u:List (List Nat)} {v1 v2:PV} (he:GW e) (hu:GW u) (be:∀ w∈e,badId false w=false) (bu:∀ w∈u,badId true w=false) (h1:isWs v1 e) (h2:isWs v2 u):
    ∃ fs,IsVer fs i j k e u∧callAt (KF P) (n+3) false 448 [] [(so "major",.int i),(so "minor",.int j),(so "patch",.int k),(so "prerelease",v1),(so "build",v2)]=some (.ok (.inst 448 fs)):=by
  have e0:callAt (KF P) (n+3) false 448 [] [(so "major",.int i),(so "minor",.int j),(so "patch",.int k),(so "prerelease",v1),(so "build",v2)]=noExc false (clsEnd 448 (execEs (KF P) (callAt (KF P) (n+2)) 200 false { scope:=scI,loc:=[(so "self",.own),(so "version_string",.none),(so "major",.int i),(so "minor",.int j),(so "patch",.int k),(so "prerelease",v1),(so "build",v2),(so "partial",.bool false)],cel:=[],mu:=some (.inst 448 []),code:=vr 268 } (fBody (mth 14 0)))):=by kernel_rfl
  have key:∀ fm,Fr scI (vr 268) [(so "self",.own),(so "version_string",.none),(so "major",.int i),(so "minor",.int j),(so "patch",.int k),(so "prerelease",v1),(so "build",v2),(so "partial",.bool false)] [] (some (.inst 448 [])) fm→XS (KF P) (callAt (KF P) (n+2)) 200 false fm (fBody (mth 14 0)) fun sr=>∃ f fs,sr=.nx f∧f.mu=some (.inst 448 fs)∧IsVer fs i j k e u:=by
    intro fm F
    conv=>arg 6;whnf
    refine xs_if_f (te_val (v:=.bool false) (by kernel_rfl) (by walk_at "e") rfl) ?_
    have i1:cmpE (KF P) (callAt (KF P) (n+2)) false .IsNot .none .none=some (.ok (.bool false)):=rfl
    have i2:cmpE (KF P) (callAt (KF P) (n+2)) false .Is (.int i) .none=some (.ok (.bool false)):=rfl
    refine xs_asg (v:=.bool false) F (by kernel_rfl) (by walk_at "e") fun fm F=>?_
    refine xs_asg (v:=.bool true) F (by kernel_rfl) (ev_not (b:=false) (ev_bool (be_and_f (v:=.bool false) (by walk_at "e") rfl)) rfl) fun fm F=>?_
    have hxor:binE fm .BitXor (.bool false) (.bool true)=some (.ok (.bool true)):=rfl
    refine xs_if_f (te_not (b:=true) (te_val (v:=.bool true) (by kernel_rfl) (by walk_at "e") rfl)) ?_
    refine xs_ifM (tb:=false) (fun fm=>Fr scI (vr 268) [(so "self",.own),(so "major",.int i),(so "minor",.int j),(so "patch",.int k),(so "prerelease",wt e),(so "build",wt u),(so "partial",.bool false)] [] (some (.inst 448 [])) fm) (te_val (v:=.bool false) (by kernel_rfl) (by walk_at "e") rfl) ?_ ?_
    · refine xs_asg (v:=wt e) F (by kernel_rfl) (ev_tor (by walk_at "n") h1 (by walk_at "e")) fun fm F=>?_
      refine xs_ifM (tb:=true) (fun fm=>Fr scI (vr 268) [(so "self",.own),(so "major",.int i),(so "minor",.int j),(so "patch",.int k),(so "prerelease",wt e),(so "build",wt u),(so "partial",.bool false)] [] (some (.inst 448 [])) fm) (te_not (b:=false) (te_val (v:=.bool false) (by kernel_rfl) (by walk_at "e") rfl)) ?_ ?_
      · refine xs_asg (v:=wt u) F (by kernel_rfl) (ev_tor (by walk_at "n") h2 (by walk_at "e")) fun fm F=>?_
        exact xs_nil (by walk_at "m")
      clear F
      intro fm F
      have tv:=tg_vkw (P:=P) F
      have hv:runT (callAt (KF P) (n+2)) false (Str.ofString "_validate_kwargs") (.cm 448 349) [.int i,.int j,.int k,wt e,wt u,.bool false] []=some (.ok .none):=vkw_ok he hu be bu
      exact xs_expr (v:=.none) (by kernel_rfl) (by walk_at "e") (xs_nil F)
    clear F
    intro fm F
    refine XS.mono (init_tail he hu F) ?_
    rintro sr ⟨f,fs,rfl,hm,hv⟩
    exact ⟨f,fs,rfl,hm,hv⟩
  obtain ⟨sr,e2,f,fs,rfl,hm,hv⟩:=key _ F0m
  have e3:=congrArg (fun s=>noExc false (clsEnd 448 s)) e2
  exact ⟨fs,hv,e0.trans (e3.trans (congrArg (noExc false) (akb (a:=(448,fs)) (by unfold muInst;rw [hm]) rfl)))⟩
end
section
variable {P:Params} {n:Nat} {st:Bool}
noncomputable def optj (c:Nat):List (List Nat)→List Nat
  | []=>[]
  | w::r=>c::joinL 46 (w::r)
noncomputable def strOf5 (a b c:List Nat) (e u:List (List Nat)):List Nat:=a++46::(b++46::(c++(optj 45 e++optj 43 u)))
theorem mk_app {a b:List Nat}:mk a++mk b=mk (a++b):=by
  apply PySem.Str.ext'
  show (⟨a⟩:Array Nat)++⟨b⟩=⟨a++b⟩
  simp
theorem dotS:Str.ofString "."=mk [46]:=by decide +kernel
theorem dashS:Str.ofString "-"=mk [45]:=by decide +kernel
theorem plusS:Str.ofString "+"=mk [43]:=by decide +kernel
structure DecOf (i:Int) (a:List Nat):Prop where
  e:Str.ofString (toString i)=mk a
  h0:0≤i
  h1:i < 10 ^ 250
  len:a.length≤600
theorem strR_mk {l:List Nat} (h:l.length≤lenLine):strR (mk l)=some (.ok (.str (mk l))):=by
  exact strR_ok (show (mk l).length≤lenLine from h)
theorem p_d {i:Int} {a:List Nat} {fm:Fm} (h:DecOf i a):binE fm .Mod (.str (Str.ofString "%d")) (.int i)=some (.ok (.str (mk a))):=by
  show grd (fmtLit (Str.ofString "%d") "%d"&&smallI i) (strR (Str.ofString (toString i)))=_
  rw [h.e]
  refine grb (by rw [smallI_t h.h0 h.h1,Bool.and_true];exact beq_self_eq_true _) ?_
  exact strR_mk (show a.length≤lenLine by unfold lenLine;have:=h.len;lia)
theorem p_sd {i:Int} {a x:List Nat} {fm:Fm} (h:DecOf i a) (hx:x.length≤2000):binE fm .Mod (.str (Str.ofString "%s.%d")) (.tup [.str (mk x),.int i])=some (.ok (.str (mk (x++46::a)))):=by
  show grd (fmtLit (Str.ofString "%s.%d") "%s.%d"&&smallI i) (strR (mk x++Str.ofString "."++Str.ofString (toString i)))=_
  rw [h.e,dotS,mk_app,mk_app,List.append_assoc]
  refine grb (by rw [smallI_t h.h0 h.h1,Bool.and_true];exact beq_self_eq_true _) ?_
  exact strR_mk (show (x++46::a).length≤lenLine by rw [List.length_append,List.length_cons];unfold lenLine;have:=h.len;lia)
theorem joinR_two {s:String} {c:Nat} {x y:List Nat} (hs:Str.ofString s=mk [c]) (h:x.length+y.length≤10000):joinR [mk x,Str.ofString s,mk y]=some (.ok (.str (mk (x++c::y)))):=by
  rw [hs]
  show strR (mk x++(mk [c]++(mk y++Str.empty)))=_
  rw [PySem.Str.append_empty,mk_app,mk_app]
  exact strR_mk (show (x++([c]++y)).length≤lenLine by simp;unfold lenLine;lia)
theorem str_ok {fs:Bnd} {i j k:Int} {a b c:List Nat} {e u:List (List Nat)} (V:IsVer fs i j k e u) (hi:DecOf i a) (hj:DecOf j b) (hk:DecOf k c) (he:GW e) (hu:GW u):
    callAt (KF P) (n+1) st 366 [.inst 448 fs] []=some (.ok (.str (mk (strOf5 a b c e u)))):=by
  refine fn_ret' (C:=callAt (KF P) n) (N:=200) (sc:=fScope (mth 14 11)) (cd:=vr 365) (l:=[(so "self",.inst 448 fs)]) (ss:=fBody (mth 14 11)) (by kernel_rfl) rfl fun fm F=>?_
  conv=>arg 6;whnf
  obtain ⟨V1,V2,V3,V4,V5,V6,Z⟩:=V
  have p1:=p_d (fm:=fm) hi
  refine xs_asg (v:=.str (mk a)) F (by kernel_rfl) (by walk_at "e") fun fm F=>?_
  have ni:∀ i:Int,cmpE (KF P) (callAt (KF P) n) st .IsNot (.int i) .none=some (.ok (.bool true)):=fun Z=>rfl
  have nj:=ni j
  have nk:=ni k
  refine xs_ifM (tb:=true) (fun fm=>Fr (fScope (mth 14 11)) (vr 365) [(so "version",.str (mk (a++46::b))),(so "self",.inst 448 fs)] [] none fm) ?_ ?_ ?_
  · exact te_cmp (a:=.int j) (b:=.none) (v:=.bool true) (by kernel_rfl) (by walk_at "e") (by walk_at "e") nj rfl
  · have p2:=p_sd (x:=a) (fm:=fm) hj (Nat.le_trans hi.len (by decide))
    exact xs_asg (v:=.str (mk (a++46::b))) F (by kernel_rfl) (by walk_at "e") fun fm F=>xs_nil (by walk_at "m")
  clear F
  intro fm F
  refine xs_ifM (tb:=true) (fun fm=>Fr (fScope (mth 14 11)) (vr 365) [(so "version",.str (mk (a++46::b++46::c))),(so "self",.inst 448 fs)] [] none fm) ?_ ?_ ?_
  · exact te_cmp (a:=.int k) (b:=.none) (v:=.bool true) (by kernel_rfl) (by walk_at "e") (by walk_at "e") nk rfl
  · have p2:=p_sd (x:=a++46::b) (fm:=fm) hk (by have:=hi.len;have:=hj.len;simp;lia)
    exact xs_asg (v:=.str (mk (a++46::b++46::c))) F (by kernel_rfl) (by walk_at "e") fun fm F=>xs_nil (by walk_at "m")
  clear F
  intro fm F
  have hx:(a++46::b++46::c).length≤1802:=by have:=hi.len;have:=hj.len;have:=hk.len;simp;lia
  generalize hxe:a++46::b++46::c=x at F hx
  refine xs_ifM (tb:=!e.isEmpty) (fun fm=>Fr (fScope (mth 14 11)) (vr 365) [(so "version",.str (mk (x++optj 45 e))),(so "self",.inst 448 fs)] [] none fm) ?_ ?_ ?_
  · rw [show (!e.isEmpty)=(!e.isEmpty||false) by rw [Bool.or_false]]
    exact te_or2 (te_val (v:=wt e) (by kernel_rfl) (by walk_at "e") truth_wt) fun Z=>te_bool (ts_and (b:=false) (te_val (v:=.bool false) (by kernel_rfl) (by walk_at "e") rfl) (fun h=>nomatch h) fun Z=>rfl)
  · induction e using List.casesOn with
    | nil=>exact xs_nil (show Fr _ _ [(_,.str (mk (x++[]))),_] _ _ _ by rw [List.append_nil];walk_at "f")
    | cons w r=>
      have hj:=r_joinT (C:=callAt (KF P) n) (st:=st) he
      have h1:(mk x).length≤100000:=Nat.le_trans hx (by decide)
      have hle:=joinL_len (c:=46) (w::r)
      have hs:=he.sum
      have h2:(mk (joinL 46 (w::r))).length≤100000:=by show (joinL 46 (w::r)).length≤_;lia
      have hjj:=joinR_two (s:="-") (x:=x) (y:=joinL 46 (w::r)) dashS (by lia)
      refine xs_asg (v:=.str (mk (x++45::joinL 46 (w::r)))) F (by kernel_rfl) ?_ fun fm F=>xs_nil (show Fr _ _ [(_,.str (mk (x++45::joinL 46 (w::r)))),_] _ _ _ by walk_at "f")
      walk_at "e"
  clear F
  intro fm F
  have hx2:(x++optj 45 e).length≤5000:=by
    have h1:=joinL_len (c:=46) e
    have h2:=he.sum
    induction e using List.casesOn with
    | nil=>rw [show optj 45 []=[] from rfl,List.append_nil];lia
    | cons w r=>rw [show optj 45 (w::r)=45::joinL 46 (w::r) from rfl,List.length_append,List.length_cons];simp only [List.length_cons] at h1 h2;lia
  have hfin:strOf5 a b c e u=x++optj 45 e++optj 43 u:=by
    rw [← hxe];unfold strOf5;simp
  rw [hfin]
  clear hfin
  generalize x++optj 45 e=y at F hx2
  refine xs_ifM (tb:=!u.isEmpty) (fun fm=>Fr (fScope (mth 14 11)) (vr 365) [(so "version",.str (mk (y++optj 43 u))),(so "self",.inst 448 fs)] [] none fm) ?_ ?_ ?_
  · rw [show (!u.isEmpty)=(!u.isEmpty||false) by rw [Bool.or_false]]
    exact te_or2 (te_val (v:=wt u) (by kernel_rfl) (by walk_at "e") truth_wt) fun Z=>te_and2 (b1:=false) (b2:=false) (te_val (v:=.bool false) (by kernel_rfl) (by walk_at "e") rfl) fun h=>nomatch h
  · induction u using List.casesOn with
    | nil=>exact xs_nil (show Fr _ _ [(_,.str (mk (y++[]))),_] _ _ _ by rw [List.append_nil];walk_at "f")
    | cons w r=>
      have hj:=r_joinT (C:=callAt (KF P) n) (st:=st) hu
      have h1:(mk y).length≤100000:=Nat.le_trans hx2 (by decide)
      have hle:=joinL_len (c:=46) (w::r)
      have hs:=hu.sum
      have h2:(mk (joinL 46 (w::r))).length≤100000:=by show (joinL 46 (w::r)).length≤_;lia
      have hjj:=joinR_two (s:="+") (x:=y) (y:=joinL 46 (w::r)) plusS (by lia)
      refine xs_asg (v:=.str (mk (y++43::joinL 46 (w::r)))) F (by kernel_rfl) ?_ fun fm F=>xs_nil (show Fr _ _ [(_,.str (mk (y++43::joinL 46 (w::r)))),_] _ _ _ by walk_at "f")
      walk_at "e"
  clear F
  intro fm F
  exact xs_ret (by walk_at "e") ⟨_,rfl⟩
end
section
variable {P:Params} {n:Nat} {st:Bool}
theorem isi_ok {C:CallSem} {fm:Fm} {fs:Bnd}:callB (KF P) C st fm (.builtin "isinstance") [.inst 448 fs,.glob (.ref 448)]=some (.ok (.bool true)):=by kernel_rfl
theorem sp_eq:specOf (KF P) 448 (Str.ofString "__eq__")=some 410:=by kernel_rfl
theorem sp_str:specOf (KF P) 448 (Str.ofString "__str__")=some 366:=by kernel_rfl
theorem sp_iter:specOf (KF P) 448 (Str.ofString "__iter__")=some 359:=by kernel_rfl
theorem it_ok:iterOk (KF P) 448 359=true:=by kernel_rfl
theorem iterV_ok {fs:Bnd} {i j k:Int} {e u:List (List Nat)} (V:IsVer fs i j k e u):iterV fs partNs=some (five5 i j k e u):=
  akb V.a (grb rfl (akb (akb V.b (grb rfl (akb (akb V.c (grb rfl (akb (akb V.d (grb rfl (akb (akb V.e (grb rfl (akb (a:=[]) rfl rfl))) rfl))) rfl))) rfl))) rfl))
theorem iterI_ok {fs:Bnd} {i j k:Int} {e u:List (List Nat)} (V:IsVer fs i j k e u):iterI (KF P) 448 fs=some (.ok (.list (five5 i j k e u))):=akb sp_iter (grb it_ok (akb (iterV_ok V) rfl))
theorem cB_lst {K C fm D fs}:callB K C false fm (.type "list") [.inst D fs]=iterI K D fs:=rfl
theorem lst_inst {C:CallSem} {fm:Fm} {fs:Bnd} {i j k:Int} {e u:List (List Nat)} (V:IsVer fs i j k e u):callB (KF P) C false fm (.type "list") [.inst 448 fs]=some (.ok (.list (five5 i j k e u))):=by rw [cB_lst,iterI_ok V]
theorem inst_cmp {K:Frag} {C:CallSem} {nm:Str} {D f:Addr} {fs gs:Bnd} {b:Bool} (hs:specOf K D nm=some f) (h:C st f [.inst D fs,.inst D gs] []=some (.ok (.bool b))):instCmp K C st nm D fs (.inst D gs)=some (.ok (.bool b)):=
  akb (show asInst (.inst D gs)=some (D,gs) from rfl) (grb (beq_self_eq_true D) (akb hs (rb h rfl)))
theorem str_cmp {K:Frag} {C:CallSem} {D f:Addr} {fs:Bnd} {x:Str} (hs:specOf K D (Str.ofString "__str__")=some f) (h:C st f [.inst D fs] []=some (.ok (.str x))):strE K C st (.inst D fs)=some (.ok (.str x)):=
  akb hs (akb (a:=x) (by rw [h];rfl) rfl)
theorem p_eq_inst {C:CallSem} {fs gs:Bnd} {b:Bool} (h:C st 410 [.inst 448 fs,.inst 448 gs] []=some (.ok (.bool b))):cmpE (KF P) C st .Eq (.inst 448 fs) (.inst 448 gs)=some (.ok (.bool b)):=by
  show instCmp (KF P) C st (Str.ofString "__eq__") 448 fs (.inst 448 gs)=_
  exact inst_cmp sp_eq h
theorem str_inst {C:CallSem} {fm:Fm} {fs:Bnd} {x:PySem.Str} (h:C st 366 [.inst 448 fs] []=some (.ok (.str x))):callB (KF P) C st fm (.type "str") [.inst 448 fs]=some (.ok (.str x)):=by
  show strE (KF P) C st (.inst 448 fs)=_
  exact str_cmp sp_str h
theorem eq_ok {fs gs:Bnd} {i j k i' j' k':Int} {e u e' u':List (List Nat)} (V:IsVer fs i j k e u) (W:IsVer gs i' j' k' e' u') (he:GW e) (hu:GW u) (he':GW e') (hu':GW u'):
    callAt (KF P) (n+1) st 410 [.inst 448 fs,.inst 448 gs] []=some (.ok (.bool (same5 i j k e u i' j' k' e' u'))):=by
  refine fn_ret' (C:=callAt (KF P) n) (N:=200) (sc:=fScope (mth 14 17)) (cd:=vr 409) (l:=[(so "self",.inst 448 fs),(so "other",.inst 448 gs)]) (ss:=fBody (mth 14 17)) (by kernel_rfl) rfl fun fm F=>?_
  conv=>arg 6;whnf
  obtain ⟨V1,V2,V3,V4,V5,V6,Z⟩:=V
  obtain ⟨W1,W2,W3,W4,W5,W6,Z⟩:=W
  have hi:=isi_ok (P:=P) (C:=callAt (KF P) n) (st:=st) (fm:=fm) (fs:=gs)
  refine xs_if_f (te_not (b:=true) (te_val (v:=.bool true) (by kernel_rfl) (by walk_at "e") rfl)) ?_
  have h4:=p_eq_wt (K:=KF P) (C:=callAt (KF P) n) (st:=st) he he'
  have h5:=p_eq_wt (K:=KF P) (C:=callAt (KF P) n) (st:=st) hu hu'
  refine xs_ret (ev_bool (be_and (v:=.bool (i==i')) (by walk_at "e") rfl (fun q1=>be_and (v:=.bool (j==j')) (by walk_at "e") rfl (fun q2=>be_and (v:=.bool (k==k')) (by walk_at "e") rfl (fun q3=>be_and (v:=.bool (e==e')) (ev_cmp (by kernel_rfl) (or_wt (by walk_at "e")) (or_wt (by walk_at "e")) h4) rfl (fun q4=>be_one (v:=.bool (same5 i j k e u i' j' k' e' u')) ?_) ?_) ?_) ?_) ?_)) ⟨_,rfl⟩
  · rw [show same5 i j k e u i' j' k' e' u'=(u==u') by unfold same5;rw [q1,q2,q3,q4];simp]
    exact ev_cmp (by kernel_rfl) (or_wt (by walk_at "e")) (or_wt (by walk_at "e")) h5
  · intro q;unfold same5;rw [q1,q2,q3,q];simp
  · intro q;unfold same5;rw [q1,q2,q];simp
  · intro q;unfold same5;rw [q1,q];simp
  · intro q;unfold same5;rw [q];simp
theorem validate_ok {l:List Nat} {v:PV} (h:callAt (KF P) (n+2) false 328 [.glob (.ref 448),.str (mk l)] []=some (.ok v)):callAt (KF P) (n+3) false 459 [.str (mk l)] []=some (.ok (.bool true)):=by
  refine fn_ret' (C:=callAt (KF P) (n+2)) (N:=200) (sc:=fScope (top1 15)) (cd:=vr 458) (l:=[(so "version_string",.str (mk l))]) (ss:=fBody (top1 15)) (by kernel_rfl) rfl fun fm F=>?_
  conv=>arg 6;whnf
  have tp:tgtOf (KF P) fm (.glob (.ref 448)) (Str.ofString "parse")=some (.cm 448 328):=by kernel_rfl
  have hr:runT (callAt (KF P) (n+2)) false (Str.ofString "parse") (.cm 448 328) [.str (mk l)] []=some (.ok v):=h
  refine xs_try ?_
  exact xs_exprM (v:=.glob (.ref 448)) (by walk_at "n") rfl (w:=v) (by walk_at "e") (xs_ret (v:=.bool true) (by walk_at "e") ⟨_,rfl⟩)
end
section
noncomputable def decL (n:Nat):List Nat:=(Nat.toDigits 10 n).map Char.toNat
theorem ofString_nat (n:Nat):Str.ofString (toString (n:Int))=mk (decL n):=by
  rw [PySem.Str.ofString_eq_toList]
  show (⟨((toString (n:Int)).toList.map Char.toNat).toArray⟩:PySem.Str)=⟨⟨decL n⟩⟩
  have:(toString (n:Int)).toList=Nat.toDigits 10 n:=by
    show (Nat.repr n).toList=_
    exact Nat.toList_repr
  rw [this];rfl
theorem decL_small:∀ d:Fin 10,decL d.val=[d.val+48]:=by decide +kernel
theorem decL_app {n d:Nat} (hn:0 < n) (hd:d < 10):decL (n*10+d)=decL n++[d+48]:=by
  unfold decL
  rw [Nat.mul_comm,← Nat.toDigits_append_toDigits (by decide) hn hd,List.map_append]
  congr 1
  exact decL_small ⟨d,hd⟩
theorem dec_asc {i:Int} (h:0≤i) {k:Nat} (hk:0 < k) (hi:i < 10 ^ k):∃ l,Str.ofString (toString i)=mk l∧(∀ c∈l,48≤c∧c≤57)∧l.length≤k:=by
  obtain ⟨n,rfl⟩:=Int.eq_ofNat_of_zero_le h;clear h
  refine ⟨decL n,ofString_nat n,fun c hc=>?_,?_⟩
  · obtain ⟨q,hq,rfl⟩:=List.mem_map.mp hc;clear hc
    have:=Nat.isDigit_of_mem_toDigits (by decide) (by decide) hq
    unfold Char.isDigit at this
    simp only [Bool.and_eq_true,decide_eq_true_eq] at this
    exact ⟨by exact_mod_cast this.1,by exact_mod_cast this.2⟩
  · unfold decL
    rw [List.length_map,Nat.length_toDigits_le_iff (by decide) hk]
    exact_mod_cast hi
end
section
open StrLaws Builtin.Str
theorem occ_short {l:List Nat} {c:Nat} (h:l.length < 1):occurrences (mk l) (ch c) 0 (mk l).length ((mk l).length+1)=[]:=by
  rcases occ_head (mk l) (ch c) ((mk l).length+1) (Nat.succ_pos _) with ⟨e,Z⟩ | ⟨i,r,Z,ha,Z⟩
  · exact e
  · have:=ha.1
    have h1:(mk l).length=l.length:=rfl
    have h2:(ch c).length=1:=rfl
    omega
theorem kind_ge (x:PySem.Str) (c:Nat) (hc:c < 256):decide (PySem.Builtin.Str.strKind x < PySem.Builtin.Str.strKind (ch c))=false:=by
  have h1:PySem.Builtin.Str.strKind (ch c)=1:=by
    unfold PySem.Builtin.Str.strKind ch
    rw [if_pos]
    simp [hc]
  have h2:1≤PySem.Builtin.Str.strKind x:=by unfold PySem.Builtin.Str.strKind;(repeat' split)<;>decide
  rw [h1,decide_eq_false_iff_not]
  omega
theorem spl_parts {l:List Nat} {c:Nat} (hc:c < 256):(spl c l).map mk=partsFrom (mk l) 1 0 (occurrences (mk l) (ch c) 0 (mk l).length ((mk l).length+1)):=by
  rw [← split_eq]
  unfold PySem.Txt.split
  rw [kind_ge _ _ hc,Bool.or_false]
  by_cases h:l.length < 1
  · rw [if_pos (decide_eq_true (show (mk l).length < (ch c).length from h)),occ_short h]
    show _=[strSub _ _ _]
    rw [sub_whole]
  · rw [if_neg (by rw [decide_eq_true_eq];exact h)]
    generalize occurrences (mk l) (ch c) 0 (mk l).length ((mk l).length+1)=cuts
    cases cuts with
    | nil=>rw [if_pos rfl];show _=[strSub _ _ _];rw [sub_whole]
    | cons i r=>rw [if_neg nofun,partsBetween_eq];rfl
theorem parts_len (x:PySem.Str) (w:Nat):∀ (cuts:List Nat) (a:Nat),(partsFrom x w a cuts).length=cuts.length+1
  | [],_=>rfl
  | c::r,a=>congrArg (·+1) (parts_len x w r (c+w))
theorem count_eq {l:List Nat} {c:Nat} (hc:c < 256):PySem.Txt.count (mk l) (ch c)=(((spl c l).length - 1:Nat):Int):=by
  have h:=congrArg List.length (spl_parts (l:=l) hc)
  rw [List.length_map,parts_len] at h
  rw [h,Nat.add_sub_cancel]
  rfl
theorem replace_eq {l:List Nat} {c d:Nat} (hc:c < 256):PySem.Txt.replace (mk l) (ch c) (ch d)=mk (joinL d (spl c l)):=by
  rw [← join_eq,spl_parts hc]
  unfold PySem.Txt.replace PySem.Txt.join
  rw [show ((ch c).length==0&&(ch d).length==0)=false from rfl,Bool.or_false]
  generalize occurrences (mk l) (ch c) 0 (mk l).length ((mk l).length+1)=cuts
  cases cuts with
  | nil=>
    rw [if_pos rfl,glued_eq_join]
    show _=strSub _ _ _
    rw [sub_whole]
  | cons i r=>rw [if_neg nofun,partsBetween_eq];rfl
theorem splitMax_eq {l:List Nat} {c:Nat} (hc:c < 256) (h:c∈l):PySem.Txt.splitMax (mk l) (ch c) 1=[mk (cutB c l),mk (cutA c l)]:=by
  unfold PySem.Txt.splitMax
  have hne:¬ (mk l).length < (ch c).length:=by
    have:0 < l.length:=List.length_pos_of_mem h
    show ¬ l.length < 1
    omega
  rw [kind_ge _ _ hc,Bool.or_false,if_neg (by rw [decide_eq_true_eq];exact hne)]
  rw [show PySem.limitOf (mk l) 1=1 from rfl]
  have at_iff:∀ i,StrLaws.At (mk l) (ch c) (mk l).length i↔l[i]?=some c:=fun i=>subAt_one (mk l) c i
  have hlen:=occ_length_le (mk l) (ch c) 0 (mk l).length 1
  rcases occ_head (mk l) (ch c) 1 (Nat.le_refl _) with ⟨Z,hn⟩ | ⟨i,r,e,ha,hk⟩
  · obtain ⟨i,hi⟩:=List.mem_iff_getElem?.mp h
    exact absurd ((at_iff i).mpr hi) (hn i)
  · rw [e] at hlen ⊢
    have hr:r=[]:=List.eq_nil_of_length_eq_zero (by rw [List.length_cons] at hlen;omega)
    subst hr
    rw [if_neg nofun,partsBetween_eq]
    have ha:=(at_iff i).mp ha
    have hl:=cut_eq h
    have hf:=cutB_free (c:=c) (l:=l)
    have hk:∀ k,k < i→l[k]?≠some c:=fun k q e=>hk k q ((at_iff k).mpr e)
    generalize cutB c l=a at hl hf ⊢
    generalize cutA c l=b at hl ⊢
    subst hl
    have h1:¬ i < a.length:=fun q=>by
      rw [List.getElem?_append_left q] at ha
      exact hf (List.mem_of_getElem? ha)
    have h2:¬ a.length < i:=fun q=>hk a.length q (by simp)
    have:i=a.length:=by omega
    subst this
    show [strSub _ _ _,strSub _ _ _]=_
    congr 1
    · apply PySem.Str.ext'
      show (⟨a++c::b⟩:Array Nat).extract 0 a.length=⟨a⟩
      simp
    · congr 1
      apply PySem.Str.ext'
      show (⟨a++c::b⟩:Array Nat).extract (a.length+1) (a++c::b).length=⟨b⟩
      apply Array.ext'
      rw [Array.toList_extract,List.extract_eq_take_drop]
      show List.take _ (List.drop _ (a++c::b))=b
      rw [← List.drop_drop,List.drop_left]
      exact List.take_of_length_le (by show b.length≤(a++c::b).length - _;simp;omega)
theorem lstrip_eq {l:List Nat} {c:Nat}:PySem.Txt.lstripChars (mk l) (ch c)=mk (l.dropWhile (·==c)):=by
  have e0:(fun d=>(ch c).cps.contains d)=(·==c):=by
    funext d
    show (#[c]:Array Nat).contains d=_
    rw [Bool.eq_iff_iff,Array.contains_iff_mem,beq_iff_eq]
    exact ⟨fun h=>by simpa using h,fun h=>by simp [h]⟩
  have e1:∀ l:List Nat,l.drop (l.takeWhile (·==c)).length=l.dropWhile (·==c):=fun l=>by
    conv=>lhs;arg 2;rw [← List.takeWhile_append_dropWhile (p:=(·==c)) (l:=l)]
    exact List.drop_left
  unfold PySem.Txt.lstripChars PySem.Txt.stripBy
  have hs:∀ g:Nat→Bool,PySem.stripped g true false (mk l)=mk (l.drop (l.takeWhile g).length):=fun g=>by
    unfold PySem.stripped
    apply PySem.Str.ext'
    show (⟨l⟩:Array Nat).extract (l.takeWhile g).length l.length=⟨_⟩
    apply Array.ext'
    rw [Array.toList_extract,List.extract_eq_take_drop]
    exact List.take_of_length_le (by rw [List.length_drop];exact Nat.le_refl _)
  have key:∀ g:Nat→Bool,(if stripSame g true false (mk l)=true then mk l else PySem.stripped g true false (mk l))=mk (l.drop (l.takeWhile g).length):=fun g=>by
    split
    · rename_i h
      have:(l.takeWhile g).length=0:=by
        have:=(and_tt h).1
        exact beq_iff_eq.mp this
      rw [this,List.drop_zero]
    · exact hs g
  rw [key,← e1]
  exact congrArg (fun g=>mk (l.drop (l.takeWhile g).length)) e0
theorem mul_eq {c:Nat} {n:Int} (h0:0≤n) (h2:n≤2):PySem.Txt.mul (ch c) n=mk (List.replicate n.toNat c):=by
  have:n=0∨n=1∨n=2:=by omega
  rcases this with rfl | rfl | rfl<;>rfl
end
section
noncomputable def strip0 (w:List Nat):List Nat:=if (w.dropWhile (·==48)).isEmpty then [48] else w.dropWhile (·==48)
noncomputable def opt' (c:Nat) (w:List Nat):List Nat:=if w.isEmpty then [] else c::w
noncomputable def dots (l:List Nat):List Nat:=joinL 46 (spl 43 l)
noncomputable def splitPlus (r:List Nat):List Nat×List Nat:=if 43∈r then (cutB 43 r,cutA 43 r) else (r,[])
noncomputable def cutRest:List Nat→List Nat×List Nat
  | []=>([],[])
  | c::r=>if c=43 then ([],r) else if c=46 then ([],r) else if c=45 then splitPlus r else splitPlus (c::r)
noncomputable def tailOf (s:List Nat):List Nat:=opt' 45 (cutRest s).1++opt' 43 (dots (cutRest s).2)
noncomputable def padTo (ws:List (List Nat)):List (List Nat):=ws++List.replicate (3 - ws.length) [48]
theorem join_snoc {c:Nat} {b:List Nat}:∀ {ws:List (List Nat)},ws≠[]→joinL c (ws++[b])=joinL c ws++c::b
  | [],h=>absurd rfl h
  | [x],_=>rfl
  | x::y::r,_=>by
    show x++c::joinL c (y::r++[b])=_
    rw [join_snoc (ws:=y::r) nofun]
    show _=x++c::joinL c (y::r)++c::b
    simp
theorem join_app {c:Nat} {vs:List (List Nat)} (hv:vs≠[]):∀ {ws:List (List Nat)},ws≠[]→joinL c (ws++vs)=joinL c ws++c::joinL c vs
  | [],h=>absurd rfl h
  | [x],_=>by cases vs<;>first | exact absurd rfl hv | rfl
  | x::y::r,_=>by
    show x++c::joinL c (y::r++vs)=_
    rw [join_app hv (ws:=y::r) nofun]
    show _=x++c::joinL c (y::r)++c::joinL c vs
    simp
theorem dw_len {p:Nat→Bool} (l:List Nat):(l.dropWhile p).length≤l.length:=(List.dropWhile_suffix p).length_le
theorem strip0_len {w:List Nat} (h:w≠[]):(strip0 w).length≤w.length:=by
  have:0 < w.length:=List.length_pos_iff.mpr h
  unfold strip0
  split
  · exact this
  · exact dw_len w
theorem pad_len {ws:List (List Nat)} (h:ws≠[]):∀ j,(joinL 46 (ws++List.replicate j [48])).length=(joinL 46 ws).length+2*j
  | 0=>by rw [List.replicate_zero,List.append_nil];rfl
  | j+1=>by
    rw [List.replicate_succ',← List.append_assoc,join_snoc (by simp [h]),List.length_append,pad_len h j]
    show _+2=_
    lia
theorem sum_strip:∀ {ws:List (List Nat)},(∀ w∈ws,w≠[])→((ws.map strip0).map List.length).sum≤(ws.map List.length).sum
  | [],_=>Nat.le_refl _
  | w::r,h=>by
    have h1:=strip0_len (h w (.head _))
    have h2:=sum_strip fun u hu=>h u (.tail _ hu)
    rw [List.map_cons,List.map_cons,List.map_cons,List.sum_cons,List.sum_cons]
    lia
theorem pad_ok {ws:List (List Nat)} (h:∀ w∈ws,w≠[]∧46∉w):∀ w∈padTo ws,w≠[]∧46∉w:=fun w hw=>by
  rcases List.mem_append.mp hw with q | q
  · exact h w q
  · rw [List.eq_of_mem_replicate q];decide
theorem strip_sum {ws:List (List Nat)} (hne:ws≠[]) (h:∀ w∈ws,w≠[]∧46∉w):((ws.map strip0).map List.length).sum+ws.length≤(joinL 46 ws).length+1:=by
  have h1:=spl_sum (c:=46) (joinL 46 ws)
  rw [spl_join hne fun w hw=>(h w hw).2] at h1
  have h2:=sum_strip fun w hw=>(h w hw).1
  lia
theorem sub2_len {l:List Nat}:(sub2 l).length=l.length:=List.length_map ..
theorem cut_len {s:List Nat}:(cutRest s).1.length≤s.length∧(cutRest s).2.length≤s.length:=by
  have hp:∀ r:List Nat,(splitPlus r).1.length≤r.length∧(splitPlus r).2.length≤r.length:=fun r=>by
    unfold splitPlus
    split
    · rename_i h
      have:=congrArg List.length (cut_eq h)
      rw [List.length_append,List.length_cons] at this
      exact ⟨by lia,by lia⟩
    · exact ⟨Nat.le_refl _,Nat.zero_le _⟩
  cases s with
  | nil=>exact ⟨Nat.le_refl _,Nat.le_refl _⟩
  | cons c r=>
    have h1:=hp r
    have h2:=hp (c::r)
    have e:cutRest (c::r)=if c=43 then ([],r) else if c=46 then ([],r) else if c=45 then splitPlus r else splitPlus (c::r):=rfl
    rw [e]
    rw [List.length_cons] at *
    (repeat' split)<;>constructor<;>(try simp)<;>lia
theorem dots_len {l:List Nat}:(dots l).length≤l.length+1:=by
  have h1:=joinL_len (c:=46) (spl 43 l)
  have h2:=spl_sum (c:=43) l
  unfold dots
  lia
end
section
variable {P:Params} {n:Nat} {st:Bool}
theorem tg_m1 {fm:Fm}:tgtOf (KF P) fm (.glob (.ref 43)) (Str.ofString "match")=some (.pat .p1):=by kernel_rfl
theorem tg_s2 {fm:Fm}:tgtOf (KF P) fm (.glob (.ref 48)) (Str.ofString "sub")=some (.pat .p2):=by kernel_rfl
theorem tg_end {fm:Fm} {gs e}:tgtOf (KF P) fm (.mat gs e) (Str.ofString "end")=some (.mat gs e false):=by kernel_rfl
section
variable {C:CallSem} {l:List Nat}
theorem r_m1 {o} (h:m1 l=o):runT C st (Str.ofString "match") (.pat .p1) [.str (mk l)] []=some (.ok (mat1 o)):=by rw [← h];rfl
theorem r_sub (h:l.length≤100000):runT C st (Str.ofString "sub") (.pat .p2) [.str (Str.ofString "-"),.str (mk l)] []=some (.ok (.str (mk (sub2 l)))):=
  grb (b:=Str.ofString "-"==Str.ofString "-"&&decide ((mk l).length≤100000)) (by rw [beq_self_eq_true,show decide ((mk l).length≤100000)=true from decide_eq_true h];rfl) rfl
theorem r_end {gs e}:runT C st (Str.ofString "end") (.mat gs e false) [] []=some (.ok (.int (e:Nat))):=rfl
theorem r_cnt:runT C st (Str.ofString "count") (.str (mk l) .count) [.str (Str.ofString ".")] []=some (.ok (.int (((spl 46 l).length - 1:Nat):Int))):=by
  rw [← count_eq (by decide),← dotC];rfl
theorem r_lst (h:l.length≤1000):runT C st (Str.ofString "lstrip") (.str (mk l) .lstrip) [.str (Str.ofString "0")] []=some (.ok (.str (mk (l.dropWhile (·==48))))):=by
  show strR (PySem.Txt.lstripChars (mk l) (Str.ofString "0"))=_
  rw [show Str.ofString "0"=ch 48 by decide +kernel,lstrip_eq]
  exact strR_ok (Nat.le_trans (dw_len l) (Nat.le_trans h (by decide)))
theorem r_spl1 (h:43∈l) (hl:l.length≤1000):runT C st (Str.ofString "split") (.str (mk l) .split) [.str (Str.ofString "+"),.int 1] []=some (.ok (.list [.str (mk (cutB 43 l)),.str (mk (cutA 43 l))])):=by
  show splitME (mk l) (.str (Str.ofString "+"),.int 1)=_
  refine akb (a:=Str.ofString "+") rfl (akb (a:=1) rfl (grb ?_ ?_))
  · show ((1:Int)==1&&!(false||decide (lenLine≤l.length+2)))=true
    rw [decide_eq_false (by unfold lenLine;lia)];rfl
  · rw [show Str.ofString "+"=ch 43 by decide +kernel,splitMax_eq (by decide) h];rfl
theorem e_rep {fm:Fm} {v:PV} (hl:l.length≤1000):strR (PySem.Txt.replace (mk l) (Str.ofString "+") (Str.ofString "."))=some (.ok (.str (mk (dots l)))):=by
  rw [show Str.ofString "+"=ch 43 by decide +kernel,dotC,replace_eq (by decide)]
  refine strR_ok ?_
  show (joinL 46 (spl 43 l)).length≤_
  have h1:=joinL_len (c:=46) (spl 43 l)
  have h2:=spl_sum (c:=43) l
  unfold lenLine;lia
theorem strsM_map {e:PV→R PV} {g:List Nat→List Nat}:∀ {ws:List (List Nat)},(∀ w∈ws,e (.str (mk w))=some (.ok (.str (mk (g w)))))→strsM e (ws.map fun w=>PV.str (mk w))=some ((ws.map g).map mk)
  | [],_=>rfl
  | w::r,h=>akb (a:=mk (g w)) (by rw [h w (.head _)];rfl) (akb (strsM_map fun u hu=>h u (.tail _ hu)) rfl)
end
theorem ev_jgF {K:Frag} {C:CallSem} {fm:Fm} {sc cd l c m x s ks ps ap elt xp it scope gp p} {ws:List (List Nat)} {g:List Nat→List Nat} {y:Str} (F:Fr sc cd l c m fm) (hg:((ap.endLine==p.line)&&(genScope scope x&&plainIter it&&codeHere { scope:=sc,loc:=[],cel:=[],mu:=none,code:=cd }&&modIn K))=true) (hi:iterE K C n false fm it=some (.ok (ws.map fun w=>PV.str (mk w))))
    (hy:∀ w∈ws,∀ fm',Fr scope .none [(x,.str (mk w))] [] none fm'→EV K C n true fm' elt (.str (mk (g w))))
    (hs:((ws.map g).map List.length).sum+ws.length≤100000) (h16:decide (s.length≤16)=true) (hj:PySem.Txt.join s ((ws.map g).map mk)=y) (hl:y.length≤lenLine):
    EV K C (n+1) false fm (.Call (.Attribute (.Constant (.str s) ks ps) (Str.ofString "join") ap) [.GeneratorExp elt [⟨.Name x xp,it,[],0⟩] scope gp] [] p) (.str y):=by
  have e:codeHere fm=codeHere { scope:=sc,loc:=[],cel:=[],mu:=none,code:=cd }:=by unfold codeHere;rw [F.code]
  refine ev_jg (by rw [e];exact hg) hi (strsM_map fun w hw=>hy w hw _ F0) ?_ (by rw [hj];exact strR_ok hl)
  rw [sum_mk,h16,List.length_map,decide_eq_true hs];rfl
noncomputable abbrev scC:PySem.Scope:=fScope (mth 14 6)
theorem m1_bad {l:List Nat} (hx:gd (mk l)=true) (h1:m1 l=none):callAt (KF P) (n+1) false 317 [.glob (.ref 448),.str (mk l)] []=some .exc:=by
  refine fn_exc' (C:=callAt (KF P) n) (N:=200) (sc:=scC) (cd:=vr 316) (l:=[(so "cls",.glob (.ref 448)),(so "version_string",.str (mk l)),(so "partial",.bool false)]) (ss:=fBody (mth 14 6)) (by kernel_rfl) fun fm F=>?_
  conv=>arg 6;whnf
  refine xs_asg F (by kernel_rfl) (by walk_at "e") fun fm F=>?_
  have ht:=tg_m1 (P:=P) (fm:=fm)
  have hr:runT (callAt (KF P) n) false (Str.ofString "match") (.pat .p1) [.str (mk l)] []=some (.ok .none):=r_m1 h1
  refine xs_asg F (by kernel_rfl) (by walk_at "e") fun fm F=>?_
  refine xs_if_t (te_not (b:=false) (te_val (v:=.none) (by kernel_rfl) (by walk_at "e") rfl)) ?_
  exact xs_raise (v:=.any) (by walk_at "n") (by kernel_rfl) (by walk_at "e") rfl ⟨_,rfl⟩
theorem ch_is {x:Str} {c d:Nat} (h:x=ch d):(ch c==x)=decide (c=d):=by
  rw [h,Bool.eq_iff_iff,beq_iff_eq,decide_eq_true_iff]
  exact ⟨fun h=>by injection h with h;injection h with h;injection h,fun h=>h▸rfl⟩
theorem grb3 {a b c:Bool} (h:b=true) (ha:a=true) (hc:c=true):(a&&b&&c)=true:=by rw [ha,h,hc];rfl
noncomputable def ifB:Stmt→List Stmt
  | .If _ b _ _=>b
  | _=>[]
noncomputable abbrev whS:Stmt:=nthS (ifB (nthS (fBody (mth 14 6)) 4)) 0
theorem while_ok {e:Nat} {t:PV}:∀ (j k:Nat) (ws:List (List Nat)) (fm:Fm) (c:List Unit),ws.length+j=3→j+8≤k→ws≠[]→(∀ w∈ws,46∉w)→(joinL 46 ws).length+2*j≤500 →
    Fr scC (vr 316) [(so "version",.str (mk (joinL 46 ws))),(so "match",.mat [] e),(so "version_string",t),(so "cls",.glob (.ref 448)),(so "partial",.bool false)] c none fm →
    XE (KF P) (callAt (KF P) n) k false fm whS fun sr=>∃ f,sr=.nx f∧Fr scC (vr 316) [(so "version",.str (mk (joinL 46 (ws++List.replicate j [48])))),(so "match",.mat [] e),(so "version_string",t),(so "cls",.glob (.ref 448)),(so "partial",.bool false)] [()] none f:=by
  intro j
  induction j with
  | zero=>
    intro k ws fm c h3 hk hne hw hl F
    obtain ⟨m,rfl⟩:=Nat.exists_eq_add_of_le' hk
    have hr:=r_cnt (C:=callAt (KF P) n) (st:=false) (l:=joinL 46 ws)
    rw [spl_join hne hw,show ws.length=3 from h3] at hr
    conv=>arg 5;whnf
    refine xe_wh (u:=.bool false) (t:=false) (by kernel_rfl) (by walk_at "e") rfl rfl nofun fun Z=>⟨_,rfl,?_⟩
    rw [List.replicate_zero,List.append_nil]
    exact F.told
  | succ j ih=>
    intro k ws fm c h3 hk hne hw hl F
    obtain ⟨m,rfl⟩:=Nat.exists_eq_add_of_le' hk
    have hr:=r_cnt (C:=callAt (KF P) n) (st:=false) (l:=joinL 46 ws)
    rw [spl_join hne hw] at hr
    have hlt:cmpE (KF P) (callAt (KF P) n) false .Lt (.int ((ws.length - 1:Nat):Int)) (.int 2)=some (.ok (.bool true)):=by
      rw [p_lt,decide_eq_true (by lia)]
    have e1:joinL 46 ws++[46,48]=joinL 46 (ws++[[48]]):=(join_snoc hne).symm
    have h:=fun fm F=>ih (m+j+8) (ws++[[48]]) fm c (by rw [List.length_append,List.length_singleton];lia) (by lia) (by simp) (fun w hw'=>by
      rcases List.mem_append.mp hw' with q | q
      · exact hw w q
      · rw [List.mem_singleton.mp q];decide) (by rw [← e1,List.length_append];show (joinL 46 ws).length+2+2*j≤500;lia) F
    rw [List.append_assoc,show [[48]]++List.replicate j [48]=List.replicate (j+1) ([48]:List Nat) from rfl] at h
    conv=>arg 5;whnf
    refine xe_wh (n:=m+j+7) (u:=.bool true) (t:=true) (by kernel_rfl) (by walk_at "e") hlt rfl (fun Z=>?_) nofun
    refine xs_aug (a:=mk (joinL 46 ws)) (b:=Str.ofString ".0") F (by kernel_rfl) (by walk_at "n") (by walk_at "e") (decide_eq_true ?_) fun fm F=>xs_nil ?_
    · show (joinL 46 ws).length+_≤_
      have:(Str.ofString ".0").length=2:=by decide +kernel
      rw [this];unfold lenLine;lia
    · have e2:mk (joinL 46 ws)++Str.ofString ".0"=mk (joinL 46 (ws++[[48]])):=by
        rw [← e1,show Str.ofString ".0"=mk [46,48] by decide +kernel,mk_app]
      rw [e2] at F
      exact h fm (by walk_at "m")
theorem coerce_ok {ws:List (List Nat)} {s:List Nat} {v:PV} (hx:gd (mk (joinL 46 ws++s))=true) (hl:(joinL 46 ws++s).length≤300) (h1:m1 (joinL 46 ws++s)=some (joinL 46 ws).length) (hne:ws≠[]) (h3:ws.length≤3) (hw:∀ w∈ws,w≠[]∧46∉w) (hv:solid v=true)
    (h:callAt (KF P) n false 448 [.str (mk (joinL 46 ((padTo ws).map strip0)++tailOf (sub2 s)))] [(Str.ofString "partial",.bool false)]=some (.ok v)):callAt (KF P) (n+1) false 317 [.glob (.ref 448),.str (mk (joinL 46 ws++s))] []=some (.ok v):=by
  refine fn_ret' (C:=callAt (KF P) n) (N:=200) (sc:=scC) (cd:=vr 316) (l:=[(so "cls",.glob (.ref 448)),(so "version_string",.str (mk (joinL 46 ws++s))),(so "partial",.bool false)]) (ss:=fBody (mth 14 6)) (by kernel_rfl) hv fun fm F=>?_
  conv=>arg 6;whnf
  have hD:(joinL 46 ws).length≤(joinL 46 ws++s).length:=by rw [List.length_append];exact Nat.le_add_right _ _
  refine xs_asg F (by kernel_rfl) (by walk_at "e") fun fm F=>?_
  have ht:=tg_m1 (P:=P) (fm:=fm)
  have hr:runT (callAt (KF P) n) false (Str.ofString "match") (.pat .p1) [.str (mk (joinL 46 ws++s))] []=some (.ok (.mat [] (joinL 46 ws).length)):=r_m1 h1
  refine xs_asg F (by kernel_rfl) (by walk_at "e") fun fm F=>?_
  clear ht hr
  refine xs_if_f (te_not (b:=true) (te_val (v:=.mat [] (joinL 46 ws).length) (by kernel_rfl) (by walk_at "e") rfl)) ?_
  have te:=tg_end (P:=P) (fm:=fm) (gs:=[]) (e:=(joinL 46 ws).length)
  have re:=r_end (st:=false) (C:=callAt (KF P) n) (gs:=[]) (e:=(joinL 46 ws).length)
  have hs:sliceE fm (.str (mk (joinL 46 ws++s))) none (some (.int ((joinL 46 ws).length:Nat)))=some (.ok (.str (mk (joinL 46 ws)))):=by
    rw [p_to hD,List.take_left]
  refine xs_asg (v:=.str (mk (joinL 46 ws))) F (by kernel_rfl) (by walk_at "e") fun fm F=>?_
  clear te re hs
  refine xs_ifM (tb:=true) (fun fm=>Fr scC (vr 316) [(so "version",.str (mk (joinL 46 (padTo ws)))),(so "match",.mat [] (joinL 46 ws).length),(so "version_string",.str (mk (joinL 46 ws++s))),(so "cls",.glob (.ref 448)),(so "partial",.bool false)] [()] none fm) (te_not (b:=false) (te_val (v:=.bool false) (by kernel_rfl) (by walk_at "e") rfl)) ?_ ?_
  · refine xs_cons (XE.mono (while_ok (3 - ws.length) _ ws fm [] (by lia) (by lia) hne (fun w hw'=>(hw w hw').2) (by lia) (by walk_at "m")) ?_)
    rintro sr ⟨f,rfl,F⟩
    exact xs_nil F
  clear F
  intro fm F
  have hpn:padTo ws≠[]:=by unfold padTo;simp [hne]
  have hpo:=pad_ok hw
  have hpl:(joinL 46 (padTo ws)).length≤400:=by
    have:=pad_len hne (3 - ws.length)
    unfold padTo
    lia
  have hst:=strip_sum hpn hpo
  have hjl:=joinL_len (c:=46) ((padTo ws).map strip0)
  rw [List.length_map] at hjl
  have hsp:=r_split (C:=callAt (KF P) n) (st:=false) (l:=joinL 46 (padTo ws)) (decide_eq_true (by lia))
  rw [spl_join hpn fun w hw=>(hpo w hw).2] at hsp
  refine xs_asg (v:=.str (mk (joinL 46 ((padTo ws).map strip0)))) F (by kernel_rfl) (ev_jgF (ws:=padTo ws) (g:=strip0) F (by kernel_rfl) (it_val (v:=wl (padTo ws)) (by kernel_rfl) (by walk_at "e") rfl (simple_wt _)) (fun w hw' fm' F'=>?_) (by lia) (by kernel_rfl) (by rw [dotC,join_eq]) (by show (joinL 46 _).length≤_;unfold lenLine;lia)) fun fm F=>?_
  · have hwl:w.length≤1000:=Nat.le_trans (joinL_part (c:=46) hw') (by lia)
    have hls:=r_lst (C:=callAt (KF P) n) (st:=true) hwl
    unfold strip0
    induction hd:w.dropWhile (·==48) with
    | nil=>
      rw [hd] at hls
      exact ev_bool (be_or_f (v:=.str (mk [])) (by walk_at "e") rfl (be_one (by rw [show mk (if ([]:List Nat).isEmpty=true then [48] else [])=Str.ofString "0" by decide +kernel];walk_at "e")))
    | cons c r=>
      rw [hd] at hls
      exact ev_bool (be_or_t (v:=.str (mk (c::r))) (by walk_at "e") rfl)
  have hV:(joinL 46 ((padTo ws).map strip0)).length≤500:=by lia
  clear hsp hst hpl hjl hpo hpn hw h3 hne h1 hx
  generalize joinL 46 ((padTo ws).map strip0)=V at *
  change Fr _ _ [_,_,(so "match",.mat [] (joinL 46 ws).length),(so "version_string",.str (mk (joinL 46 ws++s))),_,_] _ _ _ at F
  generalize joinL 46 ws=D at *
  have te:=tg_end (P:=P) (fm:=fm) (gs:=[]) (e:=D.length)
  have re:=r_end (st:=false) (C:=callAt (KF P) n) (gs:=[]) (e:=D.length)
  by_cases hs:s=[]
  · subst hs
    have h0:tailOf (sub2 [])=[]:=by decide +kernel
    rw [h0,List.append_nil] at h
    refine xs_if_t (te_cmp (a:=.int (D.length:Nat)) (b:=.int ((mk (D++[])).length:Nat)) (v:=.bool true) (by kernel_rfl) (by walk_at "e") (by walk_at "e") (by rw [p_eq_int,List.append_nil];show some (Res.ok (PV.bool ((D.length:Int)==(D.length:Int))))=_;rw [beq_self_eq_true]) rfl) ?_
    exact xs_ret (v:=v) (by walk_at "e") ⟨_,rfl⟩
  have hsl:0 < s.length:=List.length_pos_iff.mpr hs
  have hne:(((D.length:Nat):Int)==(((mk (D++s)).length:Nat):Int))=false:=by
    show (((D.length:Nat):Int)==(((D++s).length:Nat):Int))=false
    rw [List.length_append,beq_eq_false_iff_ne]
    lia
  refine xs_if_f (te_cmp (a:=.int (D.length:Nat)) (b:=.int ((mk (D++s)).length:Nat)) (v:=.bool false) (by kernel_rfl) (by walk_at "e") (by walk_at "e") (by rw [p_eq_int,hne]) rfl) ?_
  have hf:sliceE fm (.str (mk (D++s))) (some (.int (D.length:Nat))) none=some (.ok (.str (mk s))):=by
    rw [p_from hD,List.drop_left]
  refine xs_asg (v:=.str (mk s)) F (by kernel_rfl) (by walk_at "e") fun fm F=>?_
  clear te re hf hne
  have ht:=tg_s2 (P:=P) (fm:=fm)
  have hlen:s.length≤300:=by rw [List.length_append] at hl;lia
  have hr:=r_sub (st:=false) (C:=callAt (KF P) n) (l:=s) (by lia)
  refine xs_asg (v:=.str (mk (sub2 s))) F (by kernel_rfl) (by walk_at "e") fun fm F=>?_
  clear ht hr
  rw [← sub2_len (l:=s)] at hlen hsl
  generalize sub2 s=t at *
  change Fr _ _ [(so "rest",.str (mk t)),_,(so "version",.str (mk V)),_,_,_,(so "cls",.glob (.ref 448)),(so "partial",.bool false)] _ _ _ at F
  obtain ⟨c,r,rfl⟩:∃ c r,t=c::r:=by
    cases t with
    | nil=>exact absurd hsl (Nat.lt_irrefl 0)
    | cons c r=>exact ⟨c,r,rfl⟩
  refine xs_ifM (tb:=decide (c=43)) (fun fm=>Fr scC (vr 316) [(so "prerelease",.str (mk (cutRest (c::r)).1)),(so "build",.str (mk (cutRest (c::r)).2)),(so "version",.str (mk V)),(so "cls",.glob (.ref 448)),(so "partial",.bool false)] [()] none fm)
    (te_cmp (a:=.str (ch c)) (b:=.str (Str.ofString "+")) (by kernel_rfl) (by walk_at "e") (by walk_at "e") p_eq_str (by rw [ch_is (show Str.ofString "+"=ch 43 by decide +kernel)];rfl)) ?_ ?_
  · have h1:∀ fm:Fm,sliceE fm (.str (mk (c::r))) (some (.int 1)) none=some (.ok (.str (mk r))):=fun fm=>p_from (i:=1) (l:=c::r) (Nat.succ_pos _)
    by_cases hc:c=43
    · rw [decide_eq_true hc]
      have e:cutRest (c::r)=([],r):=if_pos hc
      rw [e]
      refine xs_asg (v:=.str (mk [])) F (by kernel_rfl) (by rw [show mk []=Str.ofString "" by decide +kernel];walk_at "e") fun fm F=>?_
      have h1:=h1 fm
      refine xs_asg (v:=.str (mk r)) F (by kernel_rfl) (by walk_at "e") fun fm F=>?_
      exact xs_nil (by walk_at "m")
    rw [decide_eq_false hc]
    refine xs_if (tb:=decide (c=46)) (te_cmp (a:=.str (ch c)) (b:=.str (Str.ofString ".")) (by kernel_rfl) (by walk_at "e") (by walk_at "e") p_eq_str (by rw [ch_is (show Str.ofString "."=ch 46 by decide +kernel)];rfl)) ?_
    by_cases hc2:c=46
    · rw [decide_eq_true hc2]
      have e:cutRest (c::r)=([],r):=(if_neg hc).trans (if_pos hc2)
      rw [e]
      refine xs_asg (v:=.str (mk [])) F (by kernel_rfl) (by rw [show mk []=Str.ofString "" by decide +kernel];walk_at "e") fun fm F=>?_
      have h1:=h1 fm
      refine xs_asg (v:=.str (mk r)) F (by kernel_rfl) (by walk_at "e") fun fm F=>?_
      exact xs_nil (xs_nil (by walk_at "m"))
    rw [decide_eq_false hc2]
    refine xs_if (tb:=decide (c=45)) (te_cmp (a:=.str (ch c)) (b:=.str (Str.ofString "-")) (by kernel_rfl) (by walk_at "e") (by walk_at "e") p_eq_str (by rw [ch_is (show Str.ofString "-"=ch 45 by decide +kernel)];rfl)) ?_
    by_cases hc3:c=45
    · rw [decide_eq_true hc3]
      have e:cutRest (c::r)=splitPlus r:=(if_neg hc).trans ((if_neg hc2).trans (if_pos hc3))
      have h1:=h1 fm
      refine xs_asg (v:=.str (mk r)) F (by kernel_rfl) (by walk_at "e") fun fm F=>?_
      change Fr _ _ [(so "rest",.str (mk r)),_,_,(so "version",.str (mk V)),_,_,_,(so "cls",.glob (.ref 448)),(so "partial",.bool false)] _ _ _ at F
      rw [e]
      have hu:r.length≤1000:=by rw [List.length_cons] at hlen;lia
      clear e h1 hlen hsl h hl hD hc hc2 hc3
      generalize r=u at *
      replace F:Fr scC (vr 316) [(so "rest",.str (mk u)),(so "version",.str (mk V)),(so "cls",.glob (.ref 448)),(so "partial",.bool false)] [()] none fm:=by walk_at "m"
      refine xs_if (tb:=decide (43∈u)) (te_cmp (a:=.str (Str.ofString "+")) (b:=.str (mk u)) (by kernel_rfl) (by walk_at "e") (by walk_at "e") p_in_plus rfl) ?_
      by_cases h43:43∈u
      · rw [decide_eq_true h43,show splitPlus u=(cutB 43 u,cutA 43 u) from if_pos h43]
        have hs:=r_spl1 (C:=callAt (KF P) n) (st:=false) h43 hu
        refine xs_tup (vs:=[.str (mk (cutB 43 u)),.str (mk (cutA 43 u))]) (ns:=[so "prerelease",so "build"]) F (by kernel_rfl) ⟨by kernel_rfl,by kernel_rfl⟩ (by kernel_rfl) (.inr rfl) (by walk_at "e") fun fm F=>?_
        change Fr _ _ [(so "build",.str (mk (cutA 43 u))),(so "prerelease",.str (mk (cutB 43 u))),_,_,_,_] _ _ _ at F
        refine xs_nil ?_
        repeat refine xs_nil ?_
        walk_at "m"
      · rw [decide_eq_false h43,show splitPlus u=(u,[]) from if_neg h43]
        refine xs_swp (vs:=[.str (mk u),.str (Str.ofString "")]) (ns:=[so "prerelease",so "build"]) F (by kernel_rfl) (by kernel_rfl) (by kernel_rfl) (by walk_at "e") fun fm F=>?_
        rw [show Str.ofString ""=mk [] by decide +kernel] at F
        change Fr _ _ [(so "prerelease",.str (mk u)),(so "build",.str (mk [])),_,_,_,_] _ _ _ at F
        refine xs_nil ?_
        repeat refine xs_nil ?_
        walk_at "m"
    · rw [decide_eq_false hc3]
      have e:cutRest (c::r)=splitPlus (c::r):=(if_neg hc).trans ((if_neg hc2).trans (if_neg hc3))
      rw [e]
      have hu:(c::r).length≤1000:=by lia
      clear e h1 hlen hsl h hl hD hc hc2 hc3
      generalize c::r=u at *
      replace F:Fr scC (vr 316) [(so "rest",.str (mk u)),(so "version",.str (mk V)),(so "cls",.glob (.ref 448)),(so "partial",.bool false)] [()] none fm:=by walk_at "m"
      refine xs_if (tb:=decide (43∈u)) (te_cmp (a:=.str (Str.ofString "+")) (b:=.str (mk u)) (by kernel_rfl) (by walk_at "e") (by walk_at "e") p_in_plus rfl) ?_
      by_cases h43:43∈u
      · rw [decide_eq_true h43,show splitPlus u=(cutB 43 u,cutA 43 u) from if_pos h43]
        have hs:=r_spl1 (C:=callAt (KF P) n) (st:=false) h43 hu
        refine xs_tup (vs:=[.str (mk (cutB 43 u)),.str (mk (cutA 43 u))]) (ns:=[so "prerelease",so "build"]) F (by kernel_rfl) ⟨by kernel_rfl,by kernel_rfl⟩ (by kernel_rfl) (.inr rfl) (by walk_at "e") fun fm F=>?_
        change Fr _ _ [(so "build",.str (mk (cutA 43 u))),(so "prerelease",.str (mk (cutB 43 u))),_,_,_,_] _ _ _ at F
        refine xs_nil ?_
        repeat refine xs_nil ?_
        walk_at "m"
      · rw [decide_eq_false h43,show splitPlus u=(u,[]) from if_neg h43]
        refine xs_swp (vs:=[.str (mk u),.str (Str.ofString "")]) (ns:=[so "prerelease",so "build"]) F (by kernel_rfl) (by kernel_rfl) (by kernel_rfl) (by walk_at "e") fun fm F=>?_
        rw [show Str.ofString ""=mk [] by decide +kernel] at F
        change Fr _ _ [(so "prerelease",.str (mk u)),(so "build",.str (mk [])),_,_,_,_] _ _ _ at F
        refine xs_nil ?_
        repeat refine xs_nil ?_
        walk_at "m"
  clear F
  intro fm F
  have hcl:=cut_len (s:=c::r)
  have ht:tailOf (c::r)=opt' 45 (cutRest (c::r)).1++opt' 43 (dots (cutRest (c::r)).2):=rfl
  rw [ht] at h
  clear ht
  generalize (cutRest (c::r)).1=p at *
  generalize (cutRest (c::r)).2=b at *
  have hdl:=dots_len (l:=b)
  have hrp:=e_rep (fm:=fm) (v:=v) (l:=b) (by lia)
  refine xs_asg (v:=.str (mk (dots b))) F (by kernel_rfl) (ev_rep (x:=mk b) F.tok (by kernel_rfl) (by walk_at "e") (grb3 (decide_eq_true (show b.length≤100000 by lia)) (by kernel_rfl) (by kernel_rfl)) hrp) fun fm F=>?_
  clear hrp
  have hp:p.length≤1000:=by lia
  have hb:(dots b).length≤1000:=by lia
  generalize dots b=d at *
  clear hcl hdl hlen hsl hl hD
  refine xs_ifM (tb:=!p.isEmpty) (fun fm=>Fr scC (vr 316) [(so "version",.str (mk (V++opt' 45 p))),(so "build",.str (mk d)),(so "cls",.glob (.ref 448)),(so "partial",.bool false)] [()] none fm) (te_val (v:=.str (mk p)) (by kernel_rfl) (by walk_at "e") (by cases p<;>rfl)) ?_ ?_
  · cases p with
    | nil=>
      rw [show opt' 45 []=[] from rfl,List.append_nil]
      exact xs_nil (by walk_at "m")
    | cons x p=>
      rw [show opt' 45 (x::p)=45::x::p from rfl]
      have hx:decide ((mk V).length≤100000)=true:=decide_eq_true (Nat.le_trans hV (by decide))
      have hy:decide ((mk (x::p)).length≤100000)=true:=decide_eq_true (Nat.le_trans hp (by decide))
      have hj:=joinR_two (x:=V) (y:=x::p) dashS (by lia)
      refine xs_asg (v:=.str (mk (V++45::x::p))) F (by kernel_rfl) (by walk_at "e") fun fm F=>?_
      exact xs_nil (by walk_at "m")
  clear F
  intro fm F
  have hop:(opt' 45 p).length≤1001:=by unfold opt';split<;>simp;lia
  have hV2:(V++opt' 45 p).length≤1501:=by rw [List.length_append];lia
  rw [← List.append_assoc] at h
  generalize V++opt' 45 p=W at *
  refine xs_ifM (tb:=!d.isEmpty) (fun fm=>Fr scC (vr 316) [(so "version",.str (mk (W++opt' 43 d))),(so "cls",.glob (.ref 448)),(so "partial",.bool false)] [()] none fm) (te_val (v:=.str (mk d)) (by kernel_rfl) (by walk_at "e") (by cases d<;>rfl)) ?_ ?_
  · cases d with
    | nil=>
      rw [show opt' 43 []=[] from rfl,List.append_nil]
      exact xs_nil (by walk_at "m")
    | cons x d=>
      rw [show opt' 43 (x::d)=43::x::d from rfl]
      have hx:decide ((mk W).length≤100000)=true:=decide_eq_true (Nat.le_trans hV2 (by decide))
      have hy:decide ((mk (x::d)).length≤100000)=true:=decide_eq_true (Nat.le_trans hb (by decide))
      have hj:=joinR_two (x:=W) (y:=x::d) plusS (by lia)
      refine xs_asg (v:=.str (mk (W++43::x::d))) F (by kernel_rfl) (by walk_at "e") fun fm F=>?_
      exact xs_nil (by walk_at "m")
  clear F
  intro fm F
  exact xs_ret (v:=v) (by walk_at "e") ⟨_,rfl⟩
end
section
theorem digits_app {l:List Nat} {d:Nat} (hd:48≤d):digitsVal (l++[d])=digitsVal l*10+((d:Int) - 48):=by
  show (((l++[d]).foldl (fun n c=>n*10+(c - 48)) 0:Nat):Int)=((l.foldl (fun n c=>n*10+(c - 48)) 0:Nat):Int)*10+_
  rw [List.foldl_append]
  show ((l.foldl (fun n c=>n*10+(c - 48)) 0*10+(d - 48):Nat):Int)=_
  lia
theorem dec_step {n:Nat} (h:10≤n):decL n=decL (n / 10)++[n % 10+48]:=by
  have:=decL_app (n:=n / 10) (d:=n % 10) (by lia) (by lia)
  rwa [show n / 10*10+n % 10=n by lia] at this
theorem dec_val2:∀ n:Nat,digitsVal (decL n)=n:=fun n=>by
  induction n using Nat.strongRecOn with
  | _ n ih=>
    by_cases h:n < 10
    · rw [show decL n=[n+48] from decL_small ⟨n,h⟩]
      show ((0*10+(n+48 - 48):Nat):Int)=_
      lia
    · rw [dec_step (by lia),digits_app (by lia),ih (n / 10) (by lia)]
      lia
theorem dec_head:∀ n:Nat,0 < n→∃ c r,decL n=c::r∧c≠48:=fun n=>by
  induction n using Nat.strongRecOn with
  | _ n ih=>
    intro h0
    by_cases h:n < 10
    · exact ⟨n+48,[],decL_small ⟨n,h⟩,by lia⟩
    · obtain ⟨c,r,e,hc⟩:=ih (n / 10) (by lia) (by lia)
      exact ⟨c,r++[n % 10+48],by rw [dec_step (by lia),e];rfl,hc⟩
theorem dec_dig (n:Nat):∀ c∈decL n,48≤c∧c≤57:=by
  obtain ⟨l,e,h,Z⟩:=dec_asc (i:=n) (Int.natCast_nonneg n) (k:=n+1) (Nat.succ_pos n) (by
    have:=Nat.lt_pow_self (a:=10) (n:=n+1) (by decide)
    exact_mod_cast Nat.lt_of_succ_lt this)
  rw [ofString_nat] at e
  have e:decL n=l:=congrArg (fun x:PySem.Str=>x.cps.toList) e
  rw [e];exact h
theorem strip_dec {z n:Nat}:strip0 (List.replicate z 48++decL n)=decL n:=by
  have h:(List.replicate z 48++decL n).dropWhile (·==48)=(decL n).dropWhile (·==48):=by
    induction z with
    | zero=>rfl
    | succ z ih=>exact ih
  unfold strip0
  rw [h]
  by_cases h0:n=0
  · subst h0;decide +kernel
  · obtain ⟨c,r,e,hc⟩:=dec_head n (by lia)
    rw [e,List.dropWhile_cons,show (c==48)=false from beq_eq_false_iff_ne.mpr hc]
    rfl
theorem dec_lz (n:Nat):lzS (decL n)=false:=by
  by_cases h0:n=0
  · subst h0;decide +kernel
  · obtain ⟨c,r,e,hc⟩:=dec_head n (by lia)
    rw [e,lzS_cons,show (c==48)=false from beq_eq_false_iff_ne.mpr hc]
    rfl
theorem dec_ne (n:Nat):decL n≠[]:=by
  by_cases h0:n=0
  · subst h0;decide +kernel
  · obtain ⟨c,r,e,hc⟩:=dec_head n (by lia)
    rw [e];nofun
theorem dec_len {n k:Nat} (hk:0 < k) (h:n < 10 ^ k):(decL n).length≤k:=by
  unfold decL
  rw [List.length_map,Nat.length_toDigits_le_iff (by decide) hk]
  exact h
theorem dec_isD (n:Nat):(decL n).all isD=true:=by
  rw [List.all_eq_true]
  intro c hc
  have:=dec_dig n c hc
  rw [isD_is (by lia),decide_eq_true this.1,decide_eq_true this.2];rfl
end
section
variable {P:Params} {n:Nat}
noncomputable def NoD (s:List Nat):Prop:=∀ c r,s=c::r→isD c=false
theorem sep_at:isD 46=false∧isD 45=false∧isD 43=false:=by decide +kernel
theorem opt_dot {f:List Nat→Nat} {b t:List Nat} (hb:b≠[]) (hd:b.all isD=true) (ht:NoD t):opt46 f (46::(b++t))=b.length+1+f t:=by
  obtain ⟨e1,e2⟩:=tw_app (b:=t) hd ht
  unfold opt46
  rw [sep_eq]
  show (dig isD (b++t) fun a t=>some (a.length+1+f t)).getD 0=_
  rw [run_t (by rw [e1];exact isEmpty_ne hb),e1,e2];rfl
theorem opt_no {f:List Nat→Nat} {t:List Nat} (h:∀ c r,t=c::r→c≠46):opt46 f t=0:=by
  unfold opt46
  cases t with
  | nil=>rfl
  | cons c r=>rw [sep_ne (h c r rfl)];rfl
theorem m1_at {a t:List Nat} (ha:a≠[]) (hd:a.all isD=true) (ht:NoD t):m1 (a++t)=some (a.length+opt46 (opt46 fun Z=>0) t):=by
  obtain ⟨e1,e2⟩:=tw_app (b:=t) hd ht
  unfold m1
  rw [run_t (by rw [e1];exact isEmpty_ne ha),e1,e2]
theorem noD_dot {b:List Nat}:NoD (46::b):=fun c r e=>by cases e;exact sep_at.1
theorem upto3 {α:Type} {P:List α→Prop} {l:List α} (hne:l≠[]) (h3:l.length≤3) (p1:∀ a,P [a]) (p2:∀ a b,P [a,b]) (p3:∀ a b c,P [a,b,c]):P l:=by
  rcases l with Z | ⟨a,Z | ⟨b,Z | ⟨c,Z | ⟨d,t⟩⟩⟩⟩
  · exact absurd rfl hne
  · exact p1 a
  · exact p2 a b
  · exact p3 a b c
  · exact absurd (Nat.le_of_succ_le_succ (Nat.le_of_succ_le_succ (Nat.le_of_succ_le_succ h3))) (Nat.not_succ_le_zero _)
theorem m1_join {ws:List (List Nat)} {s:List Nat} (hne:ws≠[]) (h3:ws.length≤3) (hw:∀ w∈ws,w≠[]∧w.all isD=true) (hs:NoD s) (h46:ws.length=3∨∀ c r,s=c::r→c≠46):m1 (joinL 46 ws++s)=some (joinL 46 ws).length:=by
  revert hw h46
  refine upto3 (P:=fun ws=>(∀ w∈ws,w≠[]∧w.all isD=true)→(ws.length=3∨∀ c r,s=c::r→c≠46)→m1 (joinL 46 ws++s)=some (joinL 46 ws).length) hne h3 ?_ ?_ ?_
  · intro a hw h46
    have h1:=hw a (.head _)
    show m1 (a++s)=some a.length
    rw [m1_at h1.1 h1.2 hs,opt_no (h46.resolve_left nofun)];rfl
  · intro a b hw h46
    have h1:=hw a (.head _)
    have h2:=hw b (.tail _ (.head _))
    show m1 ((a++46::b)++s)=some (a++46::b).length
    rw [List.append_assoc,List.cons_append,m1_at h1.1 h1.2 noD_dot,opt_dot h2.1 h2.2 hs,opt_no (h46.resolve_left nofun),List.length_append];rfl
  · intro a b c hw Z
    have h1:=hw a (.head _)
    have h2:=hw b (.tail _ (.head _))
    have h3:=hw c (.tail _ (.tail _ (.head _)))
    show m1 ((a++46::(b++46::c))++s)=some (a++46::(b++46::c)).length
    rw [List.append_assoc,List.cons_append,m1_at h1.1 h1.2 noD_dot,List.append_assoc,List.cons_append,opt_dot h2.1 h2.2 noD_dot,opt_dot h3.1 h3.2 hs]
    simp only [List.length_append,List.length_cons]
    congr 1;lia
theorem m1_no {l:List Nat} (h:NoD l):m1 l=none:=by
  unfold m1 dig
  have:l.takeWhile isD=[]:=by
    cases l with
    | nil=>rfl
    | cons c r=>rw [List.takeWhile_cons,h c r rfl];rfl
  rw [this];rfl
noncomputable def jo:List (List Nat)→Option (List Nat)
  | []=>none
  | w::r=>some (joinL 46 (w::r))
structure Wd (w:List Nat):Prop where
  ne:w≠[]
  cs:∀ c∈w,isC c=true∧c≠46
theorem Wd.app {a b:List Nat} (x:Wd a) (y:Wd b):Wd (a++b):=⟨by simp [x.ne],fun c hc=>by
  rcases List.mem_append.mp hc with h | h
  · exact x.cs c h
  · exact y.cs c h⟩
theorem isC_lt {c:Nat} (h:isC c=true):c < 128∧c≠43∧c≠10:=by
  have key:∀ d:Fin 128,isC d.val=true→d.val≠43∧d.val≠10:=by decide +kernel
  by_cases hc:c < 128
  · exact ⟨hc,key ⟨c,hc⟩ h⟩
  · exfalso
    unfold isC at h
    simp only [Bool.or_eq_true,Bool.and_eq_true,decide_eq_true_eq,beq_iff_eq] at h
    lia
theorem join_isC {ws:List (List Nat)} (h:∀ w∈ws,Wd w):∀ c∈joinL 46 ws,isC c=true:=fun c hc=>by
  rcases joinL_mem hc with rfl | ⟨w,hw,hc⟩
  · decide +kernel
  · exact ((h w hw).cs c hc).1
theorem join_ne {w:List Nat} {r:List (List Nat)} (h:w≠[]):joinL 46 (w::r)≠[]:=by
  cases r with
  | nil=>exact h
  | cons y r=>show w++46::_≠[];simp
theorem jo_ok {ws:List (List Nat)} (h:∀ w∈ws,Wd w):optOk (jo ws):=fun u e=>by
  cases ws with
  | nil=>cases e
  | cons w r=>
    obtain rfl:=Option.some.inj e
    exact ⟨join_ne (h w (.head _)).ne,List.all_eq_true.mpr (join_isC h)⟩
theorem pw_jo {ws:List (List Nat)} (h:∀ w∈ws,Wd w):pw (jo ws)=ws:=by
  cases ws with
  | nil=>rfl
  | cons w r=>exact spl_join nofun fun u hu hc=>((h u hu).cs 46 hc).2 rfl
noncomputable def dz (i:Int):List Nat:=decL i.toNat
noncomputable def vx (i j k:Int) (e b:List (List Nat)):Five:=(dz i,dz j,dz k,jo e,jo b)
structure Good (i j k:Int) (e b:List (List Nat)):Prop where
  hi:0≤i∧i < 10 ^ 20
  hj:0≤j∧j < 10 ^ 20
  hk:0≤k∧k < 10 ^ 20
  fe:∀ w∈e,Wd w∧lzS w=false
  fb:∀ w∈b,Wd w
  le:(joinL 46 e).length≤40
  lb:(joinL 46 b).length≤60
theorem dz_ok (i:Int):dz i≠[]∧(dz i).all isD=true:=⟨dec_ne _,dec_isD _⟩
theorem dz_len {i:Int} (h:0≤i∧i < 10 ^ 20):(dz i).length≤20:=dec_len (by decide) (by have:=h.2;have:=h.1;lia)
theorem dz_val {i:Int} (h:0≤i):digitsVal (dz i)=i:=(dec_val2 _).trans (Int.toNat_of_nonneg h)
theorem dz_dec {i:Int} (h:0≤i∧i < 10 ^ 20):DecOf i (dz i):=⟨by
  have:=ofString_nat i.toNat
  rwa [Int.toNat_of_nonneg h.1] at this,h.1,by have:=h.2;lia,Nat.le_trans (dz_len h) (by decide)⟩
section
variable {i j k:Int} {e b:List (List Nat)}
theorem Good.ok (G:Good i j k e b):Ok5 (vx i j k e b):=⟨dz_ok i,dz_ok j,dz_ok k,jo_ok fun w h=>(G.fe w h).1,jo_ok G.fb⟩
theorem Good.be (G:Good i j k e b):∀ w∈e,badId false w=false:=fun w hw=>by
  unfold badId
  rw [isEmpty_ne (G.fe w hw).1.ne,(G.fe w hw).2];rfl
theorem Good.bu (G:Good i j k e b):∀ w∈b,badId true w=false:=fun w hw=>by
  unfold badId
  rw [isEmpty_ne (G.fb w hw).ne,Bool.not_true,Bool.and_false];rfl
end
end
section
variable {P:Params} {n:Nat}
section
variable {i j k:Int} {e b:List (List Nat)}
theorem opt_len {c:Nat} {ws:List (List Nat)}:(opt c (jo ws)).length≤(joinL 46 ws).length+1:=by
  cases ws with
  | nil=>exact Nat.zero_le _
  | cons w r=>exact Nat.le_refl _
noncomputable def sfx (e b:List (List Nat)):List Nat:=opt 45 (jo e)++opt 43 (jo b)
theorem comp_is:comp5 (vx i j k e b)=joinL 46 [dz i,dz j,dz k]++sfx e b:=by
  show dz i++46::(dz j++46::(dz k++sfx e b))=(dz i++46::(dz j++46::dz k))++sfx e b
  simp
theorem opt_isS {c:Nat} (hc:isS c=true) {ws:List (List Nat)} (h:∀ w∈ws,Wd w):∀ d∈opt c (jo ws),isS d=true:=fun d hd=>by
  cases ws with
  | nil=>cases hd
  | cons w r=>
    rcases List.mem_cons.mp hd with rfl | hd
    · exact hc
    · unfold isS;rw [join_isC h d hd];rfl
theorem Good.sfxS (G:Good i j k e b):∀ c∈sfx e b,isS c=true:=fun c hc=>by
  rcases List.mem_append.mp hc with h | h
  · exact opt_isS (by decide +kernel) (fun w h=>(G.fe w h).1) c h
  · exact opt_isS (by decide +kernel) G.fb c h
theorem isS_lt {c:Nat} (h:isS c=true):c < 128∧c≠10:=by
  unfold isS at h
  rcases Bool.or_eq_true_iff.mp h with h | h
  · exact ⟨(isC_lt h).1,(isC_lt h).2.2⟩
  · rw [beq_iff_eq.mp h];decide
theorem num_isC {ws:List (List Nat)} (hw:∀ w∈ws,w≠[]∧w.all isD=true):∀ c∈joinL 46 ws,c < 128→isC c=true:=fun c hc hl=>by
  rcases joinL_mem hc with rfl | ⟨w,hw',hc⟩
  · decide +kernel
  · have:=List.all_eq_true.mp (hw w hw').2 c hc
    rw [isD_is hl,Bool.and_eq_true,decide_eq_true_eq,decide_eq_true_eq] at this
    unfold isC
    rw [decide_eq_true this.1,decide_eq_true this.2];rfl
theorem dzs (i j k:Int):∀ w∈[dz i,dz j,dz k],w≠[]∧w.all isD=true:=fun w hw=>by
  simp only [List.mem_cons,List.not_mem_nil,or_false] at hw
  rcases hw with rfl | rfl | rfl<;>exact dz_ok _
theorem dz_lt {i j k:Int}:∀ c∈joinL 46 [dz i,dz j,dz k],c < 128:=fun c hc=>by
  rcases joinL_mem hc with rfl | ⟨w,hw,hc⟩
  · decide
  · have:∃ i,w=dz i:=by
      simp only [List.mem_cons,List.not_mem_nil,or_false] at hw
      rcases hw with h | h | h<;>exact ⟨_,h⟩
    obtain ⟨i,rfl⟩:=this
    have:=dec_dig _ c hc
    lia
theorem Good.compS (G:Good i j k e b):∀ c∈comp5 (vx i j k e b),isS c=true:=fun c hc=>by
  rw [comp_is] at hc
  rcases List.mem_append.mp hc with h | h
  · unfold isS;rw [num_isC (dzs i j k) c h (dz_lt c h)];rfl
  · exact G.sfxS c h
theorem Good.len (G:Good i j k e b):(comp5 (vx i j k e b)).length≤169:=by
  have h1:=dz_len G.hi
  have h2:=dz_len G.hj
  have h3:=dz_len G.hk
  have h4:=opt_len (c:=45) (ws:=e)
  have h5:=opt_len (c:=43) (ws:=b)
  have h6:=G.le
  have h7:=G.lb
  show (dz i++46::(dz j++46::(dz k++(opt 45 (jo e)++opt 43 (jo b))))).length≤169
  simp only [List.length_append,List.length_cons]
  lia
theorem gd_isS {l:List Nat} (h:∀ c∈l,c < 128∧c≠10) (hl:l.length≤600):gd (mk l)=true∧l.contains 10=false:=by
  constructor
  · unfold gd asc
    rw [Bool.and_eq_true,List.all_eq_true,decide_eq_true_eq]
    exact ⟨fun c hc=>decide_eq_true (h c hc).1,hl⟩
  · induction hc:l.contains 10 with
    | false=>rfl
    | true=>exact absurd rfl (h 10 (by simpa using hc)).2
theorem GW_of {ws:List (List Nat)} (h:∀ w∈ws,Wd w) (hl:(joinL 46 ws).length≤100):GW ws:=by
  cases ws with
  | nil=>exact GW_nil
  | cons w r=>
    have h1:=spl_sum (c:=46) (joinL 46 (w::r))
    rw [spl_join (List.cons_ne_nil w r) fun u hu hc=>((h u hu).cs 46 hc).2 rfl] at h1
    refine ⟨?_,by lia,by lia⟩
    rw [List.all_map,List.all_eq_true]
    intro u hu
    refine (gd_isS (fun c hc=>⟨(isC_lt ((h u hu).cs c hc).1).1,(isC_lt ((h u hu).cs c hc).1).2.2⟩) ?_).1
    have:=joinL_part (c:=46) hu
    lia
theorem Good.ge (G:Good i j k e b):GW e:=GW_of (fun w h=>(G.fe w h).1) (Nat.le_trans G.le (by decide))
theorem Good.gb (G:Good i j k e b):GW b:=GW_of G.fb (Nat.le_trans G.lb (by decide))
theorem num_ok2 {i:Int} (h:0≤i∧i < 10 ^ 20):NumOk (dz i):=⟨dec_ne _,dec_dig _,Nat.le_trans (dz_len h) (by decide),dec_lz _⟩
theorem jo_len {ws:List (List Nat)} {w:List Nat} (h:jo ws=some w):w=joinL 46 ws:=by
  cases ws with
  | nil=>cases h
  | cons=>exact (Option.some.inj h).symm
theorem Good.in5 (G:Good i j k e b):In5 (vx i j k e b):=⟨m3_met G.ok sep_at,(gd_isS (fun c hc=>isS_lt (G.compS c hc)) (Nat.le_trans G.len (by decide))).2,num_ok2 G.hi,num_ok2 G.hj,num_ok2 G.hk,
  ⟨G.ok.p,by rw [show pw (vx i j k e b).2.2.2.1=e from pw_jo fun w h=>(G.fe w h).1];exact G.ge,by rw [show pw (vx i j k e b).2.2.2.1=e from pw_jo fun w h=>(G.fe w h).1];exact G.be,fun w h=>by rw [jo_len h];exact decide_eq_true (Nat.le_trans G.le (by decide))⟩,
  ⟨G.ok.q,by rw [show pw (vx i j k e b).2.2.2.2=b from pw_jo G.fb];exact G.gb,by rw [show pw (vx i j k e b).2.2.2.2=b from pw_jo G.fb];exact G.bu,fun w h=>by rw [jo_len h];exact decide_eq_true (Nat.le_trans G.lb (by decide))⟩⟩
theorem g_ver (G:Good i j k e b):∃ fs,IsVer fs i j k e b∧callAt (KF P) (n+3) false 448 [.str (mk (comp5 (vx i j k e b)))] []=some (.ok (.inst 448 fs))∧callAt (KF P) (n+3) false 448 [.str (mk (comp5 (vx i j k e b)))] [(so "partial",.bool false)]=some (.ok (.inst 448 fs)):=by
  obtain ⟨fs,V,h⟩:=ver_text (P:=P) (n:=n) G.in5
  refine ⟨fs,?_,h⟩
  have V':IsVer fs (digitsVal (dz i)) (digitsVal (dz j)) (digitsVal (dz k)) (pw (jo e)) (pw (jo b)):=V
  rwa [dz_val G.hi.1,dz_val G.hj.1,dz_val G.hk.1,pw_jo fun w h=>(G.fe w h).1,pw_jo G.fb] at V'
theorem g_valid (G:Good i j k e b):callAt (KF P) (n+3) false 459 [.str (mk (comp5 (vx i j k e b)))] []=some (.ok (.bool true)):=validate_ok (parse_two G.in5).1
theorem g_coerce (G:Good i j k e b) {ws:List (List Nat)} {s:List Nat} (hne:ws≠[]) (h3:ws.length≤3) (hw:∀ w∈ws,w≠[]∧w.all isD=true) (hs:NoD s) (h46:ws.length=3∨∀ c r,s=c::r→c≠46)
    (hpad:(padTo ws).map strip0=[dz i,dz j,dz k]) (hsf:tailOf (sub2 s)=sfx e b) (hx:gd (mk (joinL 46 ws++s))=true) (hl:(joinL 46 ws++s).length≤300):
    ∃ fs,IsVer fs i j k e b∧callAt (KF P) (n+4) false 317 [.glob (.ref 448),.str (mk (joinL 46 ws++s))] []=some (.ok (.inst 448 fs)):=by
  obtain ⟨fs,V,Z,h⟩:=g_ver (P:=P) (n:=n) G
  rw [comp_is,← hpad,← hsf] at h
  exact ⟨fs,V,coerce_ok hx hl (m1_join hne h3 hw hs h46) hne h3 (fun w h=>⟨(hw w h).1,fun hc=>by have:=List.all_eq_true.mp (hw w h).2 46 hc;rw [sep_at.1] at this;cases this⟩) rfl h⟩
end
end
section
theorem sub2_id {l:List Nat} (h:∀ c∈l,isS c=true):sub2 l=l:=by
  unfold sub2
  conv=>rhs;rw [← List.map_id l]
  refine List.map_congr_left fun c hc=>?_
  rw [h c hc];rfl
theorem opt_ne {c:Nat} {w:List Nat} (h:w≠[]):opt' c w=c::w:=by cases w<;>first | exact absurd rfl h | rfl
theorem splitP {J:List Nat} {g:Option (List Nat)} (h:43∉J):splitPlus (J++opt 43 g)=(J,g.getD []):=by
  cases g with
  | none=>show splitPlus (J++[])=_;rw [List.append_nil];exact if_neg h
  | some G=>
    show splitPlus (J++43::G)=_
    unfold splitPlus
    rw [if_pos (by simp),(cutB_app h).1,(cutB_app h).2];rfl
structure Dg (g:Option (List Nat)) (bm:List (List Nat)):Prop where
  e:dots (g.getD [])=joinL 46 bm
  ne:∀ G,g=some G→bm≠[]
  no:g=none→bm=[]
  w:∀ w∈bm,Wd w
theorem jo_opt {c:Nat} {bm:List (List Nat)} (h:∀ w∈bm,Wd w):opt' c (joinL 46 bm)=opt c (jo bm):=by
  cases bm with
  | nil=>rfl
  | cons w r=>exact opt_ne (join_ne (h w (.head _)).ne)
theorem join_no {ws:List (List Nat)} (h:∀ w∈ws,Wd w):43∉joinL 46 ws:=fun hc=>(isC_lt (join_isC h 43 hc)).2.1 rfl
theorem tail0 {g bm} (D:Dg g bm):tailOf (opt 43 g)=sfx [] bm:=by
  show _=opt 43 (jo bm)
  rw [← jo_opt D.w,← D.e]
  cases g with
  | none=>decide +kernel
  | some G=>rfl
theorem tail_dot {b0:List (List Nat)} {g bm} (D:Dg g bm) (hne:b0≠[]) (h:∀ w∈b0,Wd w):tailOf (46::(joinL 46 b0++opt 43 g))=sfx [] (b0++bm):=by
  show opt' 43 (dots (joinL 46 b0++opt 43 g))=opt 43 (jo (b0++bm))
  have hw:∀ w∈b0++bm,Wd w:=fun w hw=>by
    rcases List.mem_append.mp hw with q | q
    · exact h w q
    · exact D.w w q
  rw [← jo_opt hw]
  congr 1
  have hn:=join_no h
  cases g with
  | none=>
    rw [D.no rfl,List.append_nil]
    show dots (joinL 46 b0++[])=_
    rw [List.append_nil]
    unfold dots
    rw [spl_free_one hn];rfl
  | some G=>
    have hd:=D.e
    show dots (joinL 46 b0++43::G)=_
    rw [join_app (D.ne G rfl) hne,← hd]
    unfold dots
    rw [spl_app hn]
    induction e:spl 43 G using List.casesOn with
    | nil=>exact absurd e (spl_ne G)
    | cons x r=>show _=joinL 46 b0++46::joinL 46 (spl 43 G);rw [e];rfl
theorem tail_dash {e:List (List Nat)} {g bm} (D:Dg g bm) (h:∀ w∈e,Wd w):tailOf (45::(joinL 46 e++opt 43 g))=sfx e bm:=by
  unfold tailOf
  rw [show cutRest (45::(joinL 46 e++opt 43 g))=_ from splitP (join_no h)]
  show opt' 45 (joinL 46 e)++opt' 43 (dots (g.getD []))=_
  rw [D.e,jo_opt h,jo_opt D.w];rfl
theorem tail_word {e:List (List Nat)} {c:Nat} {r:List Nat} {g bm} (D:Dg g bm) (h:∀ w∈e,Wd w) (hj:joinL 46 e=c::r) (hc:c≠43∧c≠46∧c≠45):tailOf (joinL 46 e++opt 43 g)=sfx e bm:=by
  have e1:cutRest (joinL 46 e++opt 43 g)=splitPlus (joinL 46 e++opt 43 g):=by
    rw [hj]
    exact (if_neg hc.1).trans ((if_neg hc.2.1).trans (if_neg hc.2.2))
  unfold tailOf
  rw [e1,splitP (join_no h)]
  show opt' 45 (joinL 46 e)++opt' 43 (dots (g.getD []))=_
  rw [D.e,jo_opt h,jo_opt D.w];rfl
theorem dots_id {ws:List (List Nat)} (h:∀ w∈ws,Wd w):dots (joinL 46 ws)=joinL 46 ws:=by
  unfold dots
  rw [spl_free_one (join_no h)];rfl
theorem Dg_jo {ws:List (List Nat)} (h:∀ w∈ws,Wd w):Dg (jo ws) ws:=by
  cases ws with
  | nil=>exact ⟨rfl,(fun Z e=>nomatch e),fun Z=>rfl,h⟩
  | cons w r=>exact ⟨dots_id h,fun Z Z=>List.cons_ne_nil w r,(fun e=>nomatch e),h⟩
variable {i j k:Int} {e b:List (List Nat)}
theorem Good.back (G:Good i j k e b):tailOf (sub2 (sfx e b))=sfx e b:=by
  rw [sub2_id G.sfxS]
  have D:=Dg_jo G.fb
  cases e with
  | nil=>exact tail0 D
  | cons w r=>exact tail_dash D fun w h=>(G.fe w h).1
theorem Good.head (G:Good i j k e b):NoD (sfx e b)∧∀ c r,sfx e b=c::r→c≠46:=by
  have key:∀ c r,sfx e b=c::r→c=45∨c=43:=fun c r h=>by
    cases e with
    | nil=>
      cases b with
      | nil=>cases h
      | cons w s=>cases h;exact .inr rfl
    | cons w s=>cases h;exact .inl rfl
  constructor
  · intro c r h
    rcases key c r h with rfl | rfl
    · exact sep_at.2.1
    · exact sep_at.2.2
  · intro c r h
    rcases key c r h with rfl | rfl<;>decide
theorem strip_dz {i:Int}:strip0 (dz i)=dz i:=strip_dec (z:=0)
variable {P:Params} {n:Nat}
theorem g_again (G:Good i j k e b):∃ fs,IsVer fs i j k e b∧callAt (KF P) (n+4) false 317 [.glob (.ref 448),.str (mk (comp5 (vx i j k e b)))] []=some (.ok (.inst 448 fs)):=by
  rw [comp_is]
  refine g_coerce G (List.cons_ne_nil _ _) (Nat.le_refl _) (dzs i j k) G.head.1 (.inl rfl) ?_ G.back ?_ ?_
  · show [strip0 (dz i),strip0 (dz j),strip0 (dz k)]=_
    rw [strip_dz,strip_dz,strip_dz]
  · rw [← comp_is];exact (gd_isS (fun c hc=>isS_lt (G.compS c hc)) (Nat.le_trans G.len (by decide))).1
  · rw [← comp_is];exact Nat.le_trans G.len (by decide)
end
section
structure Wo (w:List Nat):Prop where
  wd:Wd w
  hd:∃ c r,w=c::r∧isD c=false∧(c≠43∧c≠46∧c≠45)∧c≠48
  len:w.length≤5
structure Od (sg hy:List Nat):Prop where
  sub:sub2 sg=hy
  h45:∀ c∈hy,c=45
  noD:NoD sg
  n46:∀ c r,sg=c::r→c≠46
  asc:∀ c∈sg,c < 128∧c≠10
  len:sg.length≤2
  com:sg≠[]→hy++[45]=45::hy∧hy≠[]
theorem od_of {c:Nat} {m:Nat} (h:isS c=false) (hd:isD c=false) (h46:c≠46) (hl:c < 128) (h10:c≠10) (hm:m≤2):Od (List.replicate m c) (List.replicate m 45):=by
  have hr:∀ d∈List.replicate m c,d=c:=fun d hd=>List.eq_of_mem_replicate hd
  refine ⟨?_,fun d hd=>List.eq_of_mem_replicate hd,fun d r e=>?_,fun d r e=>?_,fun d hd=>?_,by rw [List.length_replicate];exact hm,fun hne=>⟨?_,?_⟩⟩
  · unfold sub2
    rw [List.map_replicate,h];rfl
  · rw [hr d (by rw [e];exact .head _)];exact hd
  · rw [hr d (by rw [e];exact .head _)];exact h46
  · rw [hr d hd];exact ⟨hl,h10⟩
  · rw [← List.replicate_succ',List.replicate_succ]
  · intro e
    have:=congrArg List.length e
    rw [List.length_replicate,List.length_nil] at this
    subst this
    exact hne rfl
theorem wd_of {l:List Nat} (hne:l≠[]) (h:l.all (fun c=>isC c&&c != 46)=true):Wd l:=⟨hne,fun c hc=>by
  have:=List.all_eq_true.mp h c hc
  rw [Bool.and_eq_true] at this
  exact ⟨this.1,by simpa using this.2⟩⟩
theorem wd_dz {i:Int}:Wd (dz i):=⟨dec_ne _,fun c hc=>by
  have:=dec_dig _ c hc
  refine ⟨?_,by lia⟩
  unfold isC
  rw [decide_eq_true this.1,decide_eq_true this.2];rfl⟩
section
variable {sg hy w f:List Nat}
theorem Wd.sub (h:Wd w):sub2 w=w:=sub2_id fun c hc=>by unfold isS;rw [(h.cs c hc).1];rfl
theorem Wd.asc (h:Wd w):∀ c∈w,c < 128∧c≠10:=fun c hc=>⟨(isC_lt (h.cs c hc).1).1,(isC_lt (h.cs c hc).1).2.2⟩
theorem Od.wd (o:Od sg hy) (h:Wd w):Wd (hy++w):=⟨by simp [h.ne],fun c hc=>by
  rcases List.mem_append.mp hc with q | q
  · rw [o.h45 c q];decide +kernel
  · exact h.cs c q⟩
theorem Od.wd2 (o:Od sg hy) (h:Wd w):Wd (w++hy):=⟨by simp [h.ne],fun c hc=>by
  rcases List.mem_append.mp hc with q | q
  · exact h.cs c q
  · rw [o.h45 c q];decide +kernel⟩
theorem Od.hlen (o:Od sg hy):hy.length≤2:=by rw [← o.sub,sub2_len];exact o.len
theorem sub2_cons {c:Nat} {l:List Nat} (h:isS c=true):sub2 (c::l)=c::sub2 l:=by
  show (bif isS c then c else 45)::sub2 l=_
  rw [h];rfl
theorem lz_hd {c:Nat} {r l:List Nat} (h:l=c::r) (hc:c≠48):lzS l=false:=by
  rw [h,lzS_cons,show (c==48)=false from beq_eq_false_iff_ne.mpr hc];rfl
structure WayOk (t:Bool) (A:List Nat) (e b:List (List Nat)):Prop where
  tail:∀ g bm,Dg g bm→tailOf (sub2 A++opt 43 g)=sfx e (b++bm)
  noD:NoD A
  h46:t=true∨∀ c r,A=c::r→c≠46
  asc:∀ c∈A,c < 128∧c≠10
  fe:∀ w∈e,Wd w∧lzS w=false
  fb:∀ w∈b,Wd w
  len:A.length≤25
  le:(joinL 46 e).length≤20
  lb:(joinL 46 b).length≤20
theorem noD_hd {c:Nat} {r:List Nat} (h:isD c=false):NoD (c::r):=fun Z Z e=>by cases e;exact h
theorem NoD.app {a b:List Nat} (x:NoD a) (y:NoD b):NoD (a++b):=fun c r e=>by
  cases a with
  | nil=>exact y c r e
  | cons d s=>cases e;exact x _ _ rfl
theorem ne46_app {a b:List Nat} (x:∀ c r,a=c::r→c≠46) (y:∀ c r,b=c::r→c≠46):∀ c r,a++b=c::r→c≠46:=fun c r e=>by
  cases a with
  | nil=>exact y c r e
  | cons d s=>cases e;exact x _ _ rfl
theorem one_in {p:List Nat→Prop} {a:List Nat} (h:p a):∀ w∈[a],p w:=fun w hw=>by rw [List.mem_singleton.mp hw];exact h
theorem two_in {p:List Nat→Prop} {a b:List Nat} (h:p a) (k:p b):∀ w∈[a,b],p w:=fun w hw=>by
  rcases List.mem_cons.mp hw with q | q
  · rw [q];exact h
  · exact one_in k w q
theorem way0 {t:Bool}:WayOk t [] [] []:=⟨fun g bm D=>tail0 D,(fun Z Z e=>nomatch e),.inr (fun Z Z e=>nomatch e),(fun Z h=>nomatch h),(fun Z h=>nomatch h),(fun Z h=>nomatch h),Nat.zero_le _,Nat.zero_le _,Nat.zero_le _⟩
theorem app_asc {a b:List Nat} (x:∀ c∈a,c < 128∧c≠10) (y:∀ c∈b,c < 128∧c≠10):∀ c∈a++b,c < 128∧c≠10:=fun c hc=>by
  rcases List.mem_append.mp hc with q | q
  · exact x c q
  · exact y c q
theorem wd0:Wd [48]:=wd_of nofun (by decide +kernel)
theorem wd7:Wd [55]:=wd_of nofun (by decide +kernel)
theorem way2 {t:Bool} (o:Od sg hy) (hw:Wo w) (hf:Wd f) (fl:f.length≤3):WayOk t (45::(w++(sg++(f++[46,48])))) [w++hy++f,[48]] []:=by
  have e:∀ w'∈[w++hy++f,[48]],Wd w'∧lzS w'=false:=two_in ⟨(o.wd2 hw.wd).app hf,by
    obtain ⟨c,r,q,Z,Z,h⟩:=hw.hd
    exact lz_hd (c:=c) (r:=r++hy++f) (by rw [q];rfl) h⟩ ⟨wd0,by decide +kernel⟩
  have s:sub2 (45::(w++(sg++(f++[46,48]))))=45::joinL 46 [w++hy++f,[48]]:=by
    rw [sub2_cons (by decide +kernel),sub2_app,sub2_app,sub2_app,hw.wd.sub,o.sub,hf.sub]
    show 45::(w++(hy++(f++[46,48])))=45::(w++hy++f++46::[48])
    simp
  have hl:=o.len
  have hh:=o.hlen
  have wl:=hw.len
  refine ⟨fun g bm D=>by rw [s];exact tail_dash D fun w h=>(e w h).1,noD_hd sep_at.2.1,.inr fun c r q=>by cases q;decide,?_,e,(fun Z h=>nomatch h),?_,?_,Nat.zero_le _⟩
  · exact app_asc (a:=[45]) (by decide) (app_asc hw.wd.asc (app_asc o.asc (app_asc hf.asc (by decide))))
  · simp;lia
  · show (w++hy++f++[46,48]).length≤20
    simp;lia
theorem way3 {t:Bool} (hw:Wo w):WayOk t w [w] []:=by
  obtain ⟨c,r,q,h1,h2,h3⟩:=id hw.hd
  have e:∀ w'∈[w],Wd w'∧lzS w'=false:=one_in ⟨hw.wd,lz_hd q h3⟩
  refine ⟨fun g bm D=>by rw [hw.wd.sub];exact tail_word D (fun w h=>(e w h).1) q h2,by rw [q];exact noD_hd h1,.inr fun d s q'=>?_,hw.wd.asc,e,(fun Z h=>nomatch h),Nat.le_trans hw.len (by decide),Nat.le_trans hw.len (by decide),Nat.zero_le _⟩
  rw [q] at q';cases q';exact h2.2.1
theorem way4 {t:Bool} (o:Od sg hy) (hne:sg≠[]) (hw:Wo w):WayOk t (sg++45::(w++[46,55])) [hy++w,[55]] []:=by
  have e:∀ w'∈[hy++w,[55]],Wd w'∧lzS w'=false:=two_in ⟨o.wd hw.wd,by
    obtain ⟨Z,h⟩:=o.com hne
    induction q:hy using List.casesOn with
    | nil=>exact absurd q h
    | cons c r=>
      have:=o.h45 c (by rw [q];exact .head _)
      exact lz_hd (c:=c) (r:=r++w) rfl (by rw [this];decide)⟩ ⟨wd7,by decide +kernel⟩
  have s:sub2 (sg++45::(w++[46,55]))=45::joinL 46 [hy++w,[55]]:=by
    rw [sub2_app,sub2_cons (by decide +kernel),sub2_app,hw.wd.sub,o.sub]
    show hy++45::(w++[46,55])=45::(hy++w++46::[55])
    rw [show hy++45::(w++[46,55])=(hy++[45])++(w++[46,55]) by simp,(o.com hne).1]
    simp
  have hl:=o.len
  have hh:=o.hlen
  have wl:=hw.len
  refine ⟨fun g bm D=>by rw [s];exact tail_dash D fun w h=>(e w h).1,o.noD.app (noD_hd sep_at.2.1),.inr (ne46_app o.n46 fun c r q=>by cases q;decide),?_,e,(fun Z h=>nomatch h),?_,?_,Nat.zero_le _⟩
  · exact app_asc o.asc (app_asc (a:=[45]) (by decide) (app_asc hw.wd.asc (by decide)))
  · simp;lia
  · show (hy++w++[46,55]).length≤20
    simp;lia
theorem join_asc {b:List (List Nat)} (h:∀ w∈b,Wd w):∀ c∈joinL 46 b,c < 128∧c≠10:=fun c hc=>⟨(isC_lt (join_isC h c hc)).1,(isC_lt (join_isC h c hc)).2.2⟩
theorem join_sub {b:List (List Nat)} (h:∀ w∈b,Wd w):sub2 (joinL 46 b)=joinL 46 b:=sub2_id fun c hc=>by unfold isS;rw [join_isC h c hc];rfl
theorem way1 {b:List (List Nat)} (hne:b≠[]) (h:∀ w∈b,Wd w) (hl:(joinL 46 b).length≤10):WayOk true (46::joinL 46 b) [] b:=by
  refine ⟨fun g bm D=>?_,noD_hd sep_at.1,.inl rfl,app_asc (a:=[46]) (by decide) (join_asc h),(fun Z h=>nomatch h),h,?_,Nat.zero_le _,Nat.le_trans hl (by decide)⟩
  · rw [sub2_cons (by decide +kernel),join_sub h]
    exact tail_dot D hne h
  · rw [List.length_cons];lia
theorem join_last {x y:List Nat}:∀ xs:List (List Nat),joinL 46 (xs++[x])++y=joinL 46 (xs++[x++y])
  | []=>rfl
  | [a]=>by show a++46::x++y=a++46::(x++y);simp
  | a::b::r=>by
    show a++46::joinL 46 (b::r++[x])++y=a++46::joinL 46 (b::r++[x++y])
    rw [← join_last (b::r)];simp
theorem way1b {xs:List (List Nat)} {x:List Nat} (h:∀ w∈xs++[x],Wd w) (hl:(joinL 46 (xs++[x])).length≤10) (o:Od sg hy) (hw:Wo w):WayOk true (46::(joinL 46 (xs++[x])++(sg++w))) [] (xs++[x++hy++w]):=by
  have h2:∀ u∈xs++[x++hy++w],Wd u:=fun u hu=>by
    rcases List.mem_append.mp hu with q | q
    · exact h u (List.mem_append_left _ q)
    · rw [List.mem_singleton.mp q]
      exact (o.wd2 (h x (List.mem_append_right _ (.head _)))).app hw.wd
  have hh:=o.hlen
  have hs:=o.len
  have wl:=hw.len
  have s:sub2 (46::(joinL 46 (xs++[x])++(sg++w)))=46::joinL 46 (xs++[x++hy++w]):=by
    rw [sub2_cons (by decide +kernel),sub2_app,sub2_app,join_sub h,o.sub,hw.wd.sub,List.append_assoc,← join_last]
  refine ⟨fun g bm D=>?_,noD_hd sep_at.1,.inl rfl,app_asc (a:=[46]) (by decide) (app_asc (join_asc h) (app_asc o.asc hw.wd.asc)),(fun Z h=>nomatch h),h2,?_,Nat.zero_le _,?_⟩
  · rw [s]
    exact tail_dot D (by simp) h2
  · simp only [List.length_cons,List.length_append] at *;lia
  · rw [List.append_assoc,← join_last,List.length_append,List.length_append];lia
structure MoreOk (B:List Nat) (bm:List (List Nat)):Prop where
  sub:∃ g,sub2 B=opt 43 g∧Dg g bm
  noD:NoD B
  h46:∀ c r,B=c::r→c≠46
  asc:∀ c∈B,c < 128∧c≠10
  len:B.length≤20
  lb:(joinL 46 bm).length≤20
theorem more0:MoreOk [] []:=⟨⟨none,rfl,rfl,(fun Z e=>nomatch e),fun Z=>rfl,fun Z h=>nomatch h⟩,(fun Z Z e=>nomatch e),(fun Z Z e=>nomatch e),(fun Z h=>nomatch h),Nat.zero_le _,Nat.zero_le _⟩
theorem wd5:Wd [53]:=wd_of nofun (by decide +kernel)
theorem wd01:Wd [48,49]:=wd_of nofun (by decide +kernel)
theorem more1 (o:Od sg hy) (hw:Wo w):MoreOk (43::(w++46::(sg++[53]))) [w,hy++[53]]:=by
  have h:∀ u∈[w,hy++[53]],Wd u:=two_in hw.wd (o.wd wd5)
  have hh:=o.hlen
  have hs:=o.len
  have wl:=hw.len
  refine ⟨⟨some (joinL 46 [w,hy++[53]]),?_,dots_id h,(fun Z Z=>nofun),nofun,h⟩,noD_hd sep_at.2.2,fun c r q=>by cases q;decide,?_,?_,?_⟩
  · rw [sub2_cons (by decide +kernel),sub2_app,hw.wd.sub,sub2_cons (by decide +kernel),sub2_app,o.sub];rfl
  · exact app_asc (a:=[43]) (by decide) (app_asc hw.wd.asc (app_asc (a:=[46]) (by decide) (app_asc o.asc (by decide))))
  · simp;lia
  · show (w++46::(hy++[53])).length≤20
    simp;lia
theorem more2 (o:Od sg hy) (hw:Wo w) (hf:Wd f) (fl:f.length≤3):MoreOk (43::(w++46::(sg++[53]))++(43::48::49::43::f)) ([w,hy++[53]]++[[48,49],f]):=by
  have h:∀ u∈[w,hy++[53]],Wd u:=two_in hw.wd (o.wd wd5)
  have h2:∀ u∈[[48,49],f],Wd u:=two_in wd01 hf
  have hh:=o.hlen
  have hs:=o.len
  have wl:=hw.len
  have e:spl 43 (joinL 46 [w,hy++[53]]++43::48::49::43::f)=[joinL 46 [w,hy++[53]],[48,49],f]:=by
    rw [spl_app (join_no h)]
    show _::spl 43 ([48,49]++43::f)=_
    rw [spl_app (by decide),spl_free_one fun hc=>(isC_lt (hf.cs 43 hc).1).2.1 rfl]
  refine ⟨⟨some (joinL 46 [w,hy++[53]]++43::48::49::43::f),?_,?_,(fun Z Z=>nofun),nofun,fun u hu=>?_⟩,noD_hd sep_at.2.2,fun c r q=>by cases q;decide,?_,?_,?_⟩
  · rw [show 43::48::49::43::f=[43,48,49,43]++f from rfl,sub2_app,sub2_app,hf.sub,show sub2 [43,48,49,43]=[43,48,49,43] by decide +kernel,sub2_cons (by decide +kernel),sub2_app,hw.wd.sub,sub2_cons (by decide +kernel),sub2_app,o.sub,wd5.sub];rfl
  · show joinL 46 (spl 43 (joinL 46 [w,hy++[53]]++43::48::49::43::f))=_
    have ej:=join_app (c:=46) (List.cons_ne_nil [48,49] [f]) (List.cons_ne_nil w [hy++[53]])
    rw [e,ej];rfl
  · rcases List.mem_append.mp hu with q | q
    · exact h u q
    · exact h2 u q
  · exact app_asc (app_asc (a:=[43]) (by decide) (app_asc hw.wd.asc (app_asc (a:=[46]) (by decide) (app_asc o.asc (by decide))))) (app_asc (a:=[43,48,49,43]) (by decide) hf.asc)
  · simp;lia
  · show (w++46::(hy++[53]++46::([48,49]++46::f))).length≤20
    simp;lia
end
end
section
variable {P:Params} {n:Nat} {st:Bool}
section
variable {K:Frag} {C:CallSem} {fm:Fm} {sc:PySem.Scope} {cd:PySem.Value} {l:Bnd} {c:List Unit} {ls:List PV} {x y:Str} {Q:SR→Prop} {r:List Stmt} {v:PV}
theorem deref_own (F:Fr sc cd l c (some (.list ls)) fm):deref fm .own=.list ls:=by unfold deref;rw [F.mu]
theorem idx_own {k:Int} (F:Fr sc cd l c (some (.list ls)) fm) (h0:0≤k) (h:ls[k.toNat]?=some v):idxE fm .own (.int k)=some (.ok v):=by
  refine (akb (a:=k) rfl ?_:_=some (Res.ok v))
  show (match deref fm .own with | .list l=>listAt l k | .str x=>_ | _=>none)=_
  rw [deref_own F]
  exact idx_get (fm:=fm) h0 h
theorem len_own (F:Fr sc cd l c (some (.list ls)) fm):callB K C st fm (.builtin "len") [.own]=some (.ok (.int (ls.length:Nat))):=by
  have e:callB K C st fm (.builtin "len") [.own]=ask (lenE (deref fm .own)) fun n=>rok (PV.int (n:Nat)):=rfl
  rw [e,deref_own F];rfl
theorem add_own {b:List PV} (F:Fr sc cd l c (some (.list ls)) fm) (h:ls.length+b.length≤lenLine):binE fm .Add .own (.list b)=some (.ok (.list (ls++b))):=by
  show addE (deref fm .own) (.list b)=_
  rw [deref_own F]
  exact grb (decide_eq_true (by rw [List.length_append];exact h)) rfl
theorem xs_newPair {px py kx pt pl e ke pe q} (F:Fr sc cd l c none fm) (h:(mutNames.contains x&&(isLocal sc x&&isLocal sc y)&&(solid v&&notStar e))=true) (hsw:swapT sc [.Name x px,.Name y py] (.Tuple [.List [] pl,e] ke pe)=some (some [x,y])) (he:EV K C n st fm e v)
    (k:∀ fm',Fr sc cd ((x,.own)::(y,v)::l) c (some (.list [])) fm'→XS K C (n+1) st fm' r Q):XS K C (n+2) st fm (.Assign [.Tuple [.Name x px,.Name y py] kx pt] (.Tuple [.List [] pl,e] ke pe) q::r) Q:=by
  obtain ⟨h,hv⟩:=and_tt h
  obtain ⟨hm,hx,hy⟩:=(⟨(and_tt h).1,(and_tt (and_tt h).2).1,(and_tt (and_tt h).2).2⟩:_∧_∧_)
  have F0:Fr sc cd l c (some (.list [])) { fm with mu:=some (.list []) }:=⟨F.scope,F.code,F.loc,F.tk,rfl⟩
  obtain ⟨f1,e1,F1⟩:=F0.set (v:=v) hy
  obtain ⟨f2,e2,F2⟩:=F1.set (v:=.own) hx
  refine xs_cons ⟨.nx f2,?_,k f2 F2⟩
  refine akb (a:=some [x,y]) (by rw [F.scope];exact hsw) ?_
  rw [hm]
  exact grb (by unfold noMu;rw [F.mu];simp) (sb he (grb hv (akb e1 (nxb e2))))
theorem ev_ck {w:List Nat} {k:Nat} {p} (h:x=mk w) (hl:decide (w.length≤lenLine)=true):EV K C (n+1) st fm (.Constant (.str x) k p) (.str (mk w)):=by
  subst h;exact ev_cstr hl
theorem ev_ifb {t b o p} {bv:Bool} {l1 l2:List Nat} (ht:TE K C n st fm t bv) (h1:EV K C n st fm b (.str (mk l1))) (h2:EV K C n st fm o (.str (mk l2))):EV K C (n+1) st fm (.IfExp t b o p) (.str (mk (if bv then l1 else l2))):=by
  cases bv
  · exact ev_if_f ht h2
  · exact ev_if_t ht h1
theorem p_mulC {d:Nat} {j:Int} (h0:0≤j) (h2:j≤2):binE fm .Mult (.str (ch d)) (.int j)=some (.ok (.str (mk (List.replicate j.toNat d)))):=by
  show mulE (.str (ch d)) (.int j)=_
  refine akb (a:=ch d) rfl (akb (a:=j) rfl (grb (by rw [decide_eq_true h0,decide_eq_true (show j≤100 by lia)];rfl) ?_))
  rw [mul_eq h0 h2]
  exact strR_ok (by show (List.replicate _ _).length≤_;rw [List.length_replicate];unfold lenLine;lia)
theorem idx_wl {ws:List (List Nat)} {k:Int} (h0:0≤k) (h1:k < ws.length):∃ w∈ws,∀ fm:Fm,idxE fm (wl ws) (.int k)=some (.ok (.str (mk w))):=by
  have hk:k.toNat < ws.length:=by lia
  refine ⟨ws[k.toNat],List.getElem_mem hk,fun fm=>?_⟩
  unfold wl
  exact idx_get h0 (by rw [List.getElem?_map,List.getElem?_eq_getElem hk];rfl)
end
theorem q0S:Str.ofString "0"=mk [48]:=by decide +kernel
theorem qnS:Str.ofString ""=mk []:=by decide +kernel
theorem q7S:Str.ofString "7"=mk [55]:=by decide +kernel
theorem q5S:Str.ofString "5"=mk [53]:=by decide +kernel
theorem qvS:Str.ofString "v"=mk [118]:=by decide +kernel
theorem qd0S:Str.ofString ".0"=mk [46,48]:=by decide +kernel
theorem qd7S:Str.ofString ".7"=mk [46,55]:=by decide +kernel
theorem q01S:Str.ofString "01"=mk [48,49]:=by decide +kernel
theorem qppS:Str.ofString "+01+"=mk [43,48,49,43]:=by decide +kernel
noncomputable def wordsN:List (List Nat):=[[97],[114,99],[66],[97,108,112,104,97],[120,49],[122]]
noncomputable def oddN:List (List Nat):=[[95],[32],[126],[47],[42],[33],[58],[64],[40],[61],[35]]
theorem words_ok:callAt (KF P) (n+1) st 466 [] []=some (.ok (wl wordsN)):=by
  refine fn_ret' (C:=callAt (KF P) n) (N:=200) (sc:=fScope (top1 17)) (cd:=vr 465) (l:=[]) (ss:=fBody (top1 17)) (by kernel_rfl) rfl fun fm F=>?_
  conv=>arg 6;whnf
  refine xs_ret (v:=wl wordsN) ?_ ⟨_,rfl⟩
  show EV _ _ _ _ _ _ (.list [.str (mk [97]),.str (mk [114,99]),.str (mk [66]),.str (mk [97,108,112,104,97]),.str (mk [120,49]),.str (mk [122])])
  rw [← (by decide +kernel:so "a"=mk [97]),← (by decide +kernel:so "rc"=mk [114,99]),← (by decide +kernel:so "B"=mk [66]),← (by decide +kernel:so "alpha"=mk [97,108,112,104,97]),← (by decide +kernel:so "x1"=mk [120,49]),← (by decide +kernel:so "z"=mk [122])]
  walk_at "e"
theorem odd_ok:callAt (KF P) (n+1) st 473 [] []=some (.ok (wl oddN)):=by
  refine fn_ret' (C:=callAt (KF P) n) (N:=200) (sc:=fScope (top1 18)) (cd:=vr 472) (l:=[]) (ss:=fBody (top1 18)) (by kernel_rfl) rfl fun fm F=>?_
  conv=>arg 6;whnf
  refine xs_ret (v:=wl oddN) ?_ ⟨_,rfl⟩
  show EV _ _ _ _ _ _ (.list [.str (mk [95]),.str (mk [32]),.str (mk [126]),.str (mk [47]),.str (mk [42]),.str (mk [33]),.str (mk [58]),.str (mk [64]),.str (mk [40]),.str (mk [61]),.str (mk [35])])
  rw [← (by decide +kernel:so "_"=mk [95]),← (by decide +kernel:so " "=mk [32]),← (by decide +kernel:so "~"=mk [126]),← (by decide +kernel:so "/"=mk [47]),← (by decide +kernel:so "*"=mk [42]),← (by decide +kernel:so "!"=mk [33]),← (by decide +kernel:so ":"=mk [58]),← (by decide +kernel:so "@"=mk [64]),← (by decide +kernel:so "("=mk [40]),← (by decide +kernel:so "="=mk [61]),← (by decide +kernel:so "#"=mk [35])]
  walk_at "e"
noncomputable def woB (w:List Nat):Bool:=match w with
  | []=>false
  | c::r=>(c::r).all (fun d=>isC d&&d != 46)&&!isD c&&(c != 43&&c != 46&&c != 45&&c != 48)&&decide ((c::r).length≤5)
theorem wo_of {w:List Nat} (h:woB w=true):Wo w:=by
  cases w with
  | nil=>exact nof h
  | cons c r=>
    unfold woB at h
    simp only [Bool.and_eq_true,Bool.not_eq_true',bne_iff_ne,decide_eq_true_eq] at h
    exact ⟨wd_of nofun h.1.1.1,⟨c,r,rfl,h.1.1.2,⟨h.1.2.1.1.1,h.1.2.1.1.2,h.1.2.1.2⟩,h.1.2.2⟩,h.2⟩
theorem words_wo:wordsN.all woB=true:=by decide +kernel
noncomputable def odB (w:List Nat):Bool:=match w with
  | [c]=>!isS c&&!isD c&&(c != 46&&c != 10)&&decide (c < 128)
  | _=>false
theorem odd_od:oddN.all odB=true:=by decide +kernel
theorem od_get {w:List Nat} (h:odB w=true):∃ c,w=[c]∧isS c=false∧isD c=false∧c≠46∧c < 128∧c≠10:=by
  match w,h with
  | [c],h=>
    unfold odB at h
    simp only [Bool.and_eq_true,Bool.not_eq_true',bne_iff_ne,decide_eq_true_eq] at h
    exact ⟨c,rfl,h.1.1.1,h.1.1.2,h.1.2.1,h.2,h.1.2.2⟩
end
local macro_rules | `(tactic| walk_at "z")=>`(tactic| (k_dflt ((try simp only [List.length_append,List.length_cons,List.length_nil]);lia)))
local macro_rules | `(tactic| walk_at "c")=>`(tactic| with_reducible first | exact dotS | exact dashS | exact plusS | exact q0S | exact qnS | exact q7S | exact q5S | exact qvS | exact qd0S | exact qd7S | exact q01S | exact qppS)
local macro_rules | `(tactic| walk_at "e")=>`(tactic| with_reducible first | (apply ev_ck;walk_at "c";kernel_rfl) | (apply ev_ifb;walk_at "te";walk_at "e";walk_at "e"))
local macro_rules | `(tactic| walk_at "p")=>`(tactic| with_reducible first | (apply p_addL;walk_at "z") | exact p_absI | (apply p_pow;kernel_rfl))
section
variable {P:Params} {n:Nat} {st:Bool}
noncomputable abbrev scL:PySem.Scope:=fScope (top1 19)
noncomputable def forBody:Stmt→List Stmt
  | .For _ _ b _ _=>b
  | _=>[]
theorem grb4 {a b c d:Bool} (ha:a=true) (hb:b=true) (hc:c=true) (hd:d=true):(a&&b&&c&&d)=true:=by rw [ha,hb,hc,hd];rfl
noncomputable def wOf (p:Nat×Int):List Nat:=List.replicate p.1 48++dz p.2
structure PartOk (p:Nat×Int):Prop where
  z:p.1≤2
  i:0≤p.2∧p.2 < 10 ^ 20
theorem PartOk.len {p:Nat×Int} (h:PartOk p):(wOf p).length≤22:=by
  have:=dz_len h.i
  have:=h.z
  unfold wOf
  rw [List.length_append,List.length_replicate];lia
theorem parts_len2 {ps:List (Nat×Int)} (h:∀ p∈ps,PartOk p):(joinL 46 (ps.map wOf)).length≤23*ps.length:=by
  have h1:=joinL_len (c:=46) (ps.map wOf)
  have h2:((ps.map wOf).map List.length).sum≤22*ps.length:=by
    clear h1
    induction ps with
    | nil=>exact Nat.le_refl _
    | cons p r ih=>
      have:=ih fun q hq=>h q (.tail _ hq)
      have:=(h p (.head _)).len
      rw [List.map_cons,List.map_cons,List.sum_cons,List.length_cons];lia
  rw [List.length_map] at h1
  lia
noncomputable abbrev frL (ts:List Int) (ps:List (Nat×Int)):Bnd:=[(so "text",.str (mk (joinL 46 (ps.map wOf)))),(so "numbers",.own),(so "told",.list (ts.map .int))]
theorem nums_loop {ts:List Int} (h7:ts.length=7):∀ (j k N:Nat) (ps:List (Nat×Int)) (fm:Fm),ps.length=k→k+j≤3→j+20≤N→(∀ p∈ps,PartOk p)→Fr scL (vr 479) (frL ts ps) [] (some (.list (ps.map fun p=>.int p.2))) fm →
    FO (KF P) (callAt (KF P) n) N false fm (so "k") ((List.range' k j).map fun k=>PV.int (k:Nat)) (forBody (nthS (fBody (top1 19)) 2)) fun sr=>∃ f,sr=.nx f∧∃ ps':List (Nat×Int),ps'.length=k+j∧(∀ p∈ps',PartOk p)∧Fr scL (vr 479) (frL ts ps') [] (some (.list (ps'.map fun p=>.int p.2))) f:=by
  intro j
  induction j with
  | zero=>
    intro k N ps fm hk Z hN hp F
    obtain ⟨m,rfl⟩:=Nat.exists_eq_add_of_le' hN
    exact fo_nil ⟨_,rfl,ps,hk,hp,F⟩
  | succ j ih=>
    intro k N ps fm hk h3 hN hp F
    obtain ⟨m,rfl⟩:=Nat.exists_eq_add_of_le' hN
    show FO _ _ (m+j+20+1) _ _ _ (PV.int (k:Nat)::(List.range' (k+1) j).map fun k=>PV.int (k:Nat)) _ _
    refine fo_cons F (by kernel_rfl) fun fm F=>?_
    have hlt:k+1 < ts.length:=by lia
    have hix:∀ fm:Fm,idxE fm (.list (ts.map .int)) (.int ((k:Nat)+1))=some (.ok (.int ts[k+1])):=fun fm=>idx_get (k:=((k:Nat):Int)+1) (by lia) (by rw [List.getElem?_map,show (((k:Nat):Int)+1).toNat=k+1 by lia,List.getElem?_eq_getElem hlt];rfl)
    generalize ts[k+1]=t at hix
    conv=>arg 6;whnf
    have h1:=hix fm
    have hi0:=fmod0 (x:=(if t < 0 then -t else t).fdiv 3) (k:=10 ^ Int.toNat 20) (by decide)
    refine xs_app (ls:=ps.map fun p=>.int p.2) (by walk_at "n") F (by walk_at "e") (grb4 (decide_eq_true (by rw [List.length_map];lia)) (by kernel_rfl) (by kernel_rfl) rfl) fun fm F=>?_
    have hi:0≤((if t < 0 then -t else t).fdiv 3).fmod (10 ^ Int.toNat 20)∧((if t < 0 then -t else t).fdiv 3).fmod (10 ^ Int.toNat 20) < 10 ^ 20:=hi0
    generalize ((if t < 0 then -t else t).fdiv 3).fmod (10 ^ Int.toNat 20)=i at *
    clear hi0 h1
    have h1:=hix fm
    have hz:=fmod0 (x:=if t < 0 then -t else t) (k:=3) (by decide)
    have hmul:binE fm .Mult (.str (mk [48])) (.int ((if t < 0 then -t else t).fmod 3))=some (.ok (.str (mk (List.replicate ((if t < 0 then -t else t).fmod 3).toNat 48)))):=p_mulC hz.1 (by lia)
    have hzl:(List.replicate ((if t < 0 then -t else t).fmod 3).toNat 48).length≤2:=by rw [List.length_replicate];lia
    have hix2:idxE fm .own (.int (k:Nat))=some (.ok (.int i)):=idx_own F (Int.natCast_nonneg k) (by rw [Int.toNat_natCast,List.getElem?_append_right (by rw [List.length_map,hk];exact Nat.le_refl _),List.length_map,hk,Nat.sub_self];rfl)
    have hstr:=p_strI (K:=KF P) (C:=callAt (KF P) n) (st:=false) (fm:=fm) hi.1 (Int.lt_trans hi.2 (by decide)) (dz_dec hi).e (Nat.le_trans (dz_len hi) (by decide))
    have hg:(if decide (((k:Nat):Int) > 0)=true then ([46]:List Nat) else []).length≤1:=by split<;>decide
    have hil:=dz_len hi
    have hpl:=parts_len2 hp
    have hp2:∀ p∈ps++[(((if t < 0 then -t else t).fmod 3).toNat,i)],PartOk p:=fun p hp'=>by
      rcases List.mem_append.mp hp' with q | q
      · exact hp p q
      · rw [List.mem_singleton.mp q];exact ⟨by show _≤2;lia,hi⟩
    have ht:joinL 46 (ps.map wOf)++(if decide (((k:Nat):Int) > 0)=true then ([46]:List Nat) else [])++List.replicate ((if t < 0 then -t else t).fmod 3).toNat 48++dz i=joinL 46 ((ps++[(((if t < 0 then -t else t).fmod 3).toNat,i)]).map wOf):=by
      rw [List.map_append]
      show _=joinL 46 (ps.map wOf++[List.replicate ((if t < 0 then -t else t).fmod 3).toNat 48++dz i])
      by_cases h0:k=0
      · have:ps=[]:=List.eq_nil_of_length_eq_zero (hk.trans h0)
        subst this
        subst h0
        rfl
      · rw [join_snoc (by intro e;apply h0;have:=congrArg List.length e;rw [List.length_map,hk] at this;exact this),if_pos (decide_eq_true (by lia))]
        simp
    refine xs_asg (v:=.str (mk (joinL 46 (ps.map wOf)++(if decide (((k:Nat):Int) > 0)=true then ([46]:List Nat) else [])++List.replicate ((if t < 0 then -t else t).fmod 3).toNat 48++dz i))) F (by kernel_rfl) (by walk_at "e") fun fm F=>xs_nil ?_
    rw [ht] at F
    have F2:Fr scL (vr 479) (frL ts (ps++[(((if t < 0 then -t else t).fmod 3).toNat,i)])) [] (some (.list ((ps++[(((if t < 0 then -t else t).fmod 3).toNat,i)]).map fun p=>.int p.2))) fm:=by
      rw [List.map_append (f:=fun p:Nat×Int=>PV.int p.2)]
      walk_at "m"
    obtain ⟨r,h2,f,rfl,ps',h3,h4⟩:=ih (k+1) (m+j+20) _ fm (by rw [List.length_append,hk];rfl) (by lia) (by lia) hp2 F2
    exact ⟨_,h2,f,rfl,ps',by lia,h4⟩
end
section
variable {P:Params} {n:Nat} {st:Bool}
section
variable {fm:Fm} {t0 t1 t2 t3 t4 t5 t6:Int}
noncomputable abbrev toldL (t0 t1 t2 t3 t4 t5 t6:Int):PV:=.list [.int t0,.int t1,.int t2,.int t3,.int t4,.int t5,.int t6]
theorem told0:idxE fm (toldL t0 t1 t2 t3 t4 t5 t6) (.int 0)=some (.ok (.int t0)):=rfl
theorem told4:idxE fm (toldL t0 t1 t2 t3 t4 t5 t6) (.int 4)=some (.ok (.int t4)):=rfl
theorem told5:idxE fm (toldL t0 t1 t2 t3 t4 t5 t6) (.int 5)=some (.ok (.int t5)):=rfl
theorem told6:idxE fm (toldL t0 t1 t2 t3 t4 t5 t6) (.int 6)=some (.ok (.int t6)):=rfl
end
theorem uncons {α:Type} {n:Nat} {l:List α} (h:l.length=n+1):∃ a t,l=a::t∧t.length=n:=by
  induction l using List.casesOn with
  | nil=>cases h
  | cons a t=>exact ⟨a,t,rfl,Nat.succ.inj h⟩
theorem seven {l:List Int} (h:l.length=7):∃ t0 t1 t2 t3 t4 t5 t6,l=[t0,t1,t2,t3,t4,t5,t6]:=by
  obtain ⟨a,l1,rfl,h1⟩:=uncons h
  obtain ⟨b,l2,rfl,h2⟩:=uncons h1
  obtain ⟨c,l3,rfl,h3⟩:=uncons h2
  obtain ⟨d,l4,rfl,h4⟩:=uncons h3
  obtain ⟨e,l5,rfl,h5⟩:=uncons h4
  obtain ⟨f,l6,rfl,h6⟩:=uncons h5
  obtain ⟨g,l7,rfl,h7⟩:=uncons h6
  obtain rfl:=List.eq_nil_of_length_eq_zero h7
  exact ⟨a,b,c,d,e,f,g,rfl⟩
theorem FO.mono {K:Frag} {C:CallSem} {fm:Fm} {x l b} {Q Q':SR→Prop} (h:FO K C n st fm x l b Q) (k:∀ r,Q r→Q' r):FO K C n st fm x l b Q':=let ⟨r,e,q⟩:=h;⟨r,e,k r q⟩
noncomputable def retTrue (r:SR):Prop:=∃ f,r=.rt (.bool true) f
theorem law_a {ns:List Int} (hn:ns.length≤63) {fm:Fm} (F:Fr scL (vr 479) [(so "script",.list (ns.map .int))] [] none fm)
    (k:∀ t0 t1 t2 t3 t4 t5 t6 (ps:List (Nat×Int)) fm,ps≠[]→ps.length≤3→(∀ p∈ps,PartOk p)→Fr scL (vr 479) [(so "text",.str (mk (joinL 46 (ps.map wOf)))),(so "numbers",.own),(so "told",toldL t0 t1 t2 t3 t4 t5 t6)] [] (some (.list (ps.map fun p=>.int p.2))) fm→XS (KF P) (callAt (KF P) n) 197 false fm ((fBody (top1 19)).drop 3) retTrue):
    XS (KF P) (callAt (KF P) n) 200 false fm (fBody (top1 19)) retTrue:=by
  obtain ⟨t0,t1,t2,t3,t4,t5,t6,ht⟩:=seven (l:=(ns++[0,0,0,0,0,0,0]).take 7) (by rw [List.length_take,List.length_append];show min 7 (_+7)=7;lia)
  have hadd:binE fm .Add (.list (ns.map .int)) (.list [.int 0,.int 0,.int 0,.int 0,.int 0,.int 0,.int 0])=some (.ok (.list ((ns++[0,0,0,0,0,0,0]).map .int))):=by
    rw [p_add_lst (by rw [List.length_map];show _+7≤_;unfold lenLine;lia),List.map_append];rfl
  have hsl:sliceE fm (.list ((ns++[0,0,0,0,0,0,0]).map .int)) none (some (.int 7))=some (.ok (toldL t0 t1 t2 t3 t4 t5 t6)):=by
    refine (p_lslice (k:=7) ?_).trans ?_
    · rw [List.length_map,List.length_append];show 7≤_+7;lia
    · rw [← List.map_take,ht];rfl
  conv=>arg 6;whnf
  refine xs_asg (v:=toldL t0 t1 t2 t3 t4 t5 t6) F (by kernel_rfl) (by walk_at "e") fun fm F=>?_
  refine xs_newPair (v:=.str (mk [])) F (by kernel_rfl) (by kernel_rfl) (by walk_at "e") fun fm F=>?_
  have hm:=fmod0 (x:=t0) (k:=3) (by decide)
  have hr:=told0 (fm:=fm) (t0:=t0) (t1:=t1) (t2:=t2) (t3:=t3) (t4:=t4) (t5:=t5) (t6:=t6)
  refine xs_for (L:=rangeL (1+t0.fmod 3)) (by kernel_rfl) (it_range (by walk_at "n") (by kernel_rfl) (by walk_at "e") (by rw [decide_eq_true (by lia),decide_eq_true (by lia)];rfl)) ?_
  have e:=nums_loop (P:=P) (n:=n) (ts:=[t0,t1,t2,t3,t4,t5,t6]) rfl (1+t0.fmod 3).toNat 0 196 [] fm rfl (by lia) (by lia) (fun Z h=>nomatch h) (show Fr scL (vr 479) [(so "text",.str (mk [])),(so "numbers",.own),(so "told",toldL t0 t1 t2 t3 t4 t5 t6)] [] (some (.list [])) fm by walk_at "f")
  unfold rangeL
  rw [List.range_eq_range']
  refine FO.mono e ?_
  rintro sr ⟨f,rfl,ps,h1,h2,F'⟩
  exact k t0 t1 t2 t3 t4 t5 t6 ps f (fun e=>by rw [e] at h1;have h1:0=0+(1+t0.fmod 3).toNat:=h1;lia) (by rw [h1];lia) h2 F'
noncomputable abbrev frB (T w sg hy f:List Nat) (oc:Nat) (wy mr:Int) (td:PV):Bnd:=[(so "figure",.str (mk f)),(so "signs",.str (mk sg)),(so "hyphens",.str (mk hy)),(so "word",.str (mk w)),(so "odd",.str (mk [oc])),(so "way",.int wy),(so "more",.int mr),(so "early",wl []),(so "built",wl []),(so "text",.str (mk T)),(so "numbers",.own),(so "told",td)]
theorem law_b {t0 t1 t2 t3 t4 t5 t6:Int} {T:List Nat} {ls:List PV} {fm:Fm} (F:Fr scL (vr 479) [(so "text",.str (mk T)),(so "numbers",.own),(so "told",toldL t0 t1 t2 t3 t4 t5 t6)] [] (some (.list ls)) fm)
    (k:∀ w sg hy f oc wy mr fm,Wo w→Od sg hy→sg≠[]→(Wd f∧f.length≤3)→(isD oc=false∧oc < 128∧oc≠10)→Fr scL (vr 479) (frB T w sg hy f oc wy mr (toldL t0 t1 t2 t3 t4 t5 t6)) [] (some (.list ls)) fm→XS (KF P) (callAt (KF P) (n+1)) 192 false fm ((fBody (top1 19)).drop 8) retTrue):
    XS (KF P) (callAt (KF P) (n+1)) 197 false fm ((fBody (top1 19)).drop 3) retTrue:=by
  conv=>arg 6;whnf
  refine xs_pair (vs:=[wl [],wl []]) (ns:=[so "early",so "built"]) F (by kernel_rfl) (by kernel_rfl) (by kernel_rfl) (ev_tup (es_cons (by kernel_rfl) (ev_lst es_nil rfl) (es_cons (by kernel_rfl) (ev_lst es_nil rfl) es_nil)) rfl) fun fm F=>?_
  change Fr _ _ [(so "early",wl []),(so "built",wl []),(so "text",.str (mk T)),(so "numbers",.own),(so "told",toldL t0 t1 t2 t3 t4 t5 t6)] _ _ _ at F
  have hr:=told4 (fm:=fm) (t0:=t0) (t1:=t1) (t2:=t2) (t3:=t3) (t4:=t4) (t5:=t5) (t6:=t6)
  refine xs_swp (vs:=[.int (t4.fmod 5),.int ((t4.fdiv 5).fmod 4)]) (ns:=[so "way",so "more"]) F (by kernel_rfl) (by kernel_rfl) (by kernel_rfl) (by walk_at "e") fun fm F=>?_
  change Fr _ _ [(so "way",.int (t4.fmod 5)),(so "more",.int ((t4.fdiv 5).fmod 4)),_,_,_,_,_] _ _ _ at F
  clear hr
  generalize t4.fmod 5=wy at F
  generalize (t4.fdiv 5).fmod 4=mr at F
  have hr5:=told5 (fm:=fm) (t0:=t0) (t1:=t1) (t2:=t2) (t3:=t3) (t4:=t4) (t5:=t5) (t6:=t6)
  have hr6:=told6 (fm:=fm) (t0:=t0) (t1:=t1) (t2:=t2) (t3:=t3) (t4:=t4) (t5:=t5) (t6:=t6)
  have hws:=words_ok (P:=P) (n:=n) (st:=false)
  have hos:=odd_ok (P:=P) (n:=n) (st:=false)
  have m5:=fmod0 (x:=t5) (k:=6) (by decide)
  have m6:=fmod0 (x:=t6) (k:=11) (by decide)
  have m2:=fmod0 (x:=t6.fdiv 11) (k:=2) (by decide)
  obtain ⟨w,hw,hwi⟩:=idx_wl (ws:=wordsN) m5.1 m5.2
  obtain ⟨o,ho,hoi⟩:=idx_wl (ws:=oddN) m6.1 m6.2
  have hwi:=hwi fm
  have hoi:=hoi fm
  have Hw:=wo_of (List.all_eq_true.mp words_wo w hw)
  obtain ⟨oc,rfl,o1,o2,o3,o4,o5⟩:=od_get (List.all_eq_true.mp odd_od o ho)
  refine xs_swp (vs:=[.str (mk w),.str (mk [oc]),.int (1+(t6.fdiv 11).fmod 2)]) (ns:=[so "word",so "odd",so "times"]) F (by kernel_rfl) (by kernel_rfl) (by kernel_rfl) (by walk_at "e") fun fm F=>?_
  change Fr _ _ [(so "word",.str (mk w)),(so "odd",.str (mk [oc])),(so "times",.int (1+(t6.fdiv 11).fmod 2)),_,_,_,_,_,_,_] _ _ _ at F
  clear hr5 hr6 hws hos hwi hoi m5 m6
  have hj:0≤1+(t6.fdiv 11).fmod 2∧1+(t6.fdiv 11).fmod 2≤2∧1+(t6.fdiv 11).fmod 2≠0:=by lia
  clear m2
  generalize 1+(t6.fdiv 11).fmod 2=j at *
  have x1:binE fm .Mult (.str (mk [oc])) (.int j)=some (.ok (.str (mk (List.replicate j.toNat oc)))):=p_mulC hj.1 hj.2.1
  have x2:binE fm .Mult (.str (mk [45])) (.int j)=some (.ok (.str (mk (List.replicate j.toNat 45)))):=p_mulC hj.1 hj.2.1
  have Ho:=od_of (m:=j.toNat) o1 o2 o3 o4 o5 (by lia)
  have Hn:List.replicate j.toNat oc≠[]:=fun e=>by have:=congrArg List.length e;rw [List.length_replicate] at this;have:j.toNat=0:=this;lia
  refine xs_swp (vs:=[.str (mk (List.replicate j.toNat oc)),.str (mk (List.replicate j.toNat 45))]) (ns:=[so "signs",so "hyphens"]) F (by kernel_rfl) (by kernel_rfl) (by kernel_rfl) (by walk_at "e") fun fm F=>?_
  change Fr _ _ [(so "signs",.str (mk (List.replicate j.toNat oc))),(so "hyphens",.str (mk (List.replicate j.toNat 45))),_,_,_,_,_,_,_,_,_,_] _ _ _ at F
  clear x1 x2
  generalize List.replicate j.toNat oc=sg at *
  generalize List.replicate j.toNat 45=hy at *
  have hr5:=told5 (fm:=fm) (t0:=t0) (t1:=t1) (t2:=t2) (t3:=t3) (t4:=t4) (t5:=t5) (t6:=t6)
  have hf:=fmod0 (x:=(if t5 < 0 then -t5 else t5).fdiv 18) (k:=1000) (by decide)
  have hfl:(dz (((if t5 < 0 then -t5 else t5).fdiv 18).fmod 1000)).length≤3:=dec_len (by decide) (by have:=hf.2;lia)
  have hstr:=p_strI (K:=KF P) (C:=callAt (KF P) (n+1)) (st:=false) (fm:=fm) hf.1 (Int.lt_trans hf.2 (by decide)) (dz_dec ⟨hf.1,Int.lt_trans hf.2 (by decide)⟩).e (Nat.le_trans hfl (by decide))
  refine xs_asg F (by kernel_rfl) (by walk_at "e") fun fm F=>?_
  clear hstr hr5
  generalize ((if t5 < 0 then -t5 else t5).fdiv 18).fmod 1000=fi at *
  refine k w sg hy (dz fi) oc wy mr fm Hw Ho Hn ⟨wd_dz,hfl⟩ ⟨o2,o4,o5⟩ ?_
  walk_at "m"
end
section
variable {P:Params} {n:Nat} {st:Bool}
theorem od_nil:Od [] []:=⟨rfl,(fun Z h=>nomatch h),(fun Z Z e=>nomatch e),(fun Z Z e=>nomatch e),(fun Z h=>nomatch h),Nat.zero_le _,fun h=>absurd rfl h⟩
theorem od_dash:Od [45] [45]:=⟨by decide +kernel,(fun c h=>List.mem_singleton.mp h),noD_hd sep_at.2.1,(fun c r e=>by cases e;decide),(fun c h=>by rw [List.mem_singleton.mp h];decide),by decide,fun Z=>⟨rfl,nofun⟩⟩
theorem glue {sg hy:List Nat} {t:Int} (o:Od sg hy) (h0:0 < t) (h4:t < 4):∃ g g',Od g g'∧(∀ fm:Fm,idxE fm (.list [.str (mk []),.str (mk []),.str (mk [45]),.str (mk sg)]) (.int t)=some (.ok (.str (mk g))))∧(∀ fm:Fm,idxE fm (.list [.str (mk []),.str (mk []),.str (mk [45]),.str (mk hy)]) (.int t)=some (.ok (.str (mk g')))):=by
  have:t=1∨t=2∨t=3:=by lia
  rcases this with rfl | rfl | rfl
  · exact ⟨_,_,od_nil,(fun Z=>rfl),fun Z=>rfl⟩
  · exact ⟨_,_,od_dash,(fun Z=>rfl),fun Z=>rfl⟩
  · exact ⟨_,_,o,(fun Z=>rfl),fun Z=>rfl⟩
theorem three_in {p:List Nat→Prop} {a b c:List Nat} (h:p a) (k:p b) (m:p c):∀ w∈[a,b,c],p w:=fun w hw=>by
  rcases List.mem_cons.mp hw with q | q
  · rw [q];exact h
  · exact two_in k m w q
theorem figures {f:List Nat} {q:Int} (hf:Wd f) (fl:f.length≤3) (h0:0≤q) (h3:q < 3):∃ xs x,(∀ fm:Fm,sliceE fm (.list [.str (mk f),.str (mk ([48]++f)),.str (mk [55])]) none (some (.int (1+q)))=some (.ok (wl (xs++[x]))))∧(∀ w∈xs++[x],Wd w)∧(joinL 46 (xs++[x])).length≤10∧xs.length≤2 ∧
    (∀ fm:Fm,sliceE fm (wl (xs++[x])) none (some (.int (-1)))=some (.ok (wl xs)))∧(∀ fm:Fm,idxE fm (wl (xs++[x])) (.int (-1))=some (.ok (.str (mk x)))):=by
  have:q=0∨q=1∨q=2:=by lia
  rcases this with rfl | rfl | rfl
  · exact ⟨[],f,(fun Z=>rfl),one_in hf,Nat.le_trans fl (by decide),by decide,(fun Z=>rfl),fun Z=>rfl⟩
  · refine ⟨[f],[48]++f,(fun Z=>rfl),two_in hf (wd0.app hf),?_,Nat.le_of_ble_eq_true rfl,(fun Z=>by kernel_rfl),fun Z=>rfl⟩
    show (f++46::([48]++f)).length≤10
    simp;lia
  · refine ⟨[f,[48]++f],[55],(fun Z=>rfl),three_in hf (wd0.app hf) wd7,?_,Nat.le_of_ble_eq_true rfl,(fun Z=>by kernel_rfl),fun Z=>rfl⟩
    show (f++46::([48]++f++46::[55])).length≤10
    simp;lia
noncomputable abbrev frC (T w sg hy f:List Nat) (oc:Nat) (mr:Int) (e b:List (List Nat)):Bnd:=[(so "text",.str (mk T)),(so "early",wl e),(so "built",wl b),(so "figure",.str (mk f)),(so "signs",.str (mk sg)),(so "hyphens",.str (mk hy)),(so "word",.str (mk w)),(so "odd",.str (mk [oc])),(so "more",.int mr),(so "numbers",.own)]
theorem law_c {t0 t1 t2 t3 t4 t5 t6:Int} {T w sg hy f:List Nat} {oc:Nat} {wy mr:Int} {ls:List PV} {fm:Fm} (Hw:Wo w) (Ho:Od sg hy) (Hn:sg≠[]) (Hf:Wd f∧f.length≤3) (hT:T.length≤70)
    (F:Fr scL (vr 479) (frB T w sg hy f oc wy mr (toldL t0 t1 t2 t3 t4 t5 t6)) [] (some (.list ls)) fm)
    (k:∀ A e b fm,WayOk (decide (ls.length=3)) A e b→Fr scL (vr 479) (frC (T++A) w sg hy f oc mr e b) [] (some (.list ls)) fm→XS (KF P) (callAt (KF P) n) 191 false fm ((fBody (top1 19)).drop 9) retTrue):
    XS (KF P) (callAt (KF P) n) 192 false fm ((fBody (top1 19)).drop 8) retTrue:=by
  conv=>arg 6;whnf
  have wl5:=Hw.len
  have sl2:=Ho.len
  have hl2:=Ho.hlen
  have fl3:=Hf.2
  refine xs_ifM (tb:=wy==1&&((ls.length:Nat):Int)==3) (fun fm=>∃ A e b,WayOk (decide (ls.length=3)) A e b∧Fr scL (vr 479) (frC (T++A) w sg hy f oc mr e b) [] (some (.list ls)) fm) ?_ ?_ ?_
  · have hlen:=len_own (K:=KF P) (C:=callAt (KF P) n) (st:=false) F
    exact te_and2 (te_cmp (v:=.bool (wy==1)) (by kernel_rfl) (by walk_at "e") (by walk_at "e") (by walk_at "p") rfl) fun Z=>te_cmp (v:=.bool (((ls.length:Nat):Int)==3)) (by kernel_rfl) (by walk_at "e") (by walk_at "e") (by walk_at "p") rfl
  · by_cases h1:(wy==1&&((ls.length:Nat):Int)==3)=true
    · rw [h1]
      have h3:ls.length=3:=by
        have:=beq_iff_eq.mp (and_tt h1).2
        lia
      rw [decide_eq_true h3]
      clear h1 h3
      have q3:=fmod0 (x:=t5.fdiv 6) (k:=3) (by decide)
      obtain ⟨xs,x,hsl,hwd,hjl,hxl,hdrop,hlast⟩:=figures (q:=(t5.fdiv 6).fmod 3) Hf.1 fl3 q3.1 q3.2
      have hsl:=hsl fm
      have hr5:=told5 (fm:=fm) (t0:=t0) (t1:=t1) (t2:=t2) (t3:=t3) (t4:=t4) (t5:=t5) (t6:=t6)
      refine xs_asg (v:=wl (xs++[x])) F (by kernel_rfl) (by walk_at "e") fun fm F=>?_
      clear hsl hr5 q3
      have hj:=r_joinL (C:=callAt (KF P) n) (st:=false) (GW_of hwd (Nat.le_trans hjl (by decide)))
      rw [dotS] at hj
      refine xs_asg (v:=.str (mk (T++[46]++joinL 46 (xs++[x])))) F (by kernel_rfl) (by walk_at "e") fun fm F=>?_
      clear hj
      have q4:=fmod0 (x:=t6.fdiv 22) (k:=4) (by decide)
      have hr6:=told6 (fm:=fm) (t0:=t0) (t1:=t1) (t2:=t2) (t3:=t3) (t4:=t4) (t5:=t5) (t6:=t6)
      have hgt:=p_gt (K:=KF P) (C:=callAt (KF P) n) (st:=false) (x:=(t6.fdiv 22).fmod 4) (y:=0)
      refine xs_if (tb:=decide ((t6.fdiv 22).fmod 4 > 0)) (te_cmp (v:=.bool (decide ((t6.fdiv 22).fmod 4 > 0))) (by kernel_rfl) (by walk_at "e") (by walk_at "e") hgt rfl) ?_
      by_cases hq:(t6.fdiv 22).fmod 4 > 0
      · rw [decide_eq_true hq]
        obtain ⟨g,g',og,hg1,hg2⟩:=glue (t:=(t6.fdiv 22).fmod 4) Ho hq q4.2
        have hg1:=hg1 fm
        have gl:=og.len
        refine xs_asg (v:=.str (mk (T++[46]++joinL 46 (xs++[x])++g++w))) F (by kernel_rfl) (by walk_at "e") fun fm F=>?_
        clear hg1 hr6 hgt
        have hr6:=told6 (fm:=fm) (t0:=t0) (t1:=t1) (t2:=t2) (t3:=t3) (t4:=t4) (t5:=t5) (t6:=t6)
        have hg2:=hg2 fm
        have hdrop:=hdrop fm
        have hlast:=hlast fm
        have gl':=og.hlen
        have hx:x.length≤10:=Nat.le_trans (joinL_part (c:=46) (ws:=xs++[x]) (by simp)) hjl
        have hadd:binE fm .Add (wl xs) (.list [.str (mk (x++g'++w))])=some (.ok (wl (xs++[x++g'++w]))):=p_add_wl (b:=[x++g'++w]) (by show xs.length+1≤1000;lia)
        refine xs_asg (v:=wl (xs++[x++g'++w])) F (by kernel_rfl) (by walk_at "e") fun fm F=>?_
        refine xs_nil (xs_nil ⟨_,_,_,way1b hwd hjl og Hw,?_⟩)
        rw [show T++46::(joinL 46 (xs++[x])++(g++w))=T++[46]++joinL 46 (xs++[x])++g++w by simp]
        walk_at "m"
      · rw [decide_eq_false hq]
        refine xs_nil (xs_nil ⟨_,_,_,way1 (by simp) hwd hjl,?_⟩)
        rw [show T++46::joinL 46 (xs++[x])=T++[46]++joinL 46 (xs++[x]) by simp]
        walk_at "m"
    rw [Bool.eq_false_iff.mpr h1]
    clear h1
    refine xs_if (tb:=wy==2) (te_cmp (v:=.bool (wy==2)) (by kernel_rfl) (by walk_at "e") (by walk_at "e") (by walk_at "p") rfl) ?_
    by_cases h2:(wy==2)=true
    · rw [h2]
      refine xs_asg (v:=wl [w++hy++f,[48]]) F (by kernel_rfl) (show EV _ _ _ _ _ _ (.list [.str (mk (w++hy++f)),.str (mk [48])]) by walk_at "e") fun fm F=>?_
      refine xs_asg F (by kernel_rfl) (by walk_at "e") fun fm F=>?_
      refine xs_nil (xs_nil ⟨_,_,_,way2 Ho Hw Hf.1 fl3,?_⟩)
      rw [show T++45::(w++(sg++(f++[46,48])))=T++[45]++w++sg++f++[46,48] by simp]
      walk_at "m"
    rw [Bool.eq_false_iff.mpr h2]
    clear h2
    refine xs_if (tb:=wy==3) (te_cmp (v:=.bool (wy==3)) (by kernel_rfl) (by walk_at "e") (by walk_at "e") (by walk_at "p") rfl) ?_
    by_cases h3:(wy==3)=true
    · rw [h3]
      refine xs_asg (v:=wl [w]) F (by kernel_rfl) (show EV _ _ _ _ _ _ (.list [.str (mk w)]) by walk_at "e") fun fm F=>?_
      refine xs_asg F (by kernel_rfl) (by walk_at "e") fun fm F=>?_
      exact xs_nil (xs_nil (xs_nil ⟨_,_,_,way3 Hw,by walk_at "m"⟩))
    rw [Bool.eq_false_iff.mpr h3]
    clear h3
    refine xs_if (tb:=wy==4) (te_cmp (v:=.bool (wy==4)) (by kernel_rfl) (by walk_at "e") (by walk_at "e") (by walk_at "p") rfl) ?_
    by_cases h4:(wy==4)=true
    · rw [h4]
      refine xs_asg (v:=wl [hy++w,[55]]) F (by kernel_rfl) (show EV _ _ _ _ _ _ (.list [.str (mk (hy++w)),.str (mk [55])]) by walk_at "e") fun fm F=>?_
      refine xs_asg F (by kernel_rfl) (by walk_at "e") fun fm F=>?_
      refine xs_nil (xs_nil (xs_nil (xs_nil ⟨_,_,_,way4 Ho Hn Hw,?_⟩)))
      rw [show T++(sg++45::(w++[46,55]))=T++sg++[45]++w++[46,55] by simp]
      walk_at "m"
    rw [Bool.eq_false_iff.mpr h4]
    refine xs_nil (xs_nil (xs_nil (xs_nil ⟨[],[],[],way0,?_⟩)))
    rw [List.append_nil]
    walk_at "m"
  rintro fm ⟨A,e,b,hA,F⟩
  exact k A e b fm hA F
end
section
variable {P:Params} {n:Nat} {st:Bool}
noncomputable abbrev frD (T w:List Nat) (oc:Nat) (e b:List (List Nat)):Bnd:=[(so "text",.str (mk T)),(so "early",wl e),(so "built",wl b),(so "word",.str (mk w)),(so "odd",.str (mk [oc])),(so "numbers",.own)]
theorem law_d {T w sg hy f:List Nat} {oc:Nat} {mr:Int} {e b:List (List Nat)} {ls:List PV} {fm:Fm} (Hw:Wo w) (Ho:Od sg hy) (Hf:Wd f∧f.length≤3) (hT:T.length≤100) (hb:∀ u∈b,Wd u) (hbl:(joinL 46 b).length≤20)
    (F:Fr scL (vr 479) (frC T w sg hy f oc mr e b) [] (some (.list ls)) fm)
    (k:∀ B bm fm,MoreOk B bm→Fr scL (vr 479) (frD (T++B) w oc e (b++bm)) [] (some (.list ls)) fm→XS (KF P) (callAt (KF P) n) 189 false fm ((fBody (top1 19)).drop 11) retTrue):
    XS (KF P) (callAt (KF P) n) 191 false fm ((fBody (top1 19)).drop 9) retTrue:=by
  conv=>arg 6;whnf
  have wl5:=Hw.len
  have sl2:=Ho.len
  have hl2:=Ho.hlen
  have fl3:=Hf.2
  have gb:=(GW_of hb (Nat.le_trans hbl (by decide))).len
  refine xs_ifM (tb:=decide (mr > 0)) (fun fm=>Fr scL (vr 479) (frC (T++(if mr > 0 then 43::(w++46::(sg++[53])) else [])) w sg hy f oc mr e (b++(if mr > 0 then [w,hy++[53]] else []))) [] (some (.list ls)) fm) (te_cmp (v:=.bool (decide (mr > 0))) (by kernel_rfl) (by walk_at "e") (by walk_at "e") p_gt rfl) ?_ ?_
  · by_cases h:mr > 0
    · rw [decide_eq_true h,if_pos h,if_pos h]
      have hadd:binE fm .Add (wl b) (.list [.str (mk w),.str (mk (hy++[53]))])=some (.ok (wl (b++[w,hy++[53]]))):=p_add_wl (b:=[w,hy++[53]]) (by show b.length+2≤1000;lia)
      refine xs_asg (v:=.str (mk (T++[43]++w++[46]++sg++[53]))) F (by kernel_rfl) (by walk_at "e") fun fm F=>?_
      have hadd:binE fm .Add (wl b) (.list [.str (mk w),.str (mk (hy++[53]))])=some (.ok (wl (b++[w,hy++[53]]))):=p_add_wl (b:=[w,hy++[53]]) (by show b.length+2≤1000;lia)
      refine xs_asg (v:=wl (b++[w,hy++[53]])) F (by kernel_rfl) (by walk_at "e") fun fm F=>xs_nil ?_
      rw [show T++43::(w++46::(sg++[53]))=T++[43]++w++[46]++sg++[53] by simp]
      walk_at "m"
    · rw [decide_eq_false h,if_neg h,if_neg h,List.append_nil,List.append_nil]
      exact xs_nil (by walk_at "m")
  clear F
  intro fm F
  refine xs_ifM (tb:=decide (mr > 1)) (fun fm=>∃ B bm,MoreOk B bm∧Fr scL (vr 479) (frD (T++B) w oc e (b++bm)) [] (some (.list ls)) fm) (te_cmp (v:=.bool (decide (mr > 1))) (by kernel_rfl) (by walk_at "e") (by walk_at "e") p_gt rfl) ?_ ?_
  · by_cases h:mr > 1
    · have h0:mr > 0:=by lia
      rw [if_pos h0,if_pos h0] at F
      rw [decide_eq_true h]
      have hl:(T++43::(w++46::(sg++[53]))).length≤120:=by simp;lia
      refine xs_asg (v:=.str (mk (T++43::(w++46::(sg++[53]))++[43,48,49,43]++f))) F (by kernel_rfl) (by walk_at "e") fun fm F=>?_
      have hadd:binE fm .Add (wl (b++[w,hy++[53]])) (.list [.str (mk [48,49]),.str (mk f)])=some (.ok (wl (b++[w,hy++[53]]++[[48,49],f]))):=p_add_wl (b:=[[48,49],f]) (by rw [List.length_append];show b.length+2+2≤1000;lia)
      refine xs_asg (v:=wl (b++[w,hy++[53]]++[[48,49],f])) F (by kernel_rfl) (by walk_at "e") fun fm F=>xs_nil ⟨_,_,more2 Ho Hw Hf.1 fl3,?_⟩
      rw [show T++(43::(w++46::(sg++[53]))++(43::48::49::43::f))=T++43::(w++46::(sg++[53]))++[43,48,49,43]++f by simp,← List.append_assoc]
      walk_at "m"
    · rw [decide_eq_false h]
      by_cases h0:mr > 0
      · rw [if_pos h0,if_pos h0] at F
        exact xs_nil ⟨_,_,more1 Ho Hw,by walk_at "m"⟩
      · rw [if_neg h0,if_neg h0] at F
        exact xs_nil ⟨_,_,more0,by walk_at "m"⟩
  rintro fm ⟨B,bm,hB,F⟩
  exact k B bm fm hB F
end
section
theorem optj_jo {c:Nat} {ws:List (List Nat)}:optj c ws=opt c (jo ws):=by cases ws<;>rfl
theorem str_comp {i j k:Int} {e b:List (List Nat)}:strOf5 (dz i) (dz j) (dz k) e b=comp5 (vx i j k e b):=by
  unfold strOf5
  rw [optj_jo,optj_jo];rfl
theorem strip_wOf (p:Nat×Int):strip0 (wOf p)=dz p.2:=strip_dec
theorem nums3 {ps:List (Nat×Int)} (hne:ps≠[]) (h3:ps.length≤3) (h:∀ p∈ps,PartOk p):∃ i j k:Int,(0≤i∧i < 10 ^ 20)∧(0≤j∧j < 10 ^ 20)∧(0≤k∧k < 10 ^ 20)∧(ps.map (fun p:Nat×Int=>PV.int p.2)++[PV.int 0,PV.int 0]).take 3=[PV.int i,PV.int j,PV.int k]∧(padTo (ps.map wOf)).map strip0=[dz i,dz j,dz k]:=by
  have z:(0:Int)≤0∧(0:Int) < 10 ^ 20:=by decide
  have s0:strip0 [48]=dz 0:=by decide +kernel
  revert h
  refine upto3 (P:=fun ps=>(∀ p∈ps,PartOk p)→∃ i j k:Int,(0≤i∧i < 10 ^ 20)∧(0≤j∧j < 10 ^ 20)∧(0≤k∧k < 10 ^ 20)∧(ps.map (fun p:Nat×Int=>PV.int p.2)++[PV.int 0,PV.int 0]).take 3=[PV.int i,PV.int j,PV.int k]∧(padTo (ps.map wOf)).map strip0=[dz i,dz j,dz k]) hne h3 ?_ ?_ ?_
  · intro p h
    exact ⟨p.2,0,0,(h p (.head _)).i,z,z,rfl,by show [strip0 (wOf p),strip0 [48],strip0 [48]]=_;rw [strip_wOf,s0]⟩
  · intro p q h
    exact ⟨p.2,q.2,0,(h p (.head _)).i,(h q (.tail _ (.head _))).i,z,rfl,by show [strip0 (wOf p),strip0 (wOf q),strip0 [48]]=_;rw [strip_wOf,strip_wOf,s0]⟩
  · intro p q r h
    exact ⟨p.2,q.2,r.2,(h p (.head _)).i,(h q (.tail _ (.head _))).i,(h r (.tail _ (.tail _ (.head _)))).i,rfl,by show [strip0 (wOf p),strip0 (wOf q),strip0 (wOf r)]=_;rw [strip_wOf,strip_wOf,strip_wOf]⟩
theorem wOf_dig (p:Nat×Int):wOf p≠[]∧(wOf p).all isD=true∧∀ c∈wOf p,c < 128∧c≠10:=by
  have hd:=dec_dig p.2.toNat
  refine ⟨by unfold wOf;intro e;exact dec_ne _ (List.append_eq_nil_iff.mp e).2,?_,fun c hc=>?_⟩
  · unfold wOf
    rw [List.all_append,show (dz p.2).all isD=true from dec_isD _,Bool.and_true,List.all_eq_true]
    intro c hc
    rw [List.eq_of_mem_replicate hc];decide +kernel
  · rcases List.mem_append.mp hc with q | q
    · rw [List.eq_of_mem_replicate q];decide
    · have:=hd c q;lia
theorem wOf_in {ps:List (Nat×Int)}:∀ w∈ps.map wOf,w≠[]∧w.all isD=true:=fun w hw=>by
  obtain ⟨p,Z,rfl⟩:=List.mem_map.mp hw
  exact ⟨(wOf_dig p).1,(wOf_dig p).2.1⟩
theorem nums_asc {ps:List (Nat×Int)}:∀ c∈joinL 46 (ps.map wOf),c < 128∧c≠10:=fun c hc=>by
  rcases joinL_mem hc with rfl | ⟨w,hw,hc⟩
  · decide
  · obtain ⟨p,Z,rfl⟩:=List.mem_map.mp hw
    exact (wOf_dig p).2.2 c hc
theorem way_good {i j k:Int} {t:Bool} {A B:List Nat} {e b bm:List (List Nat)} (hi:0≤i∧i < 10 ^ 20) (hj:0≤j∧j < 10 ^ 20) (hk:0≤k∧k < 10 ^ 20) (W:WayOk t A e b) (M:MoreOk B bm):Good i j k e (b++bm):=by
  obtain ⟨g,Z,D⟩:=M.sub
  have h1:=W.lb
  have h2:=M.lb
  refine ⟨hi,hj,hk,W.fe,fun w hw=>?_,Nat.le_trans W.le (by decide),?_⟩
  · rcases List.mem_append.mp hw with q | q
    · exact W.fb w q
    · exact D.w w q
  · cases b with
    | nil=>exact Nat.le_trans h2 (by decide)
    | cons x r=>
      cases bm with
      | nil=>rw [List.append_nil];exact Nat.le_trans h1 (by decide)
      | cons y s=>
        rw [join_app (List.cons_ne_nil y s) (List.cons_ne_nil x r),List.length_append,List.length_cons]
        lia
theorem way_tail {t:Bool} {A B:List Nat} {e b bm:List (List Nat)} (W:WayOk t A e b) (M:MoreOk B bm):tailOf (sub2 (A++B))=sfx e (b++bm):=by
  obtain ⟨g,h,D⟩:=M.sub
  rw [sub2_app,h]
  exact W.tail g bm D
end
section
variable {P:Params} {n:Nat} {st:Bool}
theorem tg_co {fm:Fm}:tgtOf (KF P) fm (.glob (.ref 448)) (Str.ofString "coerce")=some (.cm 448 317):=by kernel_rfl
theorem wrong_loop {m:Option MO}:∀ (us:List (List Nat)) (N:Nat) (fm:Fm),us.length+20≤N→(∀ u∈us,NoD u∧gd (mk u)=true)→Fr scL (vr 479) [] [] m fm →
    FO (KF P) (callAt (KF P) (n+1)) N false fm (so "wrong") (us.map fun u=>PV.str (mk u)) (forBody (nthS (fBody (top1 19)) 16)) fun sr=>∃ f,sr=.nx f:=by
  intro us
  induction us with
  | nil=>
    intro N fm hN Z Z
    obtain ⟨k,rfl⟩:=Nat.exists_eq_add_of_le' hN
    exact fo_nil ⟨_,rfl⟩
  | cons u r ih=>
    intro N fm hN hu F
    rw [List.length_cons] at hN
    obtain ⟨k,rfl⟩:=Nat.exists_eq_add_of_le' hN
    obtain ⟨h1,h2⟩:=hu u (.head _)
    refine fo_cons (n:=k+r.length+20) F (by kernel_rfl) fun fm F=>?_
    conv=>arg 6;whnf
    have hc:runT (callAt (KF P) (n+1)) false (Str.ofString "coerce") (.cm 448 317) [.str (mk u)] []=some .exc:=m1_bad h2 (m1_no h1)
    refine xs_asg (v:=.bool false) F (by kernel_rfl) (by walk_at "e") fun fm F=>?_
    refine xs_tryM (fun fm=>Fr scL (vr 479) [(so "refused",.bool true)] [] m fm) ?_ ?_
    · have tp:=tg_co (P:=P) (fm:=fm)
      refine xs_exprMX (v:=.glob (.ref 448)) (by walk_at "n") rfl (by walk_at "e") ⟨by walk_at "n",rfl,?_⟩
      obtain ⟨f',q,F'⟩:=plain_asg (cc:=.bool true) (x:=so "refused") (v:=.bool true) F (by kernel_rfl) rfl
      exact ⟨f',q _ _ _ _,by walk_at "m"⟩
    clear F
    intro fm F
    refine xs_if_f (te_not (b:=true) (te_val (v:=.bool true) (by kernel_rfl) (by walk_at "e") rfl)) (xs_nil ?_)
    exact ih (k+r.length+20) fm (by lia) (fun v hv=>hu v (.tail _ hv)) F.nil
theorem law_f {T w:List Nat} {oc:Nat} {m:Option MO} {fm:Fm} (Hw:Wo w) (Hoc:isD oc=false∧oc < 128∧oc≠10) (hT:∀ c∈T,c < 128∧c≠10) (hl:T.length≤200)
    (F:Fr scL (vr 479) [(so "text",.str (mk T)),(so "word",.str (mk w)),(so "odd",.str (mk [oc]))] [] m fm):XS (KF P) (callAt (KF P) (n+1)) 184 false fm ((fBody (top1 19)).drop 16) retTrue:=by
  conv=>arg 6;whnf
  have wl5:=Hw.len
  refine xs_for (L:=[[],[118]++T,[46]++T,w++T,[oc]++T,[45]++T,[43]++T].map fun u=>PV.str (mk u)) (by kernel_rfl)
    (it_val (v:=.tup [.str (mk []),.str (mk ([118]++T)),.str (mk ([46]++T)),.str (mk (w++T)),.str (mk ([oc]++T)),.str (mk ([45]++T)),.str (mk ([43]++T))]) (by kernel_rfl) (by walk_at "e") rfl rfl) ?_
  refine FO.mono (wrong_loop _ 182 fm (Nat.le_of_ble_eq_true rfl) ?_ F.nil) ?_
  · have key:∀ a:List Nat,NoD a→a≠[]→(∀ c∈a,c < 128∧c≠10)→a.length≤5→NoD (a++T)∧gd (mk (a++T))=true:=fun a h hne ha hl2=>by
      refine ⟨?_,(gd_isS (app_asc ha hT) (by rw [List.length_append];lia)).1⟩
      cases a with
      | nil=>exact absurd rfl hne
      | cons c r=>exact fun d s e=>by cases e;exact h _ _ rfl
    have hd:∀ c,isD c=false→c < 128∧c≠10→NoD ([c]++T)∧gd (mk ([c]++T))=true:=fun c h1 h2=>key [c] (noD_hd h1) nofun (fun d hd=>by rw [List.mem_singleton.mp hd];exact h2) (Nat.le_of_ble_eq_true rfl)
    intro u hu
    simp only [List.mem_cons,List.not_mem_nil,or_false] at hu
    rcases hu with rfl | rfl | rfl | rfl | rfl | rfl | rfl
    · exact ⟨(fun Z Z e=>nomatch e),by decide +kernel⟩
    · exact hd 118 (by decide +kernel) (by decide)
    · exact hd 46 sep_at.1 (by decide)
    · obtain ⟨c,r,q,h,Z⟩:=Hw.hd
      exact key w (by rw [q];exact noD_hd h) Hw.wd.ne Hw.wd.asc wl5
    · exact hd oc Hoc.1 Hoc.2
    · exact hd 45 sep_at.2.1 (by decide)
    · exact hd 43 sep_at.2.2 (by decide)
  rintro sr ⟨f,rfl⟩
  exact xs_ret (v:=.bool true) (by walk_at "e") ⟨_,rfl⟩
end
section
variable {P:Params} {n:Nat} {st:Bool}
theorem law_e {ps:List (Nat×Int)} {A B w:List Nat} {oc:Nat} {e b bm:List (List Nat)} {fm:Fm} (hne:ps≠[]) (h3:ps.length≤3) (hps:∀ p∈ps,PartOk p) (W:WayOk (decide ((ps.map fun p=>PV.int p.2).length=3)) A e b) (M:MoreOk B bm) (Hw:Wo w) (Hoc:isD oc=false∧oc < 128∧oc≠10)
    (F:Fr scL (vr 479) (frD (joinL 46 (ps.map wOf)++A++B) w oc e (b++bm)) [] (some (.list (ps.map fun p=>.int p.2))) fm):
    XS (KF P) (callAt (KF P) (n+4)) 189 false fm ((fBody (top1 19)).drop 11) retTrue:=by
  conv=>arg 6;whnf
  obtain ⟨i,j,k,hi,hj,hk,htk,hpad⟩:=nums3 hne h3 hps
  have hadd:binE fm .Add .own (.list [.int 0,.int 0])=some (.ok (.list ((ps.map fun p=>PV.int p.2)++[.int 0,.int 0]))):=add_own F (by rw [List.length_map];show _+2≤_;unfold lenLine;lia)
  have hsl:sliceE fm (.list ((ps.map fun p=>PV.int p.2)++[.int 0,.int 0])) none (some (.int 3))=some (.ok (.list [.int i,.int j,.int k])):=by
    rw [← htk]
    refine p_lslice (k:=3) ?_
    rw [List.length_append,List.length_map]
    have:0 < ps.length:=List.length_pos_iff.mpr hne
    show 3≤_+2
    lia
  refine xs_asg (v:=.list [.int i,.int j,.int k]) F (by kernel_rfl) (by walk_at "e") fun fm F=>?_
  clear hadd hsl htk
  have G:=way_good hi hj hk W M
  have ix:∀ fm:Fm,idxE fm (.list [.int i,.int j,.int k]) (.int 0)=some (.ok (.int i))∧idxE fm (.list [.int i,.int j,.int k]) (.int 1)=some (.ok (.int j))∧idxE fm (.list [.int i,.int j,.int k]) (.int 2)=some (.ok (.int k)):=fun Z=>⟨rfl,rfl,rfl⟩
  obtain ⟨gs,V0,hv⟩:=ver_parts (P:=P) (n:=n+1) (i:=i) (j:=j) (k:=k) G.ge G.gb G.be G.bu (.inl rfl) (.inl rfl)
  have i1:=(ix fm).1
  have i2:=(ix fm).2.1
  have i3:=(ix fm).2.2
  refine xs_asg (v:=.inst 448 gs) F (by kernel_rfl) (by walk_at "e") fun fm F=>?_
  clear i1 i2 i3 hv
  have hA:=W.len
  have hB:=M.len
  have hpl:=parts_len2 hps
  have hl:(joinL 46 (ps.map wOf)++A++B).length≤200:=by rw [List.length_append,List.length_append];lia
  have hasc:∀ c∈joinL 46 (ps.map wOf)++A++B,c < 128∧c≠10:=app_asc (app_asc nums_asc W.asc) M.asc
  obtain ⟨fs,V,hc⟩:=g_coerce (P:=P) (n:=n) G (ws:=ps.map wOf) (s:=A++B) (by simp [hne]) (by rw [List.length_map];exact h3) wOf_in (W.noD.app M.noD) (by
    rcases W.h46 with h | h
    · exact .inl (by have:=of_decide_eq_true h;rw [List.length_map] at this ⊢;exact this)
    · exact .inr (ne46_app h M.h46)) hpad (way_tail W M) (by rw [← List.append_assoc];exact (gd_isS hasc (by lia)).1) (by rw [← List.append_assoc];lia)
  rw [← List.append_assoc] at hc
  have tp:=tg_co (P:=P) (fm:=fm)
  have hr:runT (callAt (KF P) (n+4)) false (Str.ofString "coerce") (.cm 448 317) [.str (mk (joinL 46 (ps.map wOf)++A++B))] []=some (.ok (.inst 448 fs)):=hc
  refine xs_asg (v:=.inst 448 fs) F (by kernel_rfl) (by walk_at "e") fun fm F=>?_
  clear tp hr hc hpad
  generalize joinL 46 (ps.map wOf)++A++B=T at *
  generalize b++bm=u at *
  replace F:Fr scL (vr 479) [(so "found",.inst 448 fs),(so "due",.inst 448 gs),(so "numbers",.list [.int i,.int j,.int k]),(so "early",wl e),(so "built",wl u),(so "text",.str (mk T)),(so "word",.str (mk w)),(so "odd",.str (mk [oc]))] [] (some (.list (ps.map fun p=>.int p.2))) fm:=by walk_at "m"
  have li:∀ fm:Fm,callB (KF P) (callAt (KF P) (n+4)) false fm (.type "list") [.inst 448 fs]=some (.ok (.list [.int i,.int j,.int k,wt e,wt u])):=fun fm=>lst_inst V
  have c2:cmpE (KF P) (callAt (KF P) (n+4)) false .NotEq (.list [.int i,.int j,.int k,wt e,wt u]) (.list [.int i,.int j,.int k,wt e,wt u])=some (.ok (.bool false)):=(p_lst5 G.ge G.gb G.ge G.gb).trans (by rw [same_refl];rfl)
  have q1:cmpE (KF P) (callAt (KF P) (n+4)) false .Eq (.inst 448 fs) (.inst 448 gs)=some (.ok (.bool true)):=p_eq_inst ((eq_ok V V0 G.ge G.gb G.ge G.gb).trans (by rw [same_refl]))
  have l1:=li fm
  have i1:=(ix fm).1
  have i2:=(ix fm).2.1
  have i3:=(ix fm).2.2
  refine xs_if_f (te_or2 (b1:=false) (b2:=false) (te_cmp (a:=.list [.int i,.int j,.int k,wt e,wt u]) (b:=.list [.int i,.int j,.int k,wt e,wt u]) (v:=.bool false) (by kernel_rfl) (by walk_at "e") (by walk_at "e") c2 rfl) fun Z=>te_not (b:=true) (te_cmp (a:=.inst 448 fs) (b:=.inst 448 gs) (v:=.bool true) (by kernel_rfl) (by walk_at "e") (by walk_at "e") q1 rfl)) ?_
  clear i1 i2 i3 q1 ix
  have st1:callAt (KF P) (n+4) false 366 [.inst 448 fs] []=some (.ok (.str (mk (comp5 (vx i j k e u))))):=by rw [← str_comp];exact str_ok V (dz_dec hi) (dz_dec hj) (dz_dec hk) G.ge G.gb
  have si:=str_inst (P:=P) (fm:=fm) st1
  have hval:=g_valid (P:=P) (n:=n+1) G
  obtain ⟨fs2,V2,hc2⟩:=g_again (P:=P) (n:=n) G
  have tp:=tg_co (P:=P) (fm:=fm)
  have hr2:runT (callAt (KF P) (n+4)) false (Str.ofString "coerce") (.cm 448 317) [.str (mk (comp5 (vx i j k e u)))] []=some (.ok (.inst 448 fs2)):=hc2
  obtain ⟨fs3,V3,hv3,Z⟩:=g_ver (P:=P) (n:=n+1) G
  have l2:callB (KF P) (callAt (KF P) (n+4)) false fm (.type "list") [.inst 448 fs2]=some (.ok (.list [.int i,.int j,.int k,wt e,wt u])):=lst_inst V2
  have l3:callB (KF P) (callAt (KF P) (n+4)) false fm (.type "list") [.inst 448 fs3]=some (.ok (.list [.int i,.int j,.int k,wt e,wt u])):=lst_inst V3
  refine xs_if_f (te_bool (ts_or (b:=false) (te_not (b:=true) (te_val (v:=.bool true) (by kernel_rfl) (by walk_at "e") rfl)) (fun Z=>
    ts_or (b:=false) (te_cmp (a:=.list [.int i,.int j,.int k,wt e,wt u]) (b:=.list [.int i,.int j,.int k,wt e,wt u]) (v:=.bool false) (by kernel_rfl) (by walk_at "e") (by walk_at "e") c2 rfl) (fun Z=>
    ts_or (b:=false) (te_cmp (a:=.list [.int i,.int j,.int k,wt e,wt u]) (b:=.list [.int i,.int j,.int k,wt e,wt u]) (v:=.bool false) (by kernel_rfl) (by walk_at "e") (by walk_at "e") c2 rfl) (fun Z=>ts_nil) id) id) id)) ?_
  exact law_f Hw Hoc hasc hl (by walk_at "m")
theorem law_ok {ns:List Int} (hn:ns.length≤63):callAt (KF P) (n+5) false 480 [.list (ns.map .int)] []=some (.ok (.bool true)):=by
  refine fn_ret' (C:=callAt (KF P) (n+4)) (N:=200) (sc:=scL) (cd:=vr 479) (l:=[(so "script",.list (ns.map .int))]) (ss:=fBody (top1 19)) (by kernel_rfl) rfl fun fm F=>?_
  refine law_a hn F fun t0 t1 t2 t3 t4 t5 t6 ps fm hne h3 hps F=>law_b F fun w sg hy f oc wy mr fm Hw Ho Hn Hf Hoc F=>?_
  have hpl:=parts_len2 hps
  refine law_c Hw Ho Hn Hf (by lia) F fun A e b fm W F=>?_
  have hA:=W.len
  exact law_d Hw Ho Hf (by rw [List.length_append];lia) W.fb W.lb F fun B bm fm M F=>law_e hne h3 hps W M Hw Hoc F
end
section
set_option tactic.hygienic true
set_option maxHeartbeats 0
theorem l_said:OpenLaw.wellSaid PySem.Challenge.rw_lh0063_02=true:=by kernel_rfl
theorem lookup_app {K L:Frag} {a:Addr} {o:Obj} (h:K.lookup a=some o):(K++L).lookup a=some o:=by
  induction K with
  | nil=>cases h
  | cons p K ih=>
    obtain ⟨b,u⟩:=p
    rw [List.cons_append,List.lookup_cons]
    rw [List.lookup_cons] at h
    induction hb:(a==b) with
    | true=>rw [hb] at h;exact h
    | false=>rw [hb] at h;exact ih h
theorem KF_of_KH {P:Params} {h:Heap} (x:(KH P).In h):(KF P).In h:=fun a o e=>x a o (by
  have:KH P=KF P++[312,383].map fun a=>(a,objAt P a):=by unfold KH KF keysH;rw [List.map_append]
  rw [this];exact lookup_app e)
theorem tab_of {P:Params} {h:Heap} (x:(KH P).In h):TabI h:=by
  have h1:=x 387 (q389 P) (by kernel_rfl)
  have h2:=x 383 (q385 P) (by kernel_rfl)
  have h3:=x 316 (q318 P) (by kernel_rfl)
  have h4:=x 312 (q314 P) (by kernel_rfl)
  intro p hp
  simp only [T,List.mem_cons,List.not_mem_nil,or_false] at hp
  rcases hp with rfl | rfl
  · exact ⟨#[],⟨_,_,_,_,_,_,_,_,_,_,h1,by rfl,by rfl,by rfl,by rfl,by rfl,by rfl,h2,by rfl,trivial,by decide⟩,⟨⟨_,_,h1,by rfl,by rfl,by rfl⟩,h2⟩⟩
  · exact ⟨#[],⟨_,_,_,_,_,_,_,_,_,_,h3,by rfl,by rfl,by rfl,by rfl,by rfl,by rfl,h4,by rfl,trivial,by decide⟩,⟨⟨_,_,h3,by rfl,by rfl,by rfl⟩,h4⟩⟩
theorem apart_of {P:Params}:∀ b,isT b→(KF P).lookup b=none∧b≠builtinsNs∧b≠cStatics:=by
  rintro b ⟨p,hp,rfl⟩
  simp only [T,List.mem_cons,List.not_mem_nil,or_false] at hp
  rcases hp with rfl | rfl
  · exact ⟨by kernel_rfl,by decide,by decide⟩
  · exact ⟨by kernel_rfl,by decide,by decide⟩
theorem ns_some_of {K:Frag} {h:Heap} {N:Addr} {mg:PySem.Str→Option PySem.Value} {n:PySem.Str} {v:PySem.Value} (X:K.In h) (G:h.Ns N mg) (e:nsIn K N n=some (some v)):mg n=some v:=by
  obtain ⟨o,es,ep,ho,hd,Z,hf⟩:=G
  unfold nsIn at e
  induction q:K.lookup N with
  | none=>rw [q] at e;cases e
  | some o'=>
    rw [q] at e
    obtain rfl:=Option.some.inj ((X _ _ q).symm.trans ho)
    obtain ⟨c,d,dt,sl⟩:=o'
    obtain rfl:dt=.dict es ep:=hd
    conv at e=>lhs;whnf
    rw [← hf]
    unfold nsFind findBy
    rw [← Array.find?_toList]
    induction he:es.toList.find? (fun e=>e.key.isStr n) with
    | some x=>rw [he] at e;obtain rfl:=Option.some.inj (Option.some.inj e);rfl
    | none=>rw [he] at e;replace e:(if _ then none else some none)=some (some v):=e;split at e<;>cases e
theorem sc1 (n:Nat):SC (callAt K0 n) n:=
  sc_all rx_ok (fun Z=>itr_ok) n
theorem claim0 (pure1:∀ P (ns:List Int),ns.length≤63→callAt (KF P) 20 false 480 [.list (ns.map .int)] []=some (.ok (.bool true))):Claim w0:=fun s₁ c cl mean args a vs ns KX hb hl hd hL hI hn hg hr hp=>
  wrap (by decide) (sc1 20) ⟨KF_of_KH KX,apart_of,(fun Z h=>nomatch h),hb,hl,hd,tab_of KX,fun c hc=>by
      simp only [gcodes,List.mem_cons,List.not_mem_nil,or_false] at hc
      rcases hc with rfl | rfl
      · exact ⟨_,.head _⟩
      · exact ⟨_,.tail _ (.head _)⟩⟩ (pure1 w0.params ns hn) hL hI hn hg hr hp
theorem hd1 (pure1:∀ P (ns:List Int),ns.length≤63→callAt (KF P) 20 false 480 [.list (ns.map .int)] []=some (.ok (.bool true))):PySem.Challenge.rw_lh0063_02.Holds:=by
  refine holds_law l_said fun said=>?_
  refine holds_open (q:=viewQ) (loose:=looseL) (Xt:=xtQ) (XP:=XL viewQ []) (Yf:=HK.obs) (Ya:=HK.val) (YP:=HK.says) (N:=7760) l_left (Hook.of HK) (Hook.keeps HK) (fun s e=>xl_of s (Bool.and_eq_true_iff.mp e).1) XL.keeps (by rfl) (by rfl) (by rfl) (fun s e=>recFacts_of (Bool.and_eq_true_iff.mp e).2) (by rfl) (by first | assumption | decide +kernel) (by decide +kernel) ⟨rfl,rfl,rfl,rfl,rfl,by decide +kernel⟩ ?hw ?hc
  case hw=>w_witness2
  case hc=>
    intro w s₀ s₁ mg mb G Y fa o pm cd doc dV kV ho hd hcd hD hmg hg args vals as hpre hlay hrd hwl hlo
    clear hd hD hcd
    have KX:=kIn_of Y
    have h480:fa=480:=by
      have q:=ns_some_of (n:=so "law") (v:=.ref 480) (KF_of_KH KX) G.T.g (by kernel_rfl)
      have q':mg (so "law")=some (.ref fa):=hmg
      cases q.symm.trans q'
      rfl
    subst h480
    clear hmg
    wrow_args hpre hlay hrd hwl hlo
    rename_i ns _ _ _ _ _ _ _ _ vs _ hL _ _ _ hI _ hlen _
    refine claim_of (claim0 pure1) w s₁ _ _ _ _ _ vs ns KX ⟨mb,G.T.b,G.T.builtins⟩ G.T.nolimit G.T.nodigits hL hI ?_ hg ?_ ?_
    · omega
    · intro _;rfl
    · wrow_post
end
end Mine
theorem PySem.Challenge.cw_lh0063_02_holds : PySem.Challenge.rw_lh0063_02.Holds := by
  exact Mine.hd1 (fun P ns hn => Mine.law_ok (n := 15) hn)
