/- The law FnIndexTable answers true for every input, and what came in reads behind the call as it read before (Rows.FnIndexTableCardSaid). Conditions: those of the given card alone, which ties the listed package variables to the program. Packed by a program of ours: short names, no remarks. -/
import Derived.ChangeSame
import Derived.Deep.Slices
import Derived.Defers
import Derived.KernelRfl
import Derived.Laws.AppendOwn
import Derived.Laws.IdiomRangeMap
import Derived.Laws.IdiomStrings
import Derived.Laws.OwnMore
import Derived.Laws.Pointers
import Derived.Laws.StructEq
import Derived.Lib.Bytealg
import Derived.Lib.ConvBytes
import Derived.Lib.SlBytesConst
import Derived.MapKept
import Derived.Orders
import Derived.Recover
import Derived.Shelf.Slices.In.SortNone
import Derived.Shelf.Slices.In.SortNone2
import Derived.Shelf.Small.Bits
import Derived.Shelf.Sort.Plain
import Derived.Sort.OwnSorted
import Derived.Sort.Walk0
import Derived.Tactics
import Derived.Tactics2
import Derived.Test.YtlhckhmoneeilaaGreatDoorProg
set_option linter.all false
set_option maxHeartbeats 4000000
set_option maxRecDepth 100000
set_option autoImplicit true
open Array renaming ext'→nG
open BitVec renaming ofInt→ql
open Go renaming Addr→kd,FuncId→fz,Oper→eg,Program→bU,TypeId→cK,Value→ay,World→ak,convert→dq,execOp→eE,undef→dU
open Go.Addr renaming add→aw
open Go.Builtin renaming append_→cM,copy_→mF
open Go.Instr renaming buildSlice→bw,lookup→dJ,makeMap→iM,makeSlice→kS,mapUpdate→fF,sliceAt→dw,sureAddr→oM
open Go.IntKind renaming i64→af
open Go.Region renaming wanted→qm
open Go.Result renaming andThen→iV
open Go.Sem renaming run_bind→nH
open List renaming length_cons→dH,mem_cons_of_mem→jI,mem_cons→dX,mem_filter→oN,mem_map→dt,replicate→jx
open Nat renaming eq_of_beq_eq_true→qk
open Option.some renaming inj→iW
namespace Go.V
section
abbrev Env:=Nat->ay
def jL(ρ:Env)(d:Nat)(v:ay):Env:=λ i=>cond (Nat.beq i d) v (ρ i)
def put(ρ:Env):Option Nat->ay->Env
 |some d,v=>jL ρ (d+1) v
 |none,_=>ρ
def ev(ρ:Env):Operand->ay
 | .tmp t=>ρ (t+1)
 | .const v=>v
 | .global g=> .pointer (some ⟨g,0,none⟩)
 | .func f=> .func (.func f) #[] #[]
theorem Eb(ρ:Env)(d:Nat)(v:ay):jL ρ d v d=v:=by simp[jL]
theorem Ec(ρ:Env){d i:Nat}(v:ay)(h:i≠d):jL ρ d v i=ρ i:=by
 have:Nat.beq i d=false:=by
  cases c:Nat.beq i d
  ·rfl
  ·exact absurd (qk c) h
 simp[jL,this]
theorem K3{ρ:Env}{d:Nat}{v:ay}(h:ρ d=v):ρ=jL ρ d v:=by
 funext i;by_cases e:i=d
 ·subst e;rw[Eb];exact h
 ·rw[Ec ρ v e]
def dl:Nat->Bool->ay->List Deferred
 |t,false, .pointer p=>[{target:= .fn (.func t) #[],args:=#[.pointer p]}]
 |t,true, .pointer p=>[{target:= .fn (.func t) #[.pointer p],args:=#[]}]
 |_,_,_=>[]
def nK:Option (Nat×Bool)->Env->List Deferred
 |none,_=>[]
 |some (t,c),ρ=>dl t c (ρ 0)
structure Ag(dm:Option (Nat×Bool))(a:Act)(n:Nat)(ρ:Env):Prop where
 size:a.tmps.size=n
 defers:a.defers=nK dm ρ
 get:∀i,a.tmps.getD i dU=ρ (i+1)
variable{dm:Option (Nat×Bool)}
theorem Ag.ev{a:Act}{n:Nat}{ρ:Env}(h:Ag dm a n ρ)(x:Operand):a.eval x=V.ev ρ x:=by
 cases x with
 |tmp t=>exact h.get t
 |_=>rfl
theorem Ag.qu{a:Act}{n:Nat}{ρ:Env}(h:Ag dm a n ρ):a.eval=V.ev ρ:=funext h.ev
theorem Ag.put{a:Act}{n:Nat}{ρ:Env}(h:Ag dm a n ρ){dst:Option Nat}(hd:∀d,dst=some d->d<n)(v:ay):
  Ag dm (a.put dst v) n (V.put ρ dst v):=by
 cases dst with
 |none=>exact h
 |some d=>
  have c:=hd d rfl;have r:nK dm (V.put ρ (some d) v)=nK dm ρ:=by
   cases dm with
   |none=>rfl
   |some x=>rfl
  refine⟨by simp[Act.put,h.size],h.defers.trans r.symm,λ i=> ?_⟩;by_cases e:i=d
  ·subst e;simp[Act.put,V.put,Eb,h.size,c]
  ·have q:d≠i:=λ x=>e x.symm
   have u:i+1≠d+1:=by omega
   have:=h.get i;simp[Act.put,V.put,Ec ρ v u,Array.getElem?_setIfInBounds_ne q] at this⊢;exact this
def kf(K:ay->ak->Prop):Ending->ak->Prop
 | .returned v,w=>K v w
 |_,_=>False
def au(P:bU)(f:fz)(args:Array ay)(w:ak)(K:ay->ak->Prop):Prop:=
 Calls P f args w (kf K)
def nM(P:bU):Sem Next->ak->(ay->ak->Prop)->Prop
 | .pure (.value v),w,K=>K v w
 | .pure .skip,w,K=>K dU w
 | .pure (.enter f args),w,K=>au P f args w K
 | .pure _,_,_=>False
 | .load _ a k,w,K=>∃v,w.cell? a=some v/\nM P (k v) w K
 | .store _ a v k,w,K=>((match v with| .agg _| .tuple _=>False|_=>True)/\(∃old,w.cell? a=some old)/\w.frozen? a=false)/\nM P k (w.setCell a v) K
 | .new o k,w,K=>nM P (k w.heap.size) (w.alloc o) K
 | .shape r k,w,K=>nM P (k (w.shape? r)) w K
 | .freeze a n k,w,K=>nM P k (w.freeze a n) K
 | .frozen a k,w,K=>nM P (k (w.frozen? a)) w K
 | .program k,w,K=>nM P (k P) w K
 | .mark _ k,w,K=>nM P k w K
 |_,_,_=>False
def ik(P:bU)(s:Sem Next)(w:ak)(K:ay->ak->Prop):Prop:=
 match s.run P w with
 | .ok (.value v) w'=>K v w'
 | .ok .skip w'=>K dU w'
 | .ok (.enter f args) w'=>au P f args w' K
 |_=>False
theorem K4{P:bU}{K:ay->ak->Prop}:∀(s:Sem Next) (w:ak),nM P s w K->ik P s w K:=by
 intro s;induction s with
 |pure a=>intro w h;cases a<;>first|exact h|exact h.elim
 |load m a k u=>
  intro w h;obtain⟨v,H,h⟩:=h;have:=u v w h;simpa[ik,Sem.run,H] using this
 |store m a v k u=>
  intro w h;obtain⟨⟨E,⟨old,G⟩,y⟩,h⟩:=h;have:=u _ h;cases v<;>first|exact E.elim|simpa[ik,Sem.run,G,y] using this
 |new o k u=>intro w h;exact u _ _ h
 |shape r k u=>intro w h;exact u _ _ h
 |freeze a n k u=>intro w h;exact u _ h
 |frozen a k u=>intro w h;exact u _ _ h
 |program k u=>intro w h;exact u _ _ h
 |mark m k u=>intro w h;exact u _ h
 |getObj r k u=>intro w h;exact h.elim
 |setObj r o k u=>intro w h;exact h.elim
 |choose q k u=>intro w h;exact h.elim
 |sys c k u=>intro w h;exact h.elim
 |halt x=>intro w h;exact h.elim
theorem Af{P:bU}{K q:ay->ak->Prop}(c:∀v w,K v w->q v w){s:Sem Next}{w:ak}(h:ik P s w K):ik P s w q:=by
 unfold ik at*;split at h
 ·exact c _ _ h
 ·exact c _ _ h
 ·exact Calls.mono h (λ e w' r=>by cases e<;>first|exact c _ _ r|exact r)
 ·exact h.elim
theorem Ed{P:bU}{o:eg}{a:Act}{next:Act->ak->Prop}{Q:Exit->Act->ak->Prop}{s:Sem Next}{w:ak}
  (h:ik P s w λ v w'=>next (a.put o.dst v) w'):o.upon P a next Q (s.run P w):=by
 unfold ik at h;split at h
 ·rename_i c;rw[c];exact h
 ·rename_i c;rw[c];exact h
 ·rename_i c;rw[c];exact Calls.mono h (λ e w' q=>by cases e<;>first|exact q|exact q.elim)
 ·exact h.elim
theorem K5{P:bU}{s:Sem ay}{w w':ak}{v:ay}{K:ay->ak->Prop}(h:s.run P w= .ok v w')(c:K v w'):
  ik P (do pure (.value (<-s))) w K:=by
 have:(do pure (.value (<-s)):Sem Next).run P w= .ok (.value v) w':=by
  simp[h]
 unfold ik;rw[this];exact c
def tree(P:bU):Sem Next->Option ay
 | .pure (.value v)=>some v
 | .program k=>tree P (k P)
 |_=>none
theorem Wj{P:bU}:∀(s:Sem Next) {v:ay},tree P s=some v->∀w,s.run P w= .ok (.value v) w:=by
 intro s;induction s with
 |pure a=>intro v h w;cases a<;>simp[tree] at h;subst h;rfl
 |program k c=>intro v h w;exact c P h w
 |_=>intro v h w;simp[tree] at h
def oX(P:bU)(s:Sem Next)(K:ay->Prop):Prop:=
 match tree P s with
 |some v=>K v
 |none=>False
inductive CT where
 |int (k:IntKind)|bool|float (k:FloatKind)|str|ptr|slice|map|any
def kg(P:bU)(t:cK):CT:=
 match P.underlying t with
 |some (.int k)=> .int k
 |some .bool=> .bool
 |some (.float k)=> .float k
 |some .string=> .str
 |some (.pointer _)=> .ptr
 |some (.slice _)=> .slice
 |some (.map _ _)=> .map
 |_=> .any
def vO(P:bU):Nat->cK->List CT
 |0,_=>[]
 |d+1,t=>
  match P.underlying t with
  |some (.struct c)=>c.toList.flatMap λ f=>vO P d f.type
  |some (.array n e)=>(jx n (vO P d e)).flatten
  |_=>[kg P t]
def nN(P:bU)(t:cK):Option Bool:=
 match P.underlying t with
 |some (.struct _)|some (.array _ _)=>some true
 |some _=>some false
 |none=>none
abbrev aD(k:IntKind)(E:ay->Prop)(K:Int->Prop):Prop:=∃n,E (.int k n)/\K n
abbrev aW(E:ay->Prop)(K:Bool->Prop):Prop:=∃b,E (.bool b)/\K b
abbrev Ee(k:FloatKind)(E:ay->Prop)(K:Nat->Prop):Prop:=∃b,E (.float k b)/\K b
abbrev bg(E:ay->Prop)(K:ByteArray->Prop):Prop:=∃s,E (.string s)/\K s
abbrev bf(E:ay->Prop)(K:Option kd->Prop):Prop:=∃p,E (.pointer p)/\K p
abbrev az(E:ay->Prop)(K:Option kd->Nat->Nat->Prop):Prop:=∃p l c,E (.slice p l c)/\K p l c
abbrev du(E:ay->Prop)(K:Option Nat->Prop):Prop:=∃r,E (.map r)/\K r
abbrev aM(E:ay->Prop)(K:ay->Prop):Prop:=∃v,E v/\K v
def lF:CT->(ay->Prop)->(ay->Prop)->Prop
 | .int k,E,K=>aD k E λ n=>K (.int k n)
 | .bool,E,K=>aW E λ b=>K (.bool b)
 | .float k,E,K=>Ee k E λ b=>K (.float k b)
 | .str,E,K=>bg E λ s=>K (.string s)
 | .ptr,E,K=>bf E λ p=>K (.pointer p)
 | .slice,E,K=>az E λ p l c=>K (.slice p l c)
 | .map,E,K=>du E λ r=>K (.map r)
 | .any,E,K=>aM E K
theorem vQ{c:CT}{E K:ay->Prop}(h:lF c E K):∃v,E v/\K v:=by
 cases c<;>simp only[lF,aD,aW,Ee,bg,bf,az,du,aM] at h
 case slice=>obtain⟨p,l,c,q,r⟩:=h;exact⟨_,q,r⟩
 all_goals obtain⟨x,q,r⟩:=h;exact⟨_,q,r⟩
def at_(w:ak)(a:kd)(v:ay):Prop:=w.cell? a=some v
def Ef(w:ak)(a:kd):List CT->Nat->(List ay->Prop)->Prop
 |[],_,K=>K []
 |c::cs,i,K=>lF c (at_ w (a.add i)) λ v=>Ef w a cs (i+1) λ vs=>K (v::vs)
def aK(w:ak)(a:kd):List ay->Nat->Prop->Prop
 |[],_,R=>R
 |v::vs,i,R=>at_ w (a.add i) v/\aK w a vs (i+1) R
theorem K6{w:ak}{a:kd}:∀{cs:List CT} {i:Nat} {K:List ay->Prop},Ef w a cs i K->∃vs,vs.length=cs.length/\aK w a vs i True/\K vs:=by
 intro cs;induction cs with
 |nil=>intro i K h;exact⟨[],rfl,trivial,h⟩
 |cons c cs y=>
  intro i K h;obtain⟨v,x,h⟩:=vQ h;obtain⟨vs,r,u,q⟩:=y h;exact⟨v::vs,by simp[r],⟨x,u⟩,q⟩
def tA(P:bU)(t:cK)(K:Nat->Prop):Prop:=
 match P.info? t with
 |some i=>K i.size
 |none=>False
def Eg:Nat:=12
def rG(P:bU)(t:cK)(v:ay)(w:ak)(K:ay->Prop):Prop:=
 match v with
 | .pointer (some a)=>
  match nN P t with
  |none=>False
  |some false=>lF (kg P t) (at_ w a) K
  |some true=>tA P t λ z=>match(vO P Eg t).length.beq z with
   |true=>Ef w a (vO P Eg t) 0 λ vs=>K (.agg ⟨vs⟩)
   |false=>False
 |_=>False
def gj:ay->Prop
 | .agg _| .tuple _=>False
 |_=>True
def can(w:ak)(a:kd):Prop:=(∃old,w.cell? a=some old)/\w.frozen? a=false
abbrev wr(w:ak)(a:kd)(v:ay)(K:ak->Prop):Prop:=(gj v/\can w a)/\K (w.setCell a v)
def Ah(w:ak)(a:kd):List ay->Nat->(ak->Prop)->Prop
 |[],_,K=>K w
 |v::vs,i,K=>wr w (a.add i) v λ w'=>Ah w' a vs (i+1) K
def Eh(P:bU)(t:cK)(p v:ay)(w:ak)(K:ak->Prop):Prop:=
 match p with
 | .pointer (some a)=>
  tA P t λ z=>match Nat.beq z 1,nN P t with
  |true,some false=>wr w a v K
  |_,_=>match v with
   | .agg cs=>match Nat.beq cs.size z with
    |true=>Ah w a cs.toList 0 K
    |false=>False
   |_=>False
 |_=>False
abbrev nn(p:Option kd)(K:kd->Prop):Prop:=
 match p with
 |some a=>K a
 |none=>False
def gk(P:bU)(v:ay)(K:ay->Prop):Prop:=
 match v with
 | .pointer p=>nn p λ a=>K (.pointer (some a))
 | .func (.method name) first captured=>
  match(first[0]? :Option ay) with
  |some x=>(∃t y,x= .iface t y/\∀w,(nilAhead (P.types.size+Made.depth) t y name).run P w= .ok (some false) w)/\K (.func (.method name) first captured)
  |none=>False
 | .func fn first captured=>K (.func fn first captured)
 | .iface t x=>K (.iface t x)
 |_=>False
def aU(p:Option kd)(len:Nat)(i:Int)(c:Nat)(K:kd->Prop):Prop:=
 (0<=i/\i<len)/\nn p λ a=>K (a.add (i.toNat*c))
inductive RT where
 |one (c:CT)
 |agg (cs:List CT)
def Ei(P:bU)(t:cK):RT:=
 match nN P t with
 |some true=> .agg (vO P Eg t)
 |_=> .one (kg P t)
def nO(P:bU)(t:cK):List RT:=
 match P.underlying t with
 |some (.tuple ts)=>ts.toList.map (Ei P)
 |_=>[Ei P t]
def Ej:CT->(ay->Prop)->Prop
 | .int k,F=>∃n:Int,F (.int k n)
 | .bool,F=>∃b:Bool,F (.bool b)
 | .float k,F=>∃b:Nat,F (.float k b)
 | .str,F=>∃s:ByteArray,F (.string s)
 | .ptr,F=>∃p:Option kd,F (.pointer p)
 | .slice,F=>∃(p:Option kd) (l c:Nat),F (.slice p l c)
 | .map,F=>∃r:Option Nat,F (.map r)
 | .any,F=>∃v:ay,F v
theorem Wk{c:CT}{F:ay->Prop}(h:Ej c F):∃v,F v:=by
 cases c<;>simp only[Ej] at h
 case slice=>obtain⟨p,l,c,h⟩:=h;exact⟨_,h⟩
 all_goals obtain⟨x,h⟩:=h;exact⟨_,h⟩
def Ek:List CT->(List ay->Prop)->(List ay->Prop)->Prop
 |[],E,K=>E []/\K []
 |c::cs,E,K=>Ej c λ v=>Ek cs (λ vs=>E (v::vs)) (λ vs=>K (v::vs))
theorem Wl:∀{cs:List CT} {E K:List ay->Prop},Ek cs E K->∃vs,E vs/\K vs:=by
 intro cs;induction cs with
 |nil=>intro E K h;exact⟨[],h⟩
 |cons c cs u=>
  intro E K h;obtain⟨v,h⟩:=Wk h;obtain⟨vs,q,r⟩:=u h;exact⟨v::vs,q,r⟩
def Ai:RT->(ay->Prop)->(ay->Prop)->Prop
 | .one c,E,K=>lF c E K
 | .agg cs,E,K=>Ek cs (λ vs=>E (.agg ⟨vs⟩)) (λ vs=>K (.agg ⟨vs⟩))
theorem Wm{c:RT}{E K:ay->Prop}(h:Ai c E K):∃v,E v/\K v:=by
 cases c with
 |one c=>exact vQ h
 |agg cs=>obtain⟨vs,q,r⟩:=Wl h;exact⟨_,q,r⟩
def ax(u v:ay):Prop:=u=v
abbrev cR(v:ay)(K:ay->ay->Prop):Prop:=∃x y,v= .tuple #[x,y]/\K x y
abbrev nQ(v:ay)(K:ay->ay->ay->Prop):Prop:=∃x y z,v= .tuple #[x,y,z]/\K x y z
abbrev Aj(v:ay)(K:ay->ay->ay->ay->Prop):Prop:=∃x y z u,v= .tuple #[x,y,z,u]/\K x y z u
def aB(t:Bool)(A B:Prop):Prop:=
 match t with
 |true=>A
 |false=>B
def l9:List RT->ay->(ay->Prop)->Prop
 |[c],v,K=>Ai c (ax v) K
 |[_,_],v,K=>cR v λ x y=>K (.tuple #[x,y])
 |[_,_,_],v,K=>nQ v λ x y z=>K (.tuple #[x,y,z])
 |[_,_,_,_],v,K=>Aj v λ x y z u=>K (.tuple #[x,y,z,u])
 |_,v,K=>K v
def nR(b:Bool)(k x:ay):ay:=
 match b with
 |true=> .tuple #[.bool true,k,x]
 |false=> .tuple #[.bool false]
def K7(v:ay)(K:ay->Prop):Prop:=
 ∃(b:Bool) (k x:ay),v=nR b k x/\aB b (K (.tuple #[.bool true,k,x])) (K (.tuple #[.bool false]))
theorem Wn{v:ay}{K:ay->Prop}(h:K7 v K):K v:=by
 obtain⟨b,k,x,rfl,h⟩:=h;cases b
 ·exact h
 ·exact h
theorem rH{c:CT}{v:ay}{K:ay->Prop}(h:lF c (ax v) K):K v:=by
 obtain⟨_,rfl,q⟩:=vQ h;exact q
theorem K8{c:RT}{v:ay}{K:ay->Prop}(h:Ai c (ax v) K):K v:=by
 obtain⟨_,rfl,q⟩:=Wm h;exact q
theorem rI{cs:List RT}{v:ay}{K:ay->Prop}(h:l9 cs v K):K v:=by
 unfold l9 at h;split at h
 ·exact K8 h
 ·obtain⟨x,y,rfl,h⟩:=h;exact h
 ·obtain⟨x,y,z,rfl,h⟩:=h;exact h
 ·obtain⟨x,y,z,u,rfl,h⟩:=h;exact h
 ·exact h
def eJ(P:bU)(fv:ay)(args:Array ay)(w:ak)(K:ay->ak->Prop):Prop:=
 ∃(f:fz) (c:Array ay),(do let d<-Deferred.ofValue fv args;invoke d.target d.args:Sem Next).run P w= .ok (.enter f c) w/\au P f c w K
def cS(P:bU)(recv:ay)(name:String)(args:Array ay)(w:ak)(K:ay->ak->Prop):Prop:=
 ∃(f:fz) (c:Array ay),(callMethod recv name args).run P w= .ok (.enter f c) w/\au P f c w K
abbrev aP(P:bU)(s:Sem ay)(w:ak)(K:ay->ak->Prop):Prop:=
 ∃v w',s.run P w= .ok v w'/\K v w'
abbrev bb(P:bU)(s:Sem ay)(K:ay->Prop):Prop:=
 ∃v,(∀w,s.run P w= .ok v w)/\K v
def K9(P:bU)(f:fz):Bool:=
 match P.funcs[f]? with
 |some fn=>fn.body.isSome&&!(fn.name== "runtime.NumGoroutine")
 |none=>false
def isConst:Operand->Bool
 | .const _=>true
 |_=>false
def K_:CT->Bool
 | .int _=>true
 |_=>false
def El(P:bU)(o:eg):Bool:=
 match o.op with
 | .move _| .assign _| .pick .. | .nilCheck _| .fieldAddr .. | .field .. | .unOp .. | .binOp .. | .extract .. | .makeInterface .. | .makeFunc .. | .build .. | .indexAddr .. | .index .. | .slice .. | .typeAssert .. =>true
 | .convert s d _=>K_ (kg P s)&&K_ (kg P d)
 | .call c=>match c.callee with
  | .builtin .len=>match c.argTypes.toList.map (kg P) with|[.map]=>false|_=>true
  | .builtin .cap| .builtin .max| .builtin .min=>true
  |_=>false
 |_=>false
def C2(op:BinOp)(t:cK)(x y:Operand)(u v:ay):Sem ay:=do eqGuard op t x y u v;binOp op t u v
abbrev a_(w:ak)(o:Obj)(K:Nat->ak->Prop):Prop:=K w.heap.size (w.alloc o)
def bR(k:IntKind)(x y:Int):Int:=k.wrap ((ql k.bits x&&&ql k.bits y).toNat:Nat)
def bE(k:IntKind)(x y:Int):Int:=k.wrap ((ql k.bits x|||ql k.bits y).toNat:Nat)
def gC(k:IntKind)(x y:Int):Int:=k.wrap ((ql k.bits x^^^ql k.bits y).toNat:Nat)
def aoC(k:IntKind)(x y:Int):Int:=k.wrap ((ql k.bits x&&& ~~~ql k.bits y).toNat:Nat)
def bu(k:IntKind)(x y:Int):Int:=k.wrap (x*2^min y.toNat k.bits)
def cZ(k:IntKind)(x y:Int):Int:=x.fdiv (2^min y.toNat k.bits)
def fI(v:ay)(R:Prop):Prop:=
 match v with
 | .agg _=>False
 | .tuple _=>False
 |_=>R
def Wo(P:bU)(t:cK)(i:Nat):Bool:=
 match P.underlying t with
 |some (.struct c)=>match c[i]? with
  |some f=>nN P f.type==some false
  |none=>false
 |some (.array _ e)=>nN P e==some false
 |_=>false
def vR(P:bU)(t:cK):List (Nat×ay)->(List (Nat×ay)->Prop)->Prop
 |[],K=>K []
 |(i,v)::rest,K=>
  match Wo P t i with
  |true=>fI v (vR P t rest λ c=>K ((i, .agg #[v])::c))
  |false=>match v with
   | .agg cs=>vR P t rest λ c=>K ((i, .agg cs)::c)
   |_=>False
def Ak(P:bU)(ρ:Operand->ay)(o:eg)(K:ay->Prop):Prop:=
 match o.op with
 | .move x| .assign x=>K (ρ x)
 | .nilCheck x=>gk P (ρ x) K
 | .indexAddr t x i=>
  match P.underlying t,ρ x,ρ i with
  |some (.slice e), .slice p len _, .int _ n=>tA P e λ z=>aU p len n z λ a=>K (.pointer (some a))
  |some (.array len e), .pointer (some a), .int _ n=>tA P e λ z=>(0<=n/\n<len)/\K (.pointer (some (a.add (n.toNat*z))))
  |_,_,_=>False
 | .index t x i=>
  match P.underlying t,ρ x,ρ i with
  |some .string, .string s, .int _ n=>(0<=n/\n<s.size)/\K (.int .u8 (s.data.getD n.toNat 0).toNat)
  |_,_,_=>oX P (eE ρ o) K
 | .binOp op t x y _=>
  match kg P t with
  | .int _=>
   match op,ρ x,ρ y,isConst y with
   | .shl, .int k a, .int _ b,false=>0<=b/\K (.int k (bu k a b))
   | .shr, .int k a, .int _ b,false=>0<=b/\K (.int k (cZ k a b))
   | .quo, .int k a, .int h b,false=>match decide (k=h) with|true=>b≠0/\K (.int k (k.wrap (a.tdiv b)))|false=>False
   | .rem, .int k a, .int h b,false=>match decide (k=h) with|true=>b≠0/\K (.int k (a.tmod b))|false=>False
   |_, .int _ _, .int _ _,_=>oX P (eE ρ o) K
   |_,_,_,_=>False
  | .str=>
   match op,ρ x,ρ y with
   | .add, .string a, .string b=>a.size+b.size<=9223372036854775807/\K (.string (a++b))
   |_, .string _, .string _=>oX P (eE ρ o) K
   |_,_,_=>False
  | .bool=>oX P (eE ρ o) K
  |_=>
   match op with
   | .eql=>bb P (C2 .eql t x y (ρ x) (ρ y)) λ r=>aW (ax r) λ b=>K (.bool b)
   | .neq=>bb P (C2 .neq t x y (ρ x) (ρ y)) λ r=>aW (ax r) λ b=>K (.bool b)
   |_=>oX P (eE ρ o) K
 | .build t parts=>vR P t (parts.toList.map λ(i,x)=>(i,ρ x)) λ u=>oX P (do pure (.value (<-Instr.build t ⟨u⟩))) K
 | .extract x i=>
  match ρ x with
  | .tuple vs=>match(vs[i]? :Option ay) with
   |some v=>Ai (Ei P o.type) (ax v) K
   |none=>False
  |_=>False
 | .slice t x lo hi q=>bb P (dw t (ρ x) (lo.map ρ) (hi.map ρ) (q.map ρ)) λ v=>lF (kg P o.type) (ax v) K
 | .typeAssert x E c ok=>bb P (Instr.typeAssert (ρ x) E c ok) λ v=>l9 (nO P o.type) v K
 |_=>oX P (eE ρ o) K
def Al(P:bU)(ρ:Operand->ay)(o:eg)(w:ak)(K:ay->ak->Prop):Prop:=
 match o.op with
 | .load t x=>rG P t (ρ x) w λ v=>K v w
 | .store t x y=>Eh P t (ρ x) (ρ y) w λ w'=>K dU w'
 | .convert src dst x=>aP P (dq src dst (ρ x)) w λ v w'=>lF (kg P o.type) (ax v) λ v=>K v w'
 | .makeSlice t l c=>aP P (kS t (ρ l) (ρ c)) w λ v w'=>lF (kg P o.type) (ax v) λ v=>K v w'
 | .makeMap t r=>aP P (iM t (r.map ρ)) w λ v w'=>lF (kg P o.type) (ax v) λ v=>K v w'
 | .lookup t x i ok=>aP P (dJ t (ρ x) (ρ i) ok) w λ v w'=>l9 (nO P o.type) v λ v=>K v w'
 | .range t x=>aP P (Instr.range t (ρ x)) w λ v w'=>K v w'
 | .next it s=>aP P (Instr.next (ρ it) s o.type) w λ v w'=>K7 v λ v=>K v w'
 | .buildSlice t n h=>aP P (bw t n (h.map λ(i,x)=>(i,ρ x))) w λ v w'=>lF (kg P o.type) (ax v) λ v=>K v w'
 | .call c=>
  match c.callee with
  | .value (.func f)=>
   match K9 P f with
   |true=>au P f (c.args.map ρ) w λ v w'=>l9 (nO P o.type) v λ v=>K v w'
   |false=>ik P (callFunc f (c.args.map ρ)) w λ v w'=>l9 (nO P o.type) v λ v=>K v w'
  | .value fv=>eJ P (ρ fv) (c.args.map ρ) w λ v w'=>l9 (nO P o.type) v λ v=>K v w'
  | .invoke r name=>cS P (ρ r) name (c.args.map ρ) w λ v w'=>l9 (nO P o.type) v λ v=>K v w'
  | .builtin .append=>aP P (cM c.argTypes o.type (c.args.map ρ)) w λ v w'=>lF (kg P o.type) (ax v) λ v=>K v w'
  | .builtin .copy=>aP P (mF c.argTypes o.type (c.args.map ρ)) w λ v w'=>l9 (nO P o.type) v λ v=>K v w'
  | .builtin .delete=>aP P (Builtin.delete_ c.argTypes o.type (c.args.map ρ)) w λ v w'=>K v w'
  | .builtin .len=>aP P (Builtin.len_ c.argTypes o.type (c.args.map ρ)) w λ v w'=>l9 (nO P o.type) v λ v=>K v w'
  | .builtin _=>False
 | .mapUpdate t m k x| .insert t m k x=>aP P (do fF t (ρ m) (ρ k) (ρ x);pure dU) w λ _ w'=>K dU w'
 | .mapEntry t m k=>aP P (Instr.mapEntry t (ρ m) (ρ k)) w λ v w'=>cR v λ x y=>K (.tuple #[x,y]) w'
 | .entry it=>aP P (Instr.entry (ρ it)) w λ v w'=>cR v λ x y=>K (.tuple #[x,y]) w'
 | .entryStore t m s x=>aP P (do Instr.entryStore t (ρ m) (ρ s) (ρ x);pure dU) w λ _ w'=>K dU w'
 | .alloc _| .box .. =>nM P (eE ρ o) w K
 |_=>False
def vS(P:bU)(ρ:Operand->ay)(o:eg)(w:ak)(K:ay->ak->Prop):Prop:=
 match El P o with
 |true=>Ak P ρ o λ v=>K v w
 |false=>Al P ρ o w K
theorem qv{P:bU}{s:Sem ay}{w w':ak}{v:ay}(h:s.run P w= .ok v w'):(do pure (.value (<-s)):Sem Next).run P w= .ok (.value v) w':=by
 simp[h]
theorem rJ{P:bU}{s:Sem Next}{K:ay->Prop}(h:oX P s K):∃v,(∀w,s.run P w= .ok (.value v) w)/\K v:=by
 unfold oX at h;split at h
 ·rename_i v c;exact⟨v,Wj s c,h⟩
 ·exact h.elim
theorem K'{p:Option kd}{K:kd->Prop}(h:nn p K):∃a,p=some a/\K a:=by
 cases p with
 |none=>exact h.elim
 |some a=>exact⟨a,rfl,h⟩
theorem Wp{s:ByteArray}{n:Nat}(h:n<s.size):s[n]? =some (s.data.getD n 0):=by
 have h':n<s.data.size:=h;rw[getElem?_pos s n h];simp only[Array.getD,h',dif_pos];rfl
theorem vT{P:bU}{t:cK}{K:Nat->Prop}(h:tA P t K):∃i,P.info? t=some i/\K i.size:=by
 unfold tA at h;split at h
 ·rename_i i hi;exact⟨i,hi,h⟩
 ·exact h.elim
theorem Wq{v:ay}{R:Prop}(h:fI v R):v.cells=#[v]/\R:=by
 cases v<;>first|exact h.elim|exact⟨rfl,h⟩
theorem Wr(place:Nat->Option (Nat×Nat)):∀(x r:List (Nat×ay)) (cells:Array ay),x.length=r.length->(∀k (h:k<x.length) (h':k<r.length),x[k].1=r[k].1/\x[k].2.cells=r[k].2.cells)->
  Instr.fill place cells x=Instr.fill place cells r:=by
 intro x;induction x with
 |nil=>intro r cells E _;cases r with|nil=>rfl|cons q r=>simp at E
 |cons p x J=>
  intro r cells E h;cases r with
  |nil=>simp at E
  |cons q r=>
   obtain⟨i,v⟩:=p;obtain⟨j,u⟩:=q;have y:=h 0 (by simp) (by simp);simp at y;obtain⟨rfl,y⟩:=y;have H:=λ c=>J r c (by simpa using E) (λ k I G=>by
    have:=h (k+1) (by simpa using I) (by simpa using G);simpa using this)
   unfold Instr.fill;cases place i with
   |none=>rfl
   |some os=>
    obtain⟨off,size⟩:=os;simp only[y,H]
theorem Ws{P:bU}{t:cK}:∀{c:List (Nat×ay)} {K:List (Nat×ay)->Prop},vR P t c K->
  ∃q,q.length=c.length/\(∀k (h:k<c.length) (h':k<q.length),c[k].1=q[k].1/\c[k].2.cells=q[k].2.cells)/\K q:=by
 intro c;induction c with
 |nil=>intro K h;exact⟨[],rfl,by simp,h⟩
 |cons p c G=>
  intro K h;obtain⟨i,v⟩:=p;unfold vR at h;split at h
  ·obtain⟨H,h⟩:=Wq h;obtain⟨q,y,E,x⟩:=G h;refine⟨_,by simp[y], ?_,x⟩;intro k r u;cases k with
   |zero=>exact⟨rfl,H⟩
   |succ k=>simpa using E k (by simpa using r) (by simpa using u)
  ·split at h
   ·rename_i cs;obtain⟨q,y,E,x⟩:=G h;refine⟨_,by simp[y], ?_,x⟩;intro k r u;cases k with
    |zero=>simp[Value.cells]
    |succ k=>simpa using E k (by simpa using r) (by simpa using u)
   ·exact h.elim
theorem Wt{t:cK}{c q:List (Nat×ay)}(r:c.length=q.length)(h:∀k (h:k<c.length) (h':k<q.length),c[k].1=q[k].1/\c[k].2.cells=q[k].2.cells):
  Instr.build t ⟨c⟩=Instr.build t ⟨q⟩:=by
 unfold Instr.build;simp only[Wr _ c q _ r h]
theorem La{P:bU}{ρ:Operand->ay}{o:eg}{K:ay->Prop}(h:Ak P ρ o K):
  ∃v,(∀w,(eE ρ o).run P w= .ok (.value v) w)/\K v:=by
 obtain⟨dst,op,type,pos,after,guard⟩:=o;cases op<;>simp only[Ak] at h
 case move x=>exact⟨_,λ w=>rfl,h⟩
 case assign x=>exact⟨_,λ w=>rfl,h⟩
 case nilCheck x=>
  unfold gk at h;split at h
  ·rename_i p J;obtain⟨a,rfl,c⟩:=K' h;exact⟨_,λ w=>by simp[eE,J],c⟩
  ·rename_i name first captured J
   split at h
   ·rename_i x I;obtain⟨⟨t,y,rfl,E⟩,c⟩:=h;exact⟨_,λ w=>by simp[eE,J,I,E w],c⟩
   ·exact h.elim
  ·rename_i fn first captured eY J
   refine⟨_,λ w=> ?_,h⟩;cases fn<;>simp_all[eE]
  ·rename_i t x J;exact⟨_,λ w=>by simp[eE,J],h⟩
  ·exact h.elim
 case indexAddr t x i=>
  split at h
  ·rename_i e p len cap k n U I hi;obtain⟨Z,u,h⟩:=vT h;obtain⟨⟨N,q⟩,r⟩:=h;obtain⟨a,rfl,c⟩:=K' r;refine⟨_,λ w=> ?_,c⟩;simp[eE,Instr.indexAt,asIntOf,I,hi,underlying,U,N,q,sizeOf,typeInfo,u]
  ·rename_i len e a k n U I hi;obtain⟨Z,u,⟨N,q⟩,c⟩:=vT h;refine⟨_,λ w=> ?_,c⟩;simp[eE,Instr.indexAt,oM,asIntOf,I,hi,underlying,U,N,q,sizeOf,typeInfo,u]
  ·exact h.elim
 case index t x i=>
  split at h
  ·rename_i s k n U I hi;obtain⟨⟨N,q⟩,c⟩:=h;refine⟨_,λ w=> ?_,c⟩;have:=Wp (s:=s) (n:=n.toNat) (by omega);simp[eE,Instr.index,asIntOf,I,hi,underlying,U,N,this]
  ·exact rJ h
 case binOp op t x y ty=>
  split at h
  ·split at h
   ·rename_i k a W b q r X;obtain⟨G,c⟩:=h;refine⟨_,λ w=> ?_,c⟩;simp[eE,eqGuard,q,r,binOp,Op.shift,Int.not_lt.2 G,bu]
   ·rename_i k a W b q r X;obtain⟨G,c⟩:=h;refine⟨_,λ w=> ?_,c⟩;simp[eE,eqGuard,q,r,binOp,Op.shift,Int.not_lt.2 G,cZ]
   ·rename_i k a W b q r X;split at h
    ·rename_i hd;have H:k=W:=of_decide_eq_true hd;subst H;obtain⟨G,c⟩:=h;refine⟨_,λ w=> ?_,c⟩;simp[eE,eqGuard,q,r,binOp,Op.intDiv,G]
    ·exact h.elim
   ·rename_i k a W b q r X;split at h
    ·rename_i hd;have H:k=W:=of_decide_eq_true hd;subst H;obtain⟨G,c⟩:=h;refine⟨_,λ w=> ?_,c⟩;simp[eE,eqGuard,q,r,binOp,Op.intDiv,G]
    ·exact h.elim
   ·exact rJ h
   ·exact h.elim
  ·split at h
   ·rename_i a b q r;obtain⟨G,c⟩:=h;refine⟨_,λ w=> ?_,c⟩;have:¬((a.size+b.size:Nat):Int)>af.max:=by
     have e:af.max=9223372036854775807:=by decide
     rw[e];omega
    simp only[eE,eqGuard,q,r,binOp,Op.stringOp];rw[if_neg this];rfl
   ·exact rJ h
   ·exact h.elim
  ·exact rJ h
  ·split at h
   ·obtain⟨v,E,c⟩:=h;obtain⟨b,rfl,c⟩:=c;exact⟨_,λ w=>qv (E w),c⟩
   ·obtain⟨v,E,c⟩:=h;obtain⟨b,rfl,c⟩:=c;exact⟨_,λ w=>qv (E w),c⟩
   ·exact rJ h
 case build t parts=>
  obtain⟨qs,hl,hq,h⟩:=Ws h;obtain⟨v,E,c⟩:=rJ h;refine⟨v,λ w=> ?_,c⟩;have e:parts.map (λ x=>(x.1,ρ x.2))=⟨parts.toList.map λ x=>(x.1,ρ x.2)⟩:=by
   apply nG;simp
  have e2:=Wt (t:=t) hl.symm hq;simp only[eE];rw[show(parts.map λ x=>match x with|(i,x)=>(i,ρ x))=parts.map (λ x=>(x.1,ρ x.2)) from rfl,e,e2];exact E w
 case extract x i=>
  split at h
  ·rename_i vs hv;split at h
   ·rename_i v hi;exact⟨v,λ w=>by simp[eE,Instr.extract,hv,hi],K8 h⟩
   ·exact h.elim
  ·exact h.elim
 case slice t x lo hi mx=>
  obtain⟨v,E,c⟩:=h;exact⟨v,λ w=>qv (E w),rH c⟩
 case typeAssert x xt ars ok=>
  obtain⟨v,E,c⟩:=h;exact⟨v,λ w=>qv (E w),rI c⟩
 all_goals exact rJ h
theorem lG{P:bU}{s:Sem ay}{w:ak}{K:ay->ak->Prop}(h:aP P s w K):ik P (do pure (.value (<-s))) w K:=by
 obtain⟨v,w',q,c⟩:=h;exact K5 q c
theorem run_loadCells{P:bU}{w:ak}{a:kd}:∀(vs:List ay) (i:Nat) (c:Array ay),aK w a vs i True->
  (loadCellsFrom a i vs.length c).run P w= .ok (c++vs.toArray) w:=by
 intro vs;induction vs with
 |nil=>intro i c _;simp[loadCellsFrom]
 |cons v vs u=>
  intro i c h;obtain⟨r,h⟩:=h;have q:w.cell? (a.add i)=some v:=r;simp only[dH,loadCellsFrom];have:=u (i+1) (c.push v) h;simp[load,Sem.run,Sem.bind,bind,q] at this⊢;rw[this]
theorem Lb{P:bU}{t:cK}{v:ay}{w:ak}{K:ay->Prop}(h:rG P t v w K):
  ∃r,(Instr.loadAt t v).run P w= .ok r w/\K r:=by
 unfold rG at h;split at h
 ·rename_i a;split at h
  ·exact h.elim
  ·rename_i c;obtain⟨r,U,x⟩:=vQ h;have y:w.cell? a=some r:=U;refine⟨r, ?_,x⟩;unfold nN at c;split at c<;>simp at c;rename_i d I J hd;have:(isAgg t).run P w= .ok false w:=by
    simp[isAgg,underlying,hd]
   simp[Instr.loadAt,oM,loadVar,this,load,Sem.run,y]
  ·rename_i c;obtain⟨G,q,h⟩:=vT h;split at h
   ·rename_i u;obtain⟨vs,N,W,x⟩:=K6 h;refine⟨_, ?_,x⟩;have E:G.size=vs.length:=by rw[N];exact(qk u).symm
    have:(isAgg t).run P w= .ok true w:=by
     unfold nN at c;split at c<;>simp at c
     ·rename_i hd;simp[isAgg,underlying,hd]
     ·rename_i hd;simp[isAgg,underlying,hd]
    have H:=run_loadCells (P:=P) vs 0 #[] W;simp[Instr.loadAt,oM,loadVar,this,sizeOf,typeInfo,q,loadCells,E,H]
   ·exact h.elim
 ·exact h.elim
theorem Lc{P:bU}{a:kd}{K:ak->Prop}:∀(vs:List ay) (i:Nat) (w:ak),Ah w a vs i K->
  ∃w',(storeCells a vs i).run P w= .ok () w'/\K w':=by
 intro vs;induction vs with
 |nil=>intro i w h;exact⟨w,by simp[storeCells],h⟩
 |cons v vs y=>
  intro i w h;obtain⟨⟨c,⟨old,u⟩,q⟩,h⟩:=h;obtain⟨w',x,r⟩:=y _ _ h;refine⟨w', ?_,r⟩;cases v<;>first|exact c.elim|simp[storeCells,store,Sem.run,Sem.bind,bind,u,q,x]
theorem Wu{P:bU}{t:cK}{p v:ay}{w:ak}{K:ak->Prop}(h:Eh P t p v w K):
  ∃w',(Instr.storeAt t p v).run P w= .ok () w'/\K w':=by
 unfold Eh at h;split at h
 ·rename_i a;obtain⟨u,c,h⟩:=vT h;split at h
  ·rename_i H _;have x:u.size=1:=qk H;have q:=h.1.1;have I:v.cells=#[v]:=by cases v<;>first|exact q.elim|rfl
   have h':Ah w a [v] 0 K:=by
    have:a.add 0=a:=by simp[aw]
    show wr w (a.add 0) v _;rw[this];exact h
   obtain⟨w',E,y⟩:=Lc (P:=P) [v] 0 w h';exact⟨w',by simp[Instr.storeAt,oM,storeVar,sizeOf,typeInfo,c,x,I,E],y⟩
  ·cases v with
   |agg cs=>
    simp only[] at h;split at h
    ·rename_i G;have r:cs.size=u.size:=qk G;obtain⟨w',E,y⟩:=Lc (P:=P) cs.toList 0 w h;exact⟨w',by simp[Instr.storeAt,oM,storeVar,sizeOf,typeInfo,c,Value.cells,r,E],y⟩
    ·exact h.elim
   |_=>exact h.elim
 ·exact h.elim
theorem mK{P:bU}{s:Sem ay}{w:ak}{K c:ay->ak->Prop}(h:aP P s w K)(q:∀v w',K v w'->c v w'):aP P s w c:=by
 obtain⟨v,w',r,h⟩:=h;exact⟨v,w',r,q _ _ h⟩
theorem aF{P:bU}{f:fz}{args:Array ay}{w:ak}{K c:ay->ak->Prop}(h:au P f args w K)(r:∀v w',K v w'->c v w'):au P f args w c:=
 Calls.mono h λ e w' q=>by cases e<;>first|exact r _ _ q|exact q
theorem Wv(recv:ay)(name:String)(A:Array ay):invoke (.fn (.method name) #[]) (#[recv]++A)=callMethod recv name A:=by
 have c:(#[recv]++A)[0]? =some recv:=by simp[Array.getElem?_append]
 have h:(#[recv]++A).extract 1 (#[recv]++A).size=A:=by
  apply nG;simp
 unfold invoke;simp only[c,h]
theorem Ld{P:bU}{ρ:Operand->ay}(W:∀f,ρ (.func f)= .func (.func f) #[] #[]){o:eg}{w:ak}{K:ay->ak->Prop}(h:Al P ρ o w K):
  ik P (eE ρ o) w K:=by
 obtain⟨dst,op,type,pos,after,guard⟩:=o;cases op<;>simp only[Al] at h
 case load t x=>
  obtain⟨r,q,I⟩:=Lb h;exact K5 q I
 case store t x y=>
  obtain⟨w',q,I⟩:=Wu h;simp[ik,eE,q];exact I
 case convert src dst x=>exact lG (mK h λ v w' h=>rH h)
 case makeSlice t l c=>exact lG (mK h λ v w' h=>rH h)
 case makeMap t r=>exact lG (mK h λ v w' h=>rH h)
 case lookup t x i ok=>exact lG (mK h λ v w' h=>rI h)
 case range t x=>exact lG h
 case next it s=>exact lG (mK h λ v w' h=>Wn h)
 case buildSlice t n ps=>exact lG (mK h λ v w' h=>rH h)
 case alloc e=>exact K4 _ _ h
 case box e x=>exact K4 _ _ h
 case mapEntry t m k=>
  exact lG (mK h λ v w' h=>by obtain⟨x,y,rfl,h⟩:=h;exact h)
 case entry it=>
  exact lG (mK h λ v w' h=>by obtain⟨x,y,rfl,h⟩:=h;exact h)
 case entryStore t m s x=>
  obtain⟨v,w',q,I⟩:=h;have H:(Instr.entryStore t (ρ m) (ρ s) (ρ x)).run P w= .ok () w':=by
   rw[nH] at q;generalize (Instr.entryStore t (ρ m) (ρ s) (ρ x)).run P w=r at q⊢;cases r with
   |ok u w''=>simp[iV] at q;rw[q.2]
   |halt x w''=>simp[iV] at q
  simp[ik,eE,H];exact I
 case mapUpdate t m k x=>
  obtain⟨v,w',q,I⟩:=h;have H:(fF t (ρ m) (ρ k) (ρ x)).run P w= .ok () w':=by
   rw[nH] at q;generalize (fF t (ρ m) (ρ k) (ρ x)).run P w=r at q⊢;cases r with
   |ok u w''=>simp[iV] at q;rw[q.2]
   |halt x w''=>simp[iV] at q
  simp[ik,eE,H];exact I
 case insert t m k x=>
  obtain⟨v,w',q,I⟩:=h;have H:(fF t (ρ m) (ρ k) (ρ x)).run P w= .ok () w':=by
   rw[nH] at q;generalize (fF t (ρ m) (ρ k) (ρ x)).run P w=r at q⊢;cases r with
   |ok u w''=>simp[iV] at q;rw[q.2]
   |halt x w''=>simp[iV] at q
  simp[ik,eE,H];exact I
 case call c=>
  obtain⟨callee,args,argTypes⟩:=c;have inv:∀(f:fz) (E:Array ay) (s:Sem Next),s.run P w= .ok (.enter f E) w->au P f E w (λ v w'=>l9 (nO P type) v λ v=>K v w')->ik P s w K:=by
   intro f E s q G;unfold ik;rw[q];exact aF G (λ v w' h=>rI h)
  cases callee with
  |value f=>
   cases f with
   |func f=>
    simp only[] at h;have U:eE ρ {dst:=dst,op:= .call {callee:= .value (.func f),args:=args,argTypes:=argTypes},type:=type,pos:=pos,after:=after,guard:=guard}=callFunc f (args.map ρ):=by
     simp[eE,resolve,W,Deferred.ofValue,invoke]
    rw[U];split at h
    ·rename_i G;unfold K9 at G;split at G
     ·rename_i fn J;simp at G;refine inv f _ _ ?_ h;cases N:fn.body with
      |none=>simp[N] at G
      |some c=>simp[callFunc,J,G.2,N]
     ·cases G
    ·exact Af (λ v w' h=>rI h) h
   |tmp t=>
    obtain⟨f,E,q,G⟩:=h;exact inv f E _ q G
   |const v=>
    obtain⟨f,E,q,G⟩:=h;exact inv f E _ q G
   |global g=>
    obtain⟨f,E,q,G⟩:=h;exact inv f E _ q G
  |invoke r name=>
   obtain⟨f,E,q,G⟩:=h;refine inv f E _ ?_ G;simp only[eE,resolve,nH,Sem.run_pure,Result.andThen_ok];rw[Wv];exact q
  |builtin b=>
   cases b<;>first|exact h.elim|skip
   case append=>exact lG (mK h λ v w' h=>rH h)
   case copy=>exact lG (mK h λ v w' h=>rI h)
   case delete=>exact lG h
   case len=>exact lG (mK h λ v w' h=>rI h)
 all_goals exact h.elim
theorem Le{P:bU}{ρ:Operand->ay}(r:∀f,ρ (.func f)= .func (.func f) #[] #[]){o:eg}{w:ak}{K:ay->ak->Prop}(h:vS P ρ o w K):
  ik P (eE ρ o) w K:=by
 unfold vS at h;split at h
 ·obtain⟨v,q,c⟩:=La h;unfold ik;rw[q w];exact c
 ·exact Ld r h
def want(ops:List eg)(ρ:Env)(o:eg):Bool:=
 match o.guard with
 |none=>true
 |some (j,b)=>match(ops[j]?).bind (·.dst) with
  |some d=>match ρ (d+1) with
   | .bool t=>t==b
   |_=>false
  |none=>false
def rK(ops:List eg)(j:Nat):Bool:=
 ops.any λ o=>match o.guard with
  |some (g,_)=>Nat.beq g j
  |none=>false
theorem Ww{t:Bool}{K:Bool->Prop}(h:aB t (K true) (K false)):K t:=by
 cases t
 ·exact h
 ·exact h
def oY(g:Bool)(v:ay)(K:ay->Prop):Prop:=
 match g,v with
 |true, .bool t=>aB t (K (.bool true)) (K (.bool false))
 |_,v=>K v
theorem tB{g:Bool}{v:ay}{K:ay->Prop}(h:oY g v K):K v:=by
 unfold oY at h;split at h
 ·exact Ww (K:=λ t=>K (.bool t)) h
 ·exact h
def vU(P:bU)(ops:List eg):Nat->List eg->(Env->ak->Prop)->Env->ak->Prop
 |_,[],K,ρ,w=>K ρ w
 |i,o::l,K,ρ,w=>
  match want ops ρ o with
  |true=>vS P (ev ρ) o w λ v w'=>oY (rK ops i) v λ v=>vU P ops (i+1) l K (put ρ o.dst v) w'
  |false=>vU P ops (i+1) l K (put ρ o.dst dU) w
def mL(P:bU)(h:Nat)(fc:Bool)(ops:List eg):Nat->List eg->(Env->ak->Prop)->Env->ak->Prop
 |_,[],K,ρ,w=>K ρ w
 |i,o::l,K,ρ,w=>
  match o.op with
  | .defer c=>
   match o.dst,o.guard,c.callee with
   |none,none, .value f=>
    match ev ρ f,ρ 0 with
    | .func (.func t) first cap, .bool _=>
     match(first++c.args.map (ev ρ)).toList,cap.toList,fc,Nat.beq t h with
     |[.pointer p],[],false,true=>mL P h fc ops (i+1) l K (jL ρ 0 (.pointer p)) w
     |[],[.pointer p],true,true=>mL P h fc ops (i+1) l K (jL ρ 0 (.pointer p)) w
     |_,_,_,_=>False
    |_,_=>False
   |_,_,_=>False
  |_=>
   match want ops ρ o with
   |true=>vS P (ev ρ) o w λ v w'=>oY (rK ops i) v λ v=>mL P h fc ops (i+1) l K (put ρ o.dst v) w'
   |false=>mL P h fc ops (i+1) l K (put ρ o.dst dU) w
def qw(n:Nat)(ops:List eg):Bool:=
 ops.all λ o=>match o.dst with
  |some d=>Nat.blt d n
  |none=>true
theorem vV{n:Nat}{ops:List eg}(h:qw n ops=true){o:eg}(c:o∈ops):∀d,o.dst=some d->d<n:=by
 intro d hd;have:=List.all_eq_true.1 h o c;simp only[hd] at this;exact Nat.le_of_ble_eq_true this
theorem vW{ops:Array eg}{a:Act}{n:Nat}{ρ:Env}(hd:qw n ops.toList=true)(h:Ag dm a n ρ)(o:eg):
  want ops.toList ρ o=qm o (yielded ops a.tmps):=by
 unfold want qm;cases o.guard with
 |none=>rfl
 |some g=>
  obtain⟨j,b⟩:=g;simp only[yielded,Array.getElem?_toList];cases x:ops[j]? with
  |none=>rfl
  |some y=>
   cases c:y.dst with
   |none=>simp[c]
   |some d=>
    have r:d<n:=vV hd (by simpa using Array.mem_of_getElem? x) d c;have q:a.tmps[d]? =some (ρ (d+1)):=by
     have:=h.get d;have u:d<a.tmps.size:=by rw[h.size];exact r
     rw[Array.getElem?_eq_getElem u];simp[Array.getD,u] at this;rw[this]
    simp only[Option.bind_some,c,q];cases ρ (d+1)<;>simp
section
variable{P:bU}{ops:Array eg}{n:Nat}{K:Env->ak->Prop}{Q:Exit->Act->ak->Prop}
theorem Lf(hd:qw n ops.toList=true)(I:∀a ρ w,Ag dm a n ρ->K ρ w->Q .normal a w):
  ∀(l:List eg) (i:Nat) (ρ:Env) (a:Act) (w:ak),(∀o∈l,o∈ops.toList)->Ag dm a n ρ->vU P ops.toList i l K ρ w->wpList P ops Q l a w:=by
 intro l;induction l with
 |nil=>intro i ρ a w _ c h;exact I a ρ w c h
 |cons o l E=>
  intro i ρ a w y c h;have q:=vV hd (y o (by simp));have r:∀o∈l,o∈ops.toList:=λ x J=>y x (by simp[J])
  unfold vU at h;rw[vW hd c] at h;unfold wpList;split at h
  ·rename_i u;rw[if_pos u];refine .inl ?_;have G:=Le (λ f=>rfl) h;unfold Oper.wp;rw[c.qu];refine Ed (Af (λ v w' h=> ?_) G);have H:=tB h;exact E (i+1) _ _ _ r (c.put q v) H
  ·rename_i u;rw[if_neg (by simp[u])];exact E (i+1) _ _ _ r (c.put q dU) h
theorem Wx{q:Nat}{fc:Bool}(hd:qw n ops.toList=true)(hQ:∀a ρ w,Ag (some (q,fc)) a n ρ->K ρ w->Q .normal a w):
  ∀(l:List eg) (i:Nat) (ρ:Env) (a:Act) (w:ak),(∀o∈l,o∈ops.toList)->Ag (some (q,fc)) a n ρ->mL P q fc ops.toList i l K ρ w->wpList P ops Q l a w:=by
 intro l;induction l with
 |nil=>intro i ρ a w _ r h;exact hQ a ρ w r h
 |cons o l ih=>
  intro i ρ a w hl r h;have G:=vV hd (hl o (by simp));have y:∀o∈l,o∈ops.toList:=λ x hx=>hl x (by simp[hx])
  have Wy:(match want ops.toList ρ o with
   |true=>vS P (ev ρ) o w λ v w'=>oY (rK ops.toList i) v λ v=>mL P q fc ops.toList (i+1) l K (put ρ o.dst v) w'
   |false=>mL P q fc ops.toList (i+1) l K (put ρ o.dst dU) w)->wpList P ops Q (o::l) a w:=by
   intro h;rw[vW hd r] at h;unfold wpList;split at h
   ·rename_i I;rw[if_pos I];refine .inl ?_;have u:=Le (λ f=>rfl) h;unfold Oper.wp;rw[r.qu];refine Ed (Af (λ v w' h=> ?_) u);have E:=tB h;exact ih (i+1) _ _ _ y (r.put G v) E
   ·rename_i I;rw[if_neg (by simp[I])];exact ih (i+1) _ _ _ y (r.put G dU) h
  unfold mL at h;split at h
  ·rename_i c Z;split at h
   ·rename_i f H hg hc;split at h
    ·rename_i t first cap b hf hb
     have key:∀(p:Option kd) (D:Deferred),D={target:= .fn (.func t) cap,args:=first++c.args.map (ev ρ)}->dl q fc (.pointer p)=[D]->
       mL P q fc ops.toList (i+1) l K (jL ρ 0 (.pointer p)) w->wpList P ops Q (o::l) a w:=by
      intro p D hD X h;have W:Ag (some (q,fc)) {a with defers:=D::a.defers} n (jL ρ 0 (.pointer p)):=by
       refine⟨r.size, ?_,λ j=> ?_⟩
       ·have h0:=r.defers;simp only[nK,hb,dl] at h0;simp[h0,nK,X,Eb]
       ·rw[Ec _ _ (by omega)];exact r.get j
      have u:=ih (i+1) _ _ _ y W h;have I:qm o (yielded ops a.tmps)=true:=by simp[qm,hg]
      unfold wpList;rw[if_pos I];refine .inl ?_;unfold Oper.wp;rw[r.qu];have hr:(eE (ev ρ) o).run P w= .ok (.defer D) w:=by
       rw[hD];simp[eE,Z,resolve,hc,hf,Deferred.ofValue]
      rw[hr,Oper.upon_defer,H];exact u
     split at h
     ·rename_i p U u E;have ht:t=q:=qk E;have J:first++c.args.map (ev ρ)=#[.pointer p]:=nG U
      have N:cap=#[]:=nG u;subst ht;exact key p _ (by rw[J,N]) rfl h
     ·rename_i p U u E;have ht:t=q:=qk E;have J:first++c.args.map (ev ρ)=#[]:=nG U
      have N:cap=#[.pointer p]:=nG u;subst ht;exact key p _ (by rw[J,N]) rfl h
     ·exact h.elim
    ·exact h.elim
   ·exact h.elim
  ·exact Wy h
end
def dependsOn(o:eg)(j:Nat):Bool:=o.after.any λ e=>Region.binds .any e&&e.on==j
abbrev tE:=List (Nat×(ak->Prop))
def mM(o:eg)(S:tE):tE:=S.filter λ p=>!dependsOn o p.1
section
variable{P:bU}{ops:Array eg}{Q:Exit->Act->ak->Prop}
def wpAnyS(P:bU)(ops:Array eg)(Q:Exit->Act->ak->Prop):Nat->tE->Array Bool->Act->ak->Prop
 |0,_,listed,a,w=>Region.ready .any ops listed=[]/\Q .normal a w
 |c+1,S,listed,a,w=>
  (Region.ready .any ops listed=[]->Q .normal a w)/\
  ∀i∈Region.ready .any ops listed,∀o,ops[i]? =some o->
   wpOp P ops Q i (λ h w'=>(∀p∈mM o S,p.2 w')/\wpAnyS P ops Q c (mM o S) (listed.setIfInBounds i true) h w') a w
theorem Em:∀(c:Nat) (S S':tE) (listed:Array Bool) (a:Act) (w:ak),(∀p∈S',p∈S\/∀w,p.2 w)->
  wpAnyS P ops Q c S listed a w->wpAnyS P ops Q c S' listed a w:=by
 intro c;induction c with
 |zero=>intro S S' listed a w _ h;exact h
 |succ c I=>
  intro S S' listed a w G h;refine⟨h.1,λ i hi o H=>wpOp_mono (λ J w' u=> ?_) (h.2 i hi o H)⟩;have x:∀p∈mM o S',p∈mM o S\/∀w,p.2 w:=by
   intro p r;obtain⟨y,E⟩:=oN.1 r;rcases G p y with q|q
   ·exact .inl (oN.2 ⟨q,E⟩)
   ·exact .inr q
  refine⟨λ p r=> ?_,I _ _ _ _ _ x u.2⟩;rcases x p r with q|q
  ·exact u.1 p q
  ·exact q w'
theorem Lg:∀(c:Nat) (S:tE) (listed:Array Bool) (a:Act) (w:ak),wpAnyS P ops Q c S listed a w->wpAny P .any ops Q c listed a w:=by
 intro c;induction c with
 |zero=>intro S listed a w h;exact h
 |succ c u=>
  intro S listed a w h;refine⟨h.1,λ i hi=> ?_⟩;obtain⟨_,o,r,_⟩:=mem_ready.1 hi;exact wpOp_mono (λ x w' q=>u _ _ _ _ q.2) (h.2 i hi o r)
def lH(P:bU)(ops:Array eg)(o:eg)(v:ay)(C:ak->Prop)(a:Act):Prop:=
 (qm o (yielded ops a.tmps)=true/\∀w,C w->(eE a.eval o).run P w= .ok (.value v) w)\/
 (qm o (yielded ops a.tmps)=false/\v=dU)
theorem lH.wpOp{i:Nat}{o:eg}{v:ay}{C:ak->Prop}{a:Act}(hi:ops[i]? =some o)(u:lH P ops o v C a)
  {K:Act->ak->Prop}{w:ak}(q:C w)(h:K (a.put o.dst v) w):wpOp P ops Q i K a w:=by
 unfold Go.wpOp;simp only[hi];rcases u with⟨c,r⟩|⟨c,rfl⟩
 ·simp only[c,if_true,Oper.wp,r w q,Oper.upon];exact .inl h
 ·simp only[c,Bool.false_eq_true,if_false];exact h
theorem lH.of_same{o:eg}{v:ay}{C:ak->Prop}{a c:Act}(r:lH P ops o v C a)(h:eE c.eval o=eE a.eval o)
  (q:qm o (yielded ops c.tmps)=qm o (yielded ops a.tmps)):lH P ops o v C c:=by
 unfold lH at*;rw[h,q];exact r
theorem WA{j:Nat}{q E:eg}{v:ay}{C:ak->Prop}(hj:ops[j]? =some E)(X:q.apart ops E=true)
  (Z:∀cs b,q.op≠ .select cs b)(U:∀cs b,E.op≠ .select cs b)
  (hQ:∀c a w,¬Q (.panic c) a w){K:Act->ak->Prop}{a:Act}{w:ak}
  (G:lH P ops q v C a)(h:wpOp P ops Q j K (a.put q.dst v) w):
  wpOp P ops Q j (λ a' w'=>lH P ops q v C a'/\K (a'.put q.dst v) w') a w:=by
 obtain⟨W,J,h3⟩:=Oper.apart_spec X;have aH:∀(a:Act),lH P ops q v C a->∀u,lH P ops q v C (a.put E.dst u):=λ a G u=>
  G.of_same (execOp_put q Z a E.dst u h3) (wanted_put q a E.dst u h3)
 have I:∀d,lH P ops q v C {a with defers:=d::a.defers}:=λ d=>G.of_same rfl rfl
 unfold wpOp at*;simp only[hj] at*;rw[wanted_put E a q.dst v W] at h;split
 ·rename_i hw;simp only[hw,if_true] at h;rcases h with h|⟨y,H⟩
  case inr=>exact .inr ⟨by unfold Oper.asks at*;rw[execOp_put E U a q.dst v W] at y;exact y,H⟩
  refine .inl ?_;unfold Oper.wp at*;rw[execOp_put E U a q.dst v W] at h;generalize (eE a.eval E).run P w=r at*;cases r with
  |ok m w'=>
   cases m<;>simp only[Oper.upon] at h⊢
   case value u=>exact⟨aH a G u,by rw[<-Act.put_comm a v u J];exact h⟩
   case skip=>exact⟨aH a G _,by rw[<-Act.put_comm a v dU J];exact h⟩
   case defer d=>
    refine⟨aH _ (I d) _, ?_⟩;rw[<-Act.put_comm _ v dU J,<-Act.put_defers];exact h
   case enter f args=>
    refine Calls.mono h λ e w'' N=> ?_
    cases e with
    |returned u=>exact⟨aH a G u,by rw[<-Act.put_comm a v u J];exact N⟩
    |panicked c=>exact absurd N (hQ _ _ _)
    |outgrown=>exact N
   case row row args=>exact Rows.mono h λ u w'' N=>⟨aH a G u,by rw[<-Act.put_comm a v u J];exact N⟩
  |halt x w'=>
   cases x<;>simp only[Oper.upon] at h⊢
   case panic u=>exact absurd h (hQ _ _ _)
 ·rename_i hw;simp only[hw] at h;exact⟨aH a G _,by rw[<-Act.put_comm a v dU J];exact h⟩
theorem WB{o:eg}{i:Nat}:dependsOn o i=true↔∃e∈o.after,Region.binds .any e=true/\e.on=i:=by
 unfold dependsOn;rw[Array.any_eq_true'];simp
theorem wpAnyS_first{i:Nat}{W:eg}{v:ay}{C:ak->Prop}(hi:ops[i]? =some W)(U:∀(j:Nat) (o:eg) cs b,ops[j]? =some o->o.op≠ .select cs b)
  (hQ:∀c a w,¬Q (.panic c) a w):
  ∀(q:Nat) (S:tE) (listed:Array Bool) (a:Act) (w:ak),
   (∀j u,ops[j]? =some u->j≠i->listed.getD j true=false->(∀e∈u.after,Region.binds .any e=true->e.on≠i)->W.apart ops u=true)->
   i∈Region.ready .any ops listed->lH P ops W v C a->C w->(∀p∈S,p.2 w)->
   wpAnyS P ops Q q ((i,C)::S) (listed.setIfInBounds i true) (a.put W.dst v) w->wpAnyS P ops Q (q+1) S listed a w:=by
 intro q;induction q with
 |zero=>
  intro S listed a w _ hr hy hc hS H;refine⟨λ h=>(by rw[h] at hr;cases hr),λ j hj o ho=> ?_⟩;by_cases r:j=i
  ·subst r;obtain rfl:W=o:=iW (hi.symm.trans ho);exact hy.wpOp hi hc ⟨λ p Z=>hS p (oN.1 Z).1,H⟩
  ·have:=ready_mono hj r;rw[H.1] at this;cases this
 |succ q ih=>
  intro S listed a w y hr hy hc hS H;refine⟨λ h=>(by rw[h] at hr;cases hr),λ j hj o ho=> ?_⟩;by_cases r:j=i
  ·subst r;obtain rfl:W=o:=iW (hi.symm.trans ho);refine hy.wpOp hi hc ⟨λ p Z=>hS p (oN.1 Z).1,Em _ _ _ _ _ _ ?_ H⟩;intro p Z;exact .inl (jI _ (oN.1 Z).1)
  ·have I:=H.2 j (ready_mono hj r) o ho;obtain⟨J,u,G,Lh⟩:=mem_ready.1 hj;obtain rfl:u=o:=iW (G.symm.trans ho);have N:∀e∈u.after,Region.binds .any e=true->e.on≠i:=λ e he hb heq=>by
    have I:=Lh e he hb;have h0:=(mem_ready.1 hr).1;rw[heq] at I;rcases Nat.lt_or_ge i listed.size with h'|h'
    ·simp[h'] at h0 I;rw[h0] at I;cases I
    ·simp[Array.getElem?_eq_none h'] at I
   have WD:dependsOn u i=false:=by
    cases hb:dependsOn u i
    ·rfl
    ·obtain⟨e,he,Eo,heq⟩:=WB.1 hb;exact absurd heq (N e he Eo)
   have X:mM u ((i,C)::S)=(i,C)::mM u S:=by simp[mM,WD]
   rw[X] at I;have h2:=WA G (y j u G r J N) (λ cs b=>U i W cs b hi) (λ cs b=>U j u cs b G) hQ hy I;have E:∀k ok,ops[k]? =some ok->k≠i->(listed.setIfInBounds j true).getD k true=false->
     (∀e∈ok.after,Region.binds .any e=true->e.on≠i)->W.apart ops ok=true:=λ k ok hk WG Li Am=>by
    refine y k ok hk WG ?_ Am;by_cases Lj:j=k
    ·subst Lj;exact J
    ·rw[getD_set_ne true Lj] at Li;exact Li
   refine wpOp_mono (λ a' w' h3=> ?_) h2;obtain⟨WH,x,age⟩:=h3;have tG:∀p∈mM u S,p.2 w':=λ p Z=>x p (jI _ Z)
   refine⟨tG,ih (mM u S) (listed.setIfInBounds j true) a' w' E (ready_mono hr (Ne.symm r)) WH (x (i,C) (by simp)) tG ?_⟩;rw[Array.setIfInBounds_comm _ _ r];exact age
end
abbrev runs(P:bU)(s:Sem ay)(w:ak)(v:ay):Prop:=s.run P w= .ok v w
abbrev gJ(P:bU)(s:Sem ay)(w:ak)(K:ay->Prop):Prop:=∃v,runs P s w v/\K v
inductive vX where
 |cells (addr:kd) (vs:List ay)
 |rL (s:Sem ay) (v:ay)
structure jn where
 idx:Nat
 kind:vX
def vX.cond(P:bU):vX->ak->Prop
 | .cells a vs,w=>aK w a vs 0 True
 | .rL s v,w=>runs P s w v
def jn.cond(P:bU)(p:jn):Nat×(ak->Prop):=(p.idx,p.kind.cond P)
def Ll(P:bU)(w:ak)(k:vX)(R:Prop):Prop:=
 match k with
 | .cells a vs=>aK w a vs 0 R
 | .rL s v=>runs P s w v/\R
def Ep(P:bU)(w:ak):List jn->Prop->Prop
 |[],R=>R
 |p::c,R=>Ll P w p.kind (Ep P w c R)
theorem WK{w:ak}{a:kd}:∀{vs:List ay} {i:Nat} {R:Prop},aK w a vs i R->aK w a vs i True/\R:=by
 intro vs;induction vs with
 |nil=>intro i R h;exact⟨trivial,h⟩
 |cons v vs c=>intro i R h;exact⟨⟨h.1,(c h.2).1⟩,(c h.2).2⟩
theorem WM{P:bU}{w:ak}{k:vX}{R:Prop}(h:Ll P w k R):k.cond P w/\R:=by
 cases k with
 |cells a vs=>exact WK h
 |rL s v=>exact h
theorem WN{P:bU}{w:ak}:∀{S:List jn} {R:Prop},Ep P w S R->(∀p∈S,(p.cond P).2 w)/\R:=by
 intro S;induction S with
 |nil=>intro R h;exact⟨(λ p E=>by cases E),h⟩
 |cons p S G=>
  intro R h;obtain⟨r,u⟩:=WM h;obtain⟨x,y⟩:=G u;refine⟨λ q c=> ?_,y⟩;rcases dX.1 c with rfl|c
  ·exact r
  ·exact x q c
def An(o:eg)(S:List jn):List jn:=S.filter λ p=>!dependsOn o p.idx
theorem WO(P:bU)(o:eg)(S:List jn):(An o S).map (jn.cond P)=mM o (S.map (jn.cond P)):=by
 unfold An mM;rw[List.filter_map];rfl
def Er:List Nat->(Nat->Prop)->Prop
 |[],_=>True
 |[j],f=>f j
 |j::c,f=>f j/\Er c f
theorem WQ:∀{c:List Nat} {f:Nat->Prop},Er c f->∀j∈c,f j:=by
 intro c;induction c with
 |nil=>intro f _ j r;cases r
 |cons j c u=>
  intro f h k q;cases c with
  |nil=>
   rcases dX.1 q with rfl|q
   ·exact h
   ·cases q
  |cons x c=>
   rcases dX.1 q with rfl|q
   ·exact h.1
   ·exact u h.2 k q
def WR(o:eg):Bool:=
 match o.op with
 | .load .. =>true
 |_=>false
def WT(P:bU)(o:eg):Bool:=
 match o.op with
 | .lookup .. =>true
 | .convert s d _=>match kg P s,kg P d with
  | .slice, .str=>true
  |_,_=>false
 |_=>false
def early(P:bU)(ops:Array eg)(ρ:Env)(i:Nat):Bool:=
 match ops[i]? with
 |some o=>!want ops.toList ρ o||El P o||WR o||WT P o
 |none=>false
def oZ(P:bU)(t:cK)(v:ay):List ay:=
 match nN P t with
 |some true=>v.cells.toList
 |_=>[v]
def nS(P:bU)(ops:Array eg)(K:Env->ak->Prop):Nat->Array Bool->List jn->Env->ak->Prop
 |0,listed,_,ρ,w=>match Region.ready .any ops listed with
  |[]=>K ρ w
  |_=>False
 |c+1,listed,S,ρ,w=>
  match(Region.ready .any ops listed).find? (early P ops ρ) with
  |some i=>
   match ops[i]?,Region.free .any ops listed i with
   |some o,true=>
    match want ops.toList ρ o with
    |false=>nS P ops K c (listed.setIfInBounds i true) S (put ρ o.dst dU) w
    |true=>
     match El P o with
     |true=>Ak P (ev ρ) o λ v=>oY (rK ops.toList i) v λ v=>nS P ops K c (listed.setIfInBounds i true) S (put ρ o.dst v) w
     |false=>
      match o.op with
      | .load t x=>
       match ev ρ x with
       | .pointer (some a)=>rG P t (.pointer (some a)) w λ v=>oY (rK ops.toList i) v λ v=>
         nS P ops K c (listed.setIfInBounds i true) (⟨i, .cells a (oZ P t v)⟩::S) (put ρ o.dst v) w
       |_=>False
      | .lookup t x k ok=>gJ P (dJ t (ev ρ x) (ev ρ k) ok) w λ r=>l9 (nO P o.type) r λ v=>oY (rK ops.toList i) v λ v=>
        nS P ops K c (listed.setIfInBounds i true) (⟨i, .rL (dJ t (ev ρ x) (ev ρ k) ok) r⟩::S) (put ρ o.dst v) w
      | .convert s d x=>gJ P (dq s d (ev ρ x)) w λ r=>lF (kg P o.type) (ax r) λ v=>oY (rK ops.toList i) v λ v=>
        nS P ops K c (listed.setIfInBounds i true) (⟨i, .rL (dq s d (ev ρ x)) r⟩::S) (put ρ o.dst v) w
      |_=>False
   |_,_=>False
  |none=>
   match Region.ready .any ops listed with
   |[]=>K ρ w
   |h=>Er h λ j=>
    match ops[j]? with
    |some o=>Al P (ev ρ) o w λ v w'=>Ep P w' (An o S) (nS P ops K c (listed.setIfInBounds j true) (An o S) (put ρ o.dst v) w')
    |none=>False
theorem WU{P:bU}{t:cK}{a:kd}{w:ak}{K:ay->Prop}(h:rG P t (.pointer (some a)) w K):
  ∃v,K v/\aK w a (oZ P t v) 0 True/\∀w',aK w' a (oZ P t v) 0 True->(Instr.loadAt t (.pointer (some a))).run P w'= .ok v w':=by
 unfold rG at h;simp only[] at h;split at h
 ·exact h.elim
 ·rename_i c;obtain⟨r,Z,E⟩:=vQ h;have J:a.add 0=a:=by simp[aw]
  have u:oZ P t r=[r]:=by simp[oZ,c]
  refine⟨r,E, ?_,λ w' q=> ?_⟩
  ·rw[u];refine⟨?_,trivial⟩;rw[J];exact Z
  ·rw[u] at q;have G:w'.cell? a=some r:=by have:=q.1;rw[J] at this;exact this
   unfold nN at c;split at c<;>simp at c;rename_i d U W hd;have:(isAgg t).run P w'= .ok false w':=by
    simp[isAgg,underlying,hd]
   simp[Instr.loadAt,oM,loadVar,this,load,Sem.run,G]
 ·rename_i c;obtain⟨I,x,h⟩:=vT h;split at h
  ·rename_i y;obtain⟨vs,X,hs,E⟩:=K6 h;have u:oZ P t (.agg ⟨vs⟩)=vs:=by simp[oZ,c,Value.cells]
   refine⟨_,E,(by rw[u];exact hs),λ w' q=> ?_⟩;rw[u] at q;have H:I.size=vs.length:=by rw[X];exact(qk y).symm
   have:(isAgg t).run P w'= .ok true w':=by
    unfold nN at c;split at c<;>simp at c
    ·rename_i hd;simp[isAgg,underlying,hd]
    ·rename_i hd;simp[isAgg,underlying,hd]
   have N:=run_loadCells (P:=P) vs 0 #[] q;simp[Instr.loadAt,oM,loadVar,this,sizeOf,typeInfo,x,loadCells,H,N]
  ·exact h.elim
section
variable{P:bU}{ops:Array eg}{n:Nat}{K:Env->ak->Prop}{Q:Exit->Act->ak->Prop}
theorem WW{j:Nat}{o:eg}{a:Act}{ρ:Env}{w:ak}{N:Act->ak->Prop}(q:ops[j]? =some o)(c:Ag dm a n ρ)(r:qm o (yielded ops a.tmps)=true)
  (h:ik P (eE (ev ρ) o) w λ v w'=>N (a.put o.dst v) w'):wpOp P ops Q j N a w:=by
 unfold wpOp;simp only[q,r,if_true];refine .inl ?_;unfold Oper.wp;rw[c.qu];exact Ed h
theorem Lm(hd:qw n ops.toList=true)(WX:Region.noSelect ops=true)(hQ:∀a ρ w,Ag dm a n ρ->K ρ w->Q .normal a w)(WY:∀c a w,¬Q (.panic c) a w):
  ∀(u:Nat) (listed:Array Bool) (S:List jn) (ρ:Env) (a:Act) (w:ak),Ag dm a n ρ->(∀p∈S,(p.cond P).2 w)->
   nS P ops K u listed S ρ w->wpAnyS P ops Q u (S.map (jn.cond P)) listed a w:=by
 have tG:∀{S:List jn} {w:ak},(∀p∈S,(p.cond P).2 w)->∀p∈S.map (jn.cond P),p.2 w:=by
  intro S w h p y;obtain⟨q,hq,rfl⟩:=dt.1 y;exact h q hq
 intro u;induction u with
 |zero=>
  intro listed S ρ a w E hS h;unfold nS at h;split at h
  ·rename_i X;exact⟨X,hQ a ρ w E h⟩
  ·exact h.elim
 |succ u ih=>
  intro listed S ρ a w E hS h;unfold nS at h;split at h
  ·rename_i i I;have WZ:i∈Region.ready .any ops listed:=List.mem_of_find?_eq_some I;split at h
   ·rename_i o hi W0;have G:∀d,o.dst=some d->d<n:=vV hd (by simpa using Array.mem_of_getElem? hi);have first:∀(v:ay) (C:ak->Prop),lH P ops o v C a->C w->
      wpAnyS P ops Q u ((i,C)::S.map (jn.cond P)) (listed.setIfInBounds i true) (a.put o.dst v) w->wpAnyS P ops Q (u+1) (S.map (jn.cond P)) listed a w:=
     λ v C hy hc H=>wpAnyS_first hi (Region.noSelect_spec WX) WY u _ listed a w (Region.free_spec hi W0) WZ hy hc (tG hS) H
    split at h
    ·rename_i hw;rw[vW hd E] at hw;have:=ih _ S _ (a.put o.dst dU) w (E.put G dU) hS h;exact first dU (λ _=>True) (.inr ⟨hw,rfl⟩) trivial (Em _ _ _ _ _ _ (λ p y=>by
      rcases dX.1 y with rfl|y
      ·exact .inr λ _=>trivial
      ·exact .inl y) this)
    ·rename_i hw;rw[vW hd E] at hw;split at h
     ·obtain⟨v,X,J⟩:=La h;have J:=tB J;have:=ih _ S _ (a.put o.dst v) w (E.put G v) hS J;refine first v (λ _=>True) (.inl ⟨hw,λ w' _=> ?_⟩) trivial (Em _ _ _ _ _ _ (λ p y=>by
       rcases dX.1 y with rfl|y
       ·exact .inr λ _=>trivial
       ·exact .inl y) this)
      rw[E.qu];exact X w'
     ·split at h
      ·rename_i t x W;split at h
       ·rename_i ad hx;obtain⟨v,J,Es,W2⟩:=WU h;have J:=tB J;have U:∀p∈(⟨i, .cells ad (oZ P t v)⟩::S:List jn),(p.cond P).2 w:=by
         intro p y;rcases dX.1 y with rfl|y
         ·exact Es
         ·exact hS p y
        have:=ih _ _ _ (a.put o.dst v) w (E.put G v) U J;refine first v (λ w=>aK w ad (oZ P t v) 0 True) (.inl ⟨hw,λ w' Z=> ?_⟩) Es this
        rw[E.qu];have he:eE (ev ρ) o=(do pure (.value (<-Instr.loadAt t (ev ρ x))):Sem Next):=by
         unfold eE;rw[W]
        rw[he,hx];exact qv (W2 w' Z)
       ·exact h.elim
      ·rename_i t x k ok W;obtain⟨r,X,J⟩:=h;have J:=tB (rI J);have U:∀p∈(⟨i, .rL (dJ t (ev ρ x) (ev ρ k) ok) r⟩::S:List jn),(p.cond P).2 w:=by
        intro p y;rcases dX.1 y with rfl|y
        ·exact X
        ·exact hS p y
       have:=ih _ _ _ (a.put o.dst r) w (E.put G r) U J;refine first r (λ w=>runs P (dJ t (ev ρ x) (ev ρ k) ok) w r) (.inl ⟨hw,λ w' Z=> ?_⟩) X this
       rw[E.qu];have he:eE (ev ρ) o=(do pure (.value (<-dJ t (ev ρ x) (ev ρ k) ok)):Sem Next):=by
        unfold eE;rw[W]
       rw[he];exact qv Z
      ·rename_i s d x W;obtain⟨r,X,J⟩:=h;have J:=tB (rH J);have U:∀p∈(⟨i, .rL (dq s d (ev ρ x)) r⟩::S:List jn),(p.cond P).2 w:=by
        intro p y;rcases dX.1 y with rfl|y
        ·exact X
        ·exact hS p y
       have:=ih _ _ _ (a.put o.dst r) w (E.put G r) U J;refine first r (λ w=>runs P (dq s d (ev ρ x)) w r) (.inl ⟨hw,λ w' Z=> ?_⟩) X this
       rw[E.qu];have he:eE (ev ρ) o=(do pure (.value (<-dq s d (ev ρ x))):Sem Next):=by
        unfold eE;rw[W]
       rw[he];exact qv Z
      ·exact h.elim
   ·exact h.elim
  ·rename_i I;split at h
   ·rename_i X;exact⟨λ _=>hQ a ρ w E h,by rw[X];intro i hi;cases hi⟩
   ·rename_i eY;refine⟨λ h0=>absurd h0 eY,λ j hj o ho=> ?_⟩;have h1:=WQ h j hj;rw[ho] at h1;have G:∀d,o.dst=some d->d<n:=vV hd (by simpa using Array.mem_of_getElem? ho);have N:=List.find?_eq_none.1 I j hj;unfold early at N;rw[ho] at N;simp at N;have hw:qm o (yielded ops a.tmps)=true:=by rw[<-vW hd E];exact N.1.1.1
    refine WW ho E hw (Af (λ v w' h2=> ?_) (Ld (λ f=>rfl) h1));obtain⟨h3,h4⟩:=WN h2;rw[<-WO];exact⟨tG h3,ih _ _ _ _ _ (E.put G v) h3 h4⟩
end
def vY(P:bU)(n:Nat)(ops:Array eg)(c:Bool)(K:Env->ak->Prop)(ρ:Env)(w:ak):Prop:=
 match qw n ops.toList,c with
 |true,false=>vU P ops.toList 0 ops.toList K ρ w
 |true,true=>match P.follows .mixedOrders&&Region.noSelect ops with
  |true=>nS P ops K ops.size (Array.replicate ops.size false) [] ρ w.drew
  |false=>False
 |false,_=>False
def gl(dm:Option (Nat×Bool))(P:bU)(f:fz)(fn:Func)(R:Ending->ak->Prop)(c:List Item)(ρ:Env)(w:ak):Prop:=
 ∀(a:Act) (b:Frame) (cs:List Frame),Ag dm a fn.ntmps ρ->b.fn=f->b.kind= .normal->
  ∃e w' fr,R e w'/\Comes P (lone (b.at a c) cs w) (lone fr cs w') e/\fr.fn=f/\fr.leaving P w' e
abbrev Good(P:bU)(f:fz)(fn:Func)(R:Ending->ak->Prop)(c:List Item)(ρ:Env)(w:ak):Prop:=gl none P f fn R c ρ w
abbrev Lk(A B:Env->ak->Prop):Prop:=∀ρ w,A ρ w->B ρ w
section
variable{P:bU}{f:fz}{fn:Func}{R:Ending->ak->Prop}{ρ:Env}{w:ak}{k:List Item}
theorem gl.step{c:List Item}(H:∀(a:Act) (b:Frame) (cs:List Frame),step P (lone (b.at a c) cs w)= .next (lone (b.at a k) cs w))(h:gl dm P f fn R k ρ w):gl dm P f fn R c ρ w:=by
 intro a b cs q u E;obtain⟨e,w',fr,r,x,y,G⟩:=h a b cs q u E;exact⟨e,w',fr,r,Comes.of_steps (.one (H a b cs)) x,y,G⟩
end
def Ao(P:bU)(ρ:Env)(w:ak):List ResultVar->(List ay->Prop)->Prop
 |[],K=>K []
 | .tmp t::c,K=>Ao P ρ w c λ vs=>K (ρ (t+1)::vs)
 | .cell a t::c,K=>rG P t (ρ (a+1)) w λ v=>Ao P ρ w c λ vs=>K (v::vs)
def rM(P:bU)(fn:Func)(ρ:Env)(w:ak)(K:ay->ak->Prop):Prop:=
 Ao P ρ w fn.results.toList λ vs=>match vs with
  |[v]=>K v w
  |vs=>K (.tuple ⟨vs⟩) w
def rv(tmps:Array ay):ResultVar->Sem ay
 | .tmp t=>pure (tmps.getD t dU)
 | .cell a t=>do loadVar t (<-asAddr (tmps.getD a dU))
theorem W3{P:bU}{a:Act}{n:Nat}{ρ:Env}{w:ak}(G:Ag dm a n ρ):∀{q:List ResultVar} {K:List ay->Prop},Ao P ρ w q K->
  ∃vs,(q.mapM (rv a.tmps)).run P w= .ok vs w/\vs.length=q.length/\K vs:=by
 intro q;induction q with
 |nil=>intro K h;exact⟨[],rfl,rfl,h⟩
 |cons r q I=>
  intro K h;cases r with
  |tmp t=>
   obtain⟨vs,c,y,x⟩:=I h;refine⟨_, ?_, ?_,x⟩
   ·rw[List.mapM_cons];have u:(rv a.tmps (.tmp t)).run P w= .ok (ρ (t+1)) w:=by simp only[rv,G.get t,Sem.run_pure]
    simp only[nH,u,Result.andThen_ok,c,Sem.run_pure]
   ·simp[y]
  |cell b t=>
   obtain⟨v,c,h⟩:=Lb h;obtain⟨vs,E,y,x⟩:=I h;refine⟨v::vs, ?_,by simp[y],x⟩;rw[List.mapM_cons];have u:(rv a.tmps (.cell b t)).run P w= .ok v w:=by
    simp only[rv,G.get b];unfold Instr.loadAt at c;cases H:ρ (b+1) with
    |pointer p=>
     rw[H] at c;cases p with
     |none=>simp[oM,stuck] at c
     |some J=>simpa[oM,asAddr] using c
    |_=>rw[H] at c;simp[oM,stuck] at c
   simp only[nH,u,Result.andThen_ok,E,Sem.run_pure]
theorem W4(fn:Func)(tmps:Array ay):results fn tmps=(do let vs<-fn.results.mapM (rv tmps);pure (if h:vs.size=1 then vs[0] else .tuple vs)):=rfl
theorem Ln{P:bU}{fn:Func}{K:ay->ak->Prop}{ρ:Env}{w:ak}{a:Act}(r:Ag dm a fn.ntmps ρ)(h:rM P fn ρ w K):
  ∃v,(results fn a.tmps).run P w= .ok v w/\K v w:=by
 obtain⟨vs,x,y,c⟩:=W3 r h;rw[W4];have q:(fn.results.mapM (rv a.tmps)).run P w= .ok vs.toArray w:=by
  rw[Array.mapM_eq_mapM_toList];simp only[Sem.run_map,x,Result.andThen_ok]
 simp only[nH,q,Result.andThen_ok]
 match vs,c with
 |[],c=>exact⟨_,rfl,c⟩
 |[v],c=>exact⟨_,rfl,c⟩
 |v::u::vs,c=>exact⟨_,rfl,c⟩
def gx(P:bU)(t:Fn)(c cap:Array ay)(w:ak)(N:ak->Prop):Prop:=
 ∃f args,(invoke (.fn t cap) c).run P w= .ok (.enter f args) w/\CallsD P f args .returning w λ e u w'=>(∃v,e= .returned v)/\u= .returning/\N w'
def Ap(dm:Option (Nat×Bool))(P:bU)(fn:Func)(ρ:Env)(w:ak)(K:ay->ak->Prop):Prop:=
 match dm with
 |none=>rM P fn ρ w K
 |some (t,c)=>match ρ 0,c with
  | .bool _,_=>rM P fn ρ w K
  | .pointer p,false=>gx P (.func t) #[.pointer p] #[] w λ w'=>rM P fn ρ w' K
  | .pointer p,true=>gx P (.func t) #[] #[.pointer p] w λ w'=>rM P fn ρ w' K
  |_,_=>False
theorem Lo{P:bU}{f:fz}{fn:Func}{K:ay->ak->Prop}{ρ:Env}{w:ak}{c:List Item}(hf:P.funcs[f]? =some fn)
  (hs:∀(a:Act) (b:Frame) (cs:List Frame),∃t,step P (lone (b.at a c) cs w)= .next (lone {b.at a t with mode:= .returning} cs w))(h:Ap dm P fn ρ w K):
  gl dm P f fn (kf K) c ρ w:=by
 intro a b cs N U hk;obtain⟨t,I⟩:=hs a b cs;have plain:nK dm ρ=[]->rM P fn ρ w K->∃e w' fr,kf K e w'/\Comes P (lone (b.at a c) cs w) (lone fr cs w') e/\fr.fn=f/\fr.leaving P w' e:=by
  intro y h;obtain⟨v,hv,E⟩:=Ln N h;exact⟨.returned v,w,_,E, .one I,U,rfl,N.defers.trans y,hk,fn,by simpa[Frame.at,U] using hf,hv⟩
 have r:∀(J:Fn) (q cap:Array ay),nK dm ρ=[{target:= .fn J cap,args:=q}]->gx P J q cap w (λ w'=>rM P fn ρ w' K)->
   ∃e w' fr,kf K e w'/\Comes P (lone (b.at a c) cs w) (lone fr cs w') e/\fr.fn=f/\fr.leaving P w' e:=by
  rintro J q cap y⟨g,args,hi,hc⟩;have H:a.defers=[{target:= .fn J cap,args:=q}]:=N.defers.trans y;have hl:Leaves P fn a.tmps (kf K) a.defers .returning w:=by
   rw[H];refine⟨by simp,J,cap,g,args,rfl,hi,hc.mono ?_⟩;rintro e u w' ⟨⟨v,rfl⟩,rfl,hr⟩;obtain⟨v,hv,E⟩:=Ln N hr;exact⟨v,hv,E⟩
  obtain⟨e',w'',W,hR,X,Z,Xq⟩:=leaves_steps a.defers .returning w {b.at a t with mode:= .returning} cs rfl rfl rfl (by simpa[Frame.at,U] using hf) hk hl;exact⟨e',w'',W,hR,Comes.of_steps (.one I) X,Z.trans U,Xq⟩
 cases dm with
 |none=>exact plain rfl h
 |some x=>
  obtain⟨ft,fc⟩:=x;unfold Ap at h;simp only[] at h;split at h
  ·rename_i b0 G;exact plain (by simp[nK,G,dl]) h
  ·rename_i p G;exact r _ _ _ (by simp[nK,G,dl]) h
  ·rename_i p G;exact r _ _ _ (by simp[nK,G,dl]) h
  ·exact h.elim
def rN:Code->Option Nat
 | .region id _ _=>some id
 | .seq (.skip) b| .seq (.label _) b=>rN b
 | .seq a _=>rN a
 | .block _ c=>rN c
 | .loop c=>rN c
 |_=>none
def tH:Code->Nat
 | .seq (.skip) b| .seq (.label _) b=>tH b
 | .seq a _=>tH a
 | .block _ c=>tH c
 | .loop c=>tH c+5000
 |_=>0
def keyOf:List Item->Option Nat
 | .code (.loop c)::_=>(rN c).map (·+(1000000+tH c))
 | .code c::_=>rN c
 | .inLoop c::_=>(rN c).map (·+(2000000+tH c))
 |_=>none
abbrev nT:=List (Nat×(Env->ak->Prop))
def cutAt(h:nT)(q:List Item):Option (Env->ak->Prop):=
 match keyOf q with
 |some k=>match h.find? (λ c=>Nat.beq c.1 k) with
  |some c=>some c.2
  |none=>none
 |none=>none
def Aq(dm:Option (Nat×Bool))(P:bU)(n:Nat)(ops:Array eg)(h:Bool)(K:Env->ak->Prop)(ρ:Env)(w:ak):Prop:=
 match dm,h with
 |some (t,c),false=>match qw n ops.toList with
  |true=>mL P t c ops.toList 0 ops.toList K ρ w
  |false=>False
 |_,_=>vY P n ops h K ρ w
def jz(dm:Option (Nat×Bool))(P:bU)(fn:Func)(K:ay->ak->Prop)(h:nT):Nat->Bool->List Item->Env->ak->Prop
 |0,_,_,_,_=>False
 |q+1,gk,r,ρ,w=>
  match gk,cutAt h r with
  |true,some J=>J ρ w
  |_,_=>
   match r with
   |[]=>Ap dm P fn ρ w K
   | .code c::k=>
    match c with
    | .ret=>Ap dm P fn ρ w K
    | .skip=>jz dm P fn K h q true k ρ w
    | .label _=>jz dm P fn K h q true k ρ w
    | .seq a b=>jz dm P fn K h q false (.code a:: .code b::k) ρ w
    | .cond c a b=>match ev ρ c with
     | .bool t=>aB t (jz dm P fn K h q true (.code a::k) ρ w) (jz dm P fn K h q true (.code b::k) ρ w)
     |_=>False
    | .block id c=>jz dm P fn K h q false (.code c:: .inBlock id::k) ρ w
    | .exit id=>match exitTo id k with
     |some x=>jz dm P fn K h q true x ρ w
     |none=>False
    | .region _ ops u=>Aq dm P fn.ntmps ops u (λ ρ w=>jz dm P fn K h q true k ρ w) ρ w
    | .loop _=>match cutAt h r with
     |some J=>J ρ w
     |none=>False
    |_=>False
   | .inBlock _::k=>jz dm P fn K h q true k ρ w
   |_=>False
def kD(h:nT):Nat->Bool->List Item->List ((Env->ak->Prop)×List Item)
 |0,_,_=>[]
 |q+1,gk,r=>
  match gk,cutAt h r with
  |true,some J=>[(J,r)]
  |_,_=>
   match r with
   | .code c::k=>
    match c with
    | .skip=>kD h q true k
    | .label _=>kD h q true k
    | .seq a b=>kD h q false (.code a:: .code b::k)
    | .cond _ a b=>kD h q true (.code a::k)++kD h q true (.code b::k)
    | .block id c=>kD h q false (.code c:: .inBlock id::k)
    | .exit id=>match exitTo id k with
     |some u=>kD h q true u
     |none=>[]
    | .region _ _ _=>kD h q true k
    | .loop _=>match cutAt h r with
     |some J=>[(J,r)]
     |none=>[]
    |_=>[]
   | .inBlock _::k=>kD h q true k
   |_=>[]
def mN(G:List Item->Env->ak->Prop):List ((Env->ak->Prop)×List Item)->Prop
 |[]=>True
 |h::c=>(∀ρ w,h.1 ρ w->G h.2 ρ w)/\mN G c
theorem W5{G:List Item->Env->ak->Prop}:∀{a b:List ((Env->ak->Prop)×List Item)},mN G (a++b)->mN G a/\mN G b:=by
 intro a;induction a with
 |nil=>intro b h;exact⟨trivial,h⟩
 |cons x a c=>intro b h;exact⟨⟨h.1,(c h.2).1⟩,(c h.2).2⟩
theorem W6{P:bU}{n:Nat}{ops:Array eg}{q:Bool}{K:Env->ak->Prop}{ρ:Env}{w:ak}(h:Aq dm P n ops q K ρ w):
  (∃t c,dm=some (t,c)/\q=false/\qw n ops.toList=true/\mL P t c ops.toList 0 ops.toList K ρ w)\/vY P n ops q K ρ w:=by
 cases dm with
 |none=>exact .inr h
 |some x=>
  obtain⟨t,c⟩:=x;cases q
  ·unfold Aq at h;simp only[] at h;split at h
   ·rename_i hd;exact .inl ⟨t,c,rfl,rfl,hd,h⟩
   ·exact h.elim
  ·exact .inr h
theorem W7{P:bU}{f:fz}{fn:Func}{R:Ending->ak->Prop}{k:List Item}{id:Nat}{ops:Array eg}{q:Bool}{K:Env->ak->Prop}(G:∀ρ w,K ρ w->gl dm P f fn R k ρ w){ρ:Env}{w:ak}(h:Aq dm P fn.ntmps ops q K ρ w):gl dm P f fn R (.code (.region id ops q)::k) ρ w:=by
 intro a b cs r X hk
 let Q:Exit->Act->ak->Prop:=λ e y w'=>e= .normal/\∃U,Ag dm y fn.ntmps U/\gl dm P f fn R k U w'
 have N:(Code.region id ops q).wp P Q a w:=by
  have H:=W6 h;clear h;rcases H with⟨ft,fc,I,eZ,hd,h⟩|h
  ·subst I;subst eZ;exact wp_region_list (Wx hd (λ a ρ w r u=>⟨rfl,ρ,r,G _ _ u⟩) _ 0 ρ a w (λ _ h=>h) r h)
  unfold vY at h;split at h
  ·rename_i hd;exact wp_region_list (Lf hd (λ a ρ w r u=>⟨rfl,ρ,r,G _ _ u⟩) _ 0 ρ a w (λ _ h=>h) r h)
  ·rename_i hd;split at h
   ·rename_i J;simp only[Bool.and_eq_true] at J;refine wp_region_any J.1 (Lg _ [] _ _ _ ?_);exact Lm hd J.2 (λ a ρ w r u=>⟨rfl,ρ,r,G _ _ u⟩) (λ c a w h=>by cases h.1) _ _ [] ρ a _ r (λ p hp=>by cases hp) h
   ·exact h.elim
  ·exact h.elim
 obtain⟨e,y,w',⟨rfl,U,E,u⟩,x⟩:=N b k cs;obtain⟨e,w'',fr,W,H,Z,hl⟩:=u y b cs E X hk;exact⟨e,w'',fr,W,Comes.of_steps x H,Z,hl⟩
theorem Lp{P:bU}{f:fz}{fn:Func}{K:ay->ak->Prop}{E:nT}(hf:P.funcs[f]? =some fn):
  ∀(r:Nat) (gk:Bool) (q:List Item) (ρ:Env) (w:ak),mN (gl dm P f fn (kf K)) (kD E r gk q)->
   jz dm P fn K E r gk q ρ w->gl dm P f fn (kf K) q ρ w:=by
 intro r;induction r with
 |zero=>intro gk q ρ w _ h;exact h.elim
 |succ r y=>
  intro gk q ρ w u h;unfold jz at h;unfold kD at u;split at h
  ·rename_i J N;simp only[N] at u;exact u.1 ρ w h
  ·rename_i eY;split at u
   ·rename_i J N;exact absurd N (by intro he;exact eY J rfl he)
   ·cases q with
    |nil=>exact Lo hf (λ a b cs=>⟨[],step_end⟩) h
    |cons x k=>
     cases x with
     |code c=>
      cases c with
      |ret=>exact Lo hf (λ a b cs=>⟨_,step_ret⟩) h
      |skip=>exact(y _ _ _ _ u h).step λ a b cs=>step_skip
      |label l=>exact(y _ _ _ _ u h).step λ a b cs=>step_label
      |seq a b=>exact(y _ _ _ _ u h).step λ _ _ _=>step_seq
      |cond c a b=>
       obtain⟨h1,h2⟩:=W5 u;simp only[] at h;split at h
       ·rename_i t ht;intro W fr cs X hb hk;have hc:W.eval c= .bool t:=by rw[X.ev];exact ht
        cases t with
        |true=>
         obtain⟨e,w',G,Z,H,I,hl⟩:=y _ _ _ _ h1 h W fr cs X hb hk;exact⟨e,w',G,Z,Comes.of_steps (.one (step_cond hc)) H,I,hl⟩
        |false=>
         obtain⟨e,w',G,Z,H,I,hl⟩:=y _ _ _ _ h2 h W fr cs X hb hk;exact⟨e,w',G,Z,Comes.of_steps (.one (step_cond hc)) H,I,hl⟩
       ·exact h.elim
      |block id c=>exact(y _ _ _ _ u h).step λ _ _ _=>step_block
      |exit id=>
       simp only[] at h u;split at h
       ·rename_i k' U;simp only[U] at u;exact(y _ _ _ _ u h).step λ _ _ _=>step_exit U
       ·exact h.elim
      |region id ops draw=>exact W7 (λ ρ w hg=>y _ _ _ _ u hg) h
      |loop c=>
       simp only[] at h u;split at h
       ·rename_i J N;simp only[N] at u;exact u.1 ρ w h
       ·exact h.elim
      |_=>exact h.elim
     |inBlock id=>exact(y _ _ _ _ u h).step λ _ _ _=>step_inBlock
     |_=>exact h.elim
theorem W8{P:bU}{f:fz}{fn:Func}{R:Ending->ak->Prop}{c:Code}{k:List Item}{ρ:Env}{w:ak}
  (h:gl dm P f fn R (.code c:: .inLoop c::k) ρ w):gl dm P f fn R (.inLoop c::k) ρ w:=
 h.step λ _ _ _=>step_inLoop
theorem W9{P:bU}{f:fz}{fn:Func}{R:Ending->ak->Prop}{c:Code}{k:List Item}{ρ:Env}{w:ak}
  (h:gl dm P f fn R (.code c:: .inLoop c::k) ρ w):gl dm P f fn R (.code (.loop c)::k) ρ w:=
 h.step λ _ _ _=>step_loop
def Eu{α:Type}(F:(α->ak->Prop)->α->ak->Prop)(x:α)(w:ak):Prop:=
 ∃(I:α->ak->Prop) (μ:α->ak->Nat),I x w/\∀x w,I x w->F (λ c w'=>I c w'/\μ c w'<μ x w) x w
theorem W_{α:Type}{P:bU}{f:fz}{fn:Func}{R:Ending->ak->Prop}{c:Code}{k:List Item}{F:(α->ak->Prop)->α->ak->Prop}
  (J:(α->ak->Prop)->Env->ak->Prop)
  (U:∀{r:α->ak->Prop} {ρ:Env} {w:ak},J r ρ w->∃x,r x w/\∀{u:α->ak->Prop} {w:ak},u x w->J u ρ w)
  (q:∀r:α->ak->Prop,(∀ρ w,J r ρ w->gl dm P f fn R (.inLoop c::k) ρ w)->∀ρ w,J (F r) ρ w->gl dm P f fn R (.code c:: .inLoop c::k) ρ w)
  {ρ:Env}{w:ak}(h:J (Eu F) ρ w):gl dm P f fn R (.code (.loop c)::k) ρ w:=by
 obtain⟨x,⟨I,μ,X,hr⟩,H⟩:=U h;have key:∀(m:Nat) (ρ:Env) (w:ak) (x:α),μ x w=m->I x w->(∀{u:α->ak->Prop} {w:ak},u x w->J u ρ w)->gl dm P f fn R (.code c:: .inLoop c::k) ρ w:=by
  intro m;induction m using Nat.strongRecOn with
  |_ m ih=>
   intro ρ w x hm hI H;have Z:=hr x w hI;refine q _ ?_ ρ w (H Z);intro ρ' w' E;obtain⟨W,⟨y,G⟩,N⟩:=U E;exact W8 (ih (μ W w') (hm▸G) ρ' w' W rfl y N)
 exact W9 (key _ ρ w x rfl X H)
def argsAt:List ay->Env
 |[]=>λ _=>dU
 |v::vs=>λ i=>match i with
  |0=>v
  |i+1=>argsAt vs i
def Ar(vs:List ay):Env:=λ i=>match i with
 |0=> .bool false
 |i+1=>argsAt vs i
theorem Xa:∀(vs:List ay) (i:Nat),argsAt vs i=vs.getD i dU:=by
 intro vs;induction vs with
 |nil=>intro i;rfl
 |cons v vs c=>
  intro i;cases i with
  |zero=>rfl
  |succ i=>simpa[argsAt] using c i
theorem Xb{P:bU}{f:fz}{fn:Func}{c:Code}{K:ay->ak->Prop}{args:Array ay}{w:ak}(G:P.funcs[f]? =some fn)(E:fn.body=some c)
  (H:Nat.ble args.size fn.ntmps=true)(h:gl dm P f fn (kf K) [.code c] (Ar args.toList) w):au P f args w K:=by
 intro cs
 let b:Frame:={(default:Frame) with fn:=f,kind:= .normal}
 have I:args.size<=fn.ntmps:=Nat.le_of_ble_eq_true H
 let a:Act:={tmps:=args++Array.replicate (fn.ntmps-args.size) dU,defers:=[]}
 have q:Frame.enter P f args .normal=b.at a [.code c]:=by
  simp[Frame.enter,Frame.at,G,E,b,a]
 have u:Ag dm a fn.ntmps (Ar args.toList):=by
  refine⟨by simp[a];omega,by cases dm with
   |none=>rfl
   |some x=>obtain⟨x,y⟩:=x;cases y<;>rfl,λ i=> ?_⟩
  show _=argsAt _ i;rw[Xa];simp only[a];by_cases hi:i<args.size
  ·simp[Array.getElem?_append,hi]
  ·have J:args.size<=i:=Nat.le_of_not_lt hi;simp[Array.getElem?_append,hi,Array.getElem?_replicate];by_cases r:i-args.size<fn.ntmps-args.size
   ·simp[r]
   ·simp[r]
 rw[q];exact h a b cs u rfl rfl
def rO:List Nat->Code->Code
 |[],c=>c
 |0::p, .seq a _=>rO p a
 |1::p, .seq _ b=>rO p b
 |0::p, .cond _ a _=>rO p a
 |1::p, .cond _ _ b=>rO p b
 |_::p, .block _ c=>rO p c
 |_::p, .loop c=>rO p c
 |_::p, .scope c=>rO p c
 |_,c=>c
def As(ρ:Env):List (Nat×ay)->Env
 |[]=>ρ
 |p::l=>jL (As ρ l) p.1 p.2
def Ev(ρ:Env):List (Nat×ay)->Prop
 |[]=>True
 |p::l=>ρ p.1=p.2/\Ev ρ l
end
end Go.V
