/- The law FnIndexTable answers true for every input, and what came in reads behind the call as it read before (Rows.FnIndexTableCardSaid). Conditions: those of the given card alone, which ties the listed package variables to the program. Packed by a program of ours: short names, no remarks. -/
import Derived.Test.YtlhckhmoneeilaaGreatDoorTA
set_option linter.all false
set_option maxHeartbeats 4000000
set_option maxRecDepth 100000
set_option autoImplicit true
open Go renaming Addr→kd,FuncId→fz,Program→bU,Value→ay,World→ak
open List renaming map_cons→hW,mem_append→mG,mem_cons_of_mem→jI,mem_cons→dX,mem_singleton→oO
open Nat renaming eq_of_beq_eq_true→qk
namespace Go.V
inductive Kd where
 |p|o|b|s|l|m|a|i (k:IntKind)|f (k:FloatKind)
inductive SK where
 |k (x:Kd)|g (ks:List Kd)|t (ks:List Kd)
abbrev bG:=List (Nat×SK)
@[reducible] def KT (R:Type):Kd->Type
 | .p=>kd->R
 | .o=>Option kd->R
 | .b=>Bool->R
 | .s=>ByteArray->R
 | .l=>Option kd->Nat->Nat->R
 | .m=>Option Nat->R
 | .a=>ay->R
 | .i _=>Int->R
 | .f _=>Nat->R
@[reducible] def bK (R:Type):List Kd->Type
 |[]=>R
 |k::ks=>KT (bK R ks) k
@[reducible] def bS (R:Type):SK->Type
 | .k x=>KT R x
 | .g ks=>bK R ks
 | .t ks=>bK R ks
@[reducible] def bF (X:Type):bG->Type
 |[]=>X
 |(_,s)::l=>bS (bF X l) s
abbrev T(l:bG):Type:=bF (ak->Prop) l
abbrev VP:Type:=ay->ak->Prop
def mk{R:Type}:(k:Kd)->(ay->R)->KT R k
 | .p,G=>λ a=>G (.pointer (some a))
 | .o,G=>λ a=>G (.pointer a)
 | .b,G=>λ a=>G (.bool a)
 | .s,G=>λ a=>G (.string a)
 | .l,G=>λ a n c=>G (.slice a n c)
 | .m,G=>λ a=>G (.map a)
 | .a,G=>G
 | .i k,G=>λ a=>G (.int k a)
 | .f k,G=>λ a=>G (.float k a)
def vZ{R:Type}:(ks:List Kd)->(List ay->R)->bK R ks
 |[],G=>G []
 |k::ks,G=>mk k λ v=>vZ ks λ vs=>G (v::vs)
def Lq{R:Type}:(s:SK)->(ay->R)->bS R s
 | .k x,G=>mk x G
 | .g ks,G=>vZ ks λ vs=>G (.agg ⟨vs⟩)
 | .t ks,G=>vZ ks λ vs=>G (.tuple ⟨vs⟩)
def mt{R:Type}:(k:Kd)->KT R k->(R->Prop)->ay->Prop
 | .p,V,F, .pointer (some a)=>F (V a)
 | .o,V,F, .pointer a=>F (V a)
 | .b,V,F, .bool a=>F (V a)
 | .s,V,F, .string a=>F (V a)
 | .l,V,F, .slice a n c=>F (V a n c)
 | .m,V,F, .map a=>F (V a)
 | .a,V,F,v=>F (V v)
 | .i k,V,F, .int h a=>match decide (h=k) with
  |true=>F (V a)
  |false=>False
 | .f k,V,F, .float h a=>match decide (h=k) with
  |true=>F (V a)
  |false=>False
 |_,_,_,_=>False
def tI{R:Type}:(ks:List Kd)->bK R ks->(R->Prop)->List ay->Prop
 |[],V,F,[]=>F V
 |k::ks,V,F,v::vs=>mt k V (λ h=>tI ks h F vs) v
 |_,_,_,_=>False
def Au{R:Type}:(s:SK)->bS R s->(R->Prop)->ay->Prop
 | .k x,V,F,v=>mt x V F v
 | .g ks,V,F, .agg vs=>tI ks V F vs.toList
 | .t ks,V,F, .tuple vs=>tI ks V F vs.toList
 |_,_,_,_=>False
theorem Ls{R:Type}{k:Kd}{G:ay->R}{F:R->Prop}{v:ay}(h:mt k (mk k G) F v):F (G v):=by
 cases k<;>cases v<;>first|exact h|(exact h.elim;done)|skip
 case p.pointer a=>cases a<;>first|exact h|exact h.elim
 case i.int k k' a=>
  simp only[mt] at h;split at h
  ·rename_i hd;obtain rfl:=of_decide_eq_true hd;exact h
  ·exact h.elim
 case f.float k k' a=>
  simp only[mt] at h;split at h
  ·rename_i hd;obtain rfl:=of_decide_eq_true hd;exact h
  ·exact h.elim
theorem Ew{R:Type}:∀{ks:List Kd} {G:List ay->R} {F:R->Prop} {vs:List ay},tI ks (vZ ks G) F vs->F (G vs)
 |[],_,_,[],h=>h
 |_::ks,G,F,v::_,h=>Ew (ks:=ks) (G:=λ vs=>G (v::vs)) (F:=F) (Ls (G:=λ v=>vZ ks λ vs=>G (v::vs)) h)
 |[],_,_,_::_,h=>h.elim
 |_::_,_,_,[],h=>h.elim
theorem Xe{R:Type}{s:SK}{G:ay->R}{F:R->Prop}{v:ay}(h:Au s (Lq s G) F v):F (G v):=by
 cases s with
 |k x=>exact Ls h
 |g ks=>cases v<;>first|exact h.elim|exact Ew (G:=λ vs=>G (.agg ⟨vs⟩)) h
 |t ks=>cases v<;>first|exact h.elim|exact Ew (G:=λ vs=>G (.tuple ⟨vs⟩)) h
def JS:(l:bG)->bF (ak->Prop) l->Env->ak->Prop
 |[],V,_,w=>V w
 |(x,s)::l,V,ρ,w=>Au s V (λ h=>JS l h ρ w) (ρ x)
def EE{X:Type}:(l:bG)->(Env->X)->Env->bF X l
 |[],E,ρ=>E ρ
 |(x,s)::l,E,ρ=>Lq s λ v=>EE l E (jL ρ x v)
theorem Lt:∀{l:bG} {E:Env->ak->Prop} {ρ:Env} {w:ak},JS l (EE l E ρ) ρ w->E ρ w
 |[],_,_,_,h=>h
 |(x,s)::l,E,ρ,w,h=>by
  have q:JS l (EE l E (jL ρ x (ρ x))) ρ w:=Xe (G:=λ v=>EE l E (jL ρ x v)) (F:=λ r=>JS l r ρ w) h;rw[<-K3 rfl] at q;exact Lt q
@[reducible] def TA:Kd->Type
 | .p=>kd
 | .o=>Option kd
 | .b=>Bool
 | .s=>ByteArray
 | .l=>Option kd×Nat×Nat
 | .m=>Option Nat
 | .a=>ay
 | .i _=>Int
 | .f _=>Nat
@[reducible] def TK:List Kd->Type
 |[]=>Unit
 |k::ks=>TA k×TK ks
@[reducible] def TT:SK->Type
 | .k x=>TA x
 | .g ks=>TK ks
 | .t ks=>TK ks
@[reducible] def Tu:bG->Type
 |[]=>Unit
 |(_,s)::l=>TT s×Tu l
def bM{R:Type}:(k:Kd)->(TA k->R)->KT R k
 | .p,F=>F
 | .o,F=>F
 | .b,F=>F
 | .s,F=>F
 | .l,F=>λ a n c=>F (a,n,c)
 | .m,F=>F
 | .a,F=>F
 | .i _,F=>F
 | .f _,F=>F
def bN{R:Type}:(k:Kd)->KT R k->TA k->R
 | .p,V,a=>V a
 | .o,V,a=>V a
 | .b,V,a=>V a
 | .s,V,a=>V a
 | .l,V,(a,n,c)=>V a n c
 | .m,V,a=>V a
 | .a,V,a=>V a
 | .i _,V,a=>V a
 | .f _,V,a=>V a
def bJ{R:Type}:(ks:List Kd)->(TK ks->R)->bK R ks
 |[],F=>F ()
 |k::ks,F=>bM k λ a=>bJ ks λ t=>F (a,t)
def bO{R:Type}:(ks:List Kd)->bK R ks->TK ks->R
 |[],V,_=>V
 |k::ks,V,(a,t)=>bO ks (bN k V a) t
def bP{R:Type}:(s:SK)->(TT s->R)->bS R s
 | .k x,F=>bM x F
 | .g ks,F=>bJ ks F
 | .t ks,F=>bJ ks F
def bQ{R:Type}:(s:SK)->bS R s->TT s->R
 | .k x,V,a=>bN x V a
 | .g ks,V,a=>bO ks V a
 | .t ks,V,a=>bO ks V a
def cur{X:Type}:(l:bG)->(Tu l->X)->bF X l
 |[],F=>F ()
 |(_,s)::l,F=>bP s λ a=>cur l λ t=>F (a,t)
def bH{X:Type}:(l:bG)->bF X l->Tu l->X
 |[],V,_=>V
 |(_,s)::l,V,(a,t)=>bH l (bQ s V a) t
theorem Lu{R:Type}(k:Kd)(V:KT R k):bM k (bN k V)=V:=by cases k<;>rfl
theorem Lv{R:Type}(k:Kd)(F:TA k->R)(a:TA k):bN k (bM k F) a=F a:=by cases k<;>rfl
theorem Ex{R:Type}:∀(ks:List Kd) (V:bK R ks),bJ ks (bO ks V)=V
 |[],_=>rfl
 |k::ks,V=>by
  show bM k (λ a=>bJ ks (bO ks (bN k V a)))=V;have:(λ a=>bJ ks (bO ks (bN k V a)))=bN k V:=funext λ a=>Ex ks _
  rw[this,Lu]
theorem Ey{R:Type}:∀(ks:List Kd) (F:TK ks->R) (a:TK ks),bO ks (bJ ks F) a=F a
 |[],_,_=>rfl
 |k::ks,F,(a,t)=>by
  show bO ks (bN k (bM k λ a=>bJ ks λ t=>F (a,t)) a) t=_;rw[Lv,Ey]
theorem Xf{R:Type}(s:SK)(V:bS R s):bP s (bQ s V)=V:=by
 cases s with
 |k x=>exact Lu x V
 |g ks=>exact Ex ks V
 |t ks=>exact Ex ks V
theorem Xg{R:Type}(s:SK)(F:TT s->R)(a:TT s):bQ s (bP s F) a=F a:=by
 cases s with
 |k x=>exact Lv x F a
 |g ks=>exact Ey ks F a
 |t ks=>exact Ey ks F a
theorem Lw{X:Type}:∀(l:bG) (V:bF X l),cur l (bH l V)=V
 |[],_=>rfl
 |(_,s)::l,V=>by
  show bP s (λ a=>cur l (bH l (bQ s V a)))=V;have:(λ a=>cur l (bH l (bQ s V a)))=bQ s V:=funext λ a=>Lw l _
  rw[this,Xf]
theorem Lx{R:Type}{k:Kd}{F:TA k->R}{G:R->Prop}{v:ay}(h:mt k (bM k F) G v):∃a,G (F a)/\∀{q:TA k->R} {r:R->Prop},r (q a)->mt k (bM k q) r v:=by
 cases k<;>cases v<;>first|exact h.elim|exact⟨_,h,λ h=>h⟩|skip
 case p.pointer a=>cases a<;>first|exact h.elim|exact⟨_,h,λ h=>h⟩
 case i.int k k' a=>
  simp only[mt] at h⊢;split at h
  ·rename_i hd;exact⟨a,h,λ h=>h⟩
  ·exact h.elim
 case f.float k k' a=>
  simp only[mt] at h⊢;split at h
  ·rename_i hd;exact⟨a,h,λ h=>h⟩
  ·exact h.elim
theorem Ez{R:Type}:∀{ks:List Kd} {F:TK ks->R} {G:R->Prop} {vs:List ay},tI ks (bJ ks F) G vs->∃a,G (F a)/\∀{q:TK ks->R} {r:R->Prop},r (q a)->tI ks (bJ ks q) r vs
 |[],_,_,[],h=>⟨(),h,λ h=>h⟩
 |_::_,_,_,_::_,h=>by
  obtain⟨a,u,w⟩:=Lx h;obtain⟨t,x,y⟩:=Ez u;exact⟨(a,t),x,λ h=>w (y h)⟩
 |[],_,_,_::_,h=>h.elim
 |_::_,_,_,[],h=>h.elim
theorem Xh{R:Type}{s:SK}{F:TT s->R}{G:R->Prop}{v:ay}(h:Au s (bP s F) G v):∃a,G (F a)/\∀{q:TT s->R} {r:R->Prop},r (q a)->Au s (bP s q) r v:=by
 cases s with
 |k x=>exact Lx h
 |g ks=>cases v<;>first|exact h.elim|exact Ez h
 |t ks=>cases v<;>first|exact h.elim|exact Ez h
theorem Ly:∀{l:bG} {N:Tu l->ak->Prop} {ρ:Env} {w:ak},JS l (cur l N) ρ w->∃x,N x w/\∀{q:Tu l->ak->Prop} {w':ak},q x w'->JS l (cur l q) ρ w'
 |[],_,_,_,h=>⟨(),h,λ h=>h⟩
 |(_,_)::_,_,_,_,h=>by
  obtain⟨a,r,u⟩:=Xh h;obtain⟨t,y,E⟩:=Ly r;exact⟨(a,t),y,λ h=>u (E h)⟩
def lp(l:bG)(B:bF (ak->Prop) l->bF (ak->Prop) l):bF (ak->Prop) l:=cur l (Eu λ N=>bH l (B (cur l N)))
@[reducible] def bX:(k:Kd)->(TA k->Prop)->Prop
 | .p,Q=>∀{a:kd},Q a
 | .o,Q=>∀{a:Option kd},Q a
 | .b,Q=>∀{a:Bool},Q a
 | .s,Q=>∀{a:ByteArray},Q a
 | .l,Q=>∀{p:Option kd} {n c:Nat},Q (p,n,c)
 | .m,Q=>∀{a:Option Nat},Q a
 | .a,Q=>∀{a:ay},Q a
 | .i _,Q=>∀{a:Int},Q a
 | .f _,Q=>∀{a:Nat},Q a
@[reducible] def bY:(k:Kd)->(TA k->Prop)->Prop
 | .p,Q=>∀a:kd,Q a
 | .o,Q=>∀a:Option kd,Q a
 | .b,Q=>∀a:Bool,Q a
 | .s,Q=>∀a:ByteArray,Q a
 | .l,Q=>∀(p:Option kd) (n c:Nat),Q (p,n,c)
 | .m,Q=>∀a:Option Nat,Q a
 | .a,Q=>∀a:ay,Q a
 | .i _,Q=>∀a:Int,Q a
 | .f _,Q=>∀a:Nat,Q a
@[reducible] def bV:(ks:List Kd)->(TK ks->Prop)->Prop
 |[],Q=>Q ()
 |k::ks,Q=>bX k λ a=>bV ks λ t=>Q (a,t)
@[reducible] def bW:(ks:List Kd)->(TK ks->Prop)->Prop
 |[],Q=>Q ()
 |k::ks,Q=>bY k λ a=>bW ks λ t=>Q (a,t)
@[reducible] def cg:(s:SK)->(TT s->Prop)->Prop
 | .k x,Q=>bX x Q
 | .g ks,Q=>bV ks Q
 | .t ks,Q=>bV ks Q
@[reducible] def ck:(s:SK)->(TT s->Prop)->Prop
 | .k x,Q=>bY x Q
 | .g ks,Q=>bW ks Q
 | .t ks,Q=>bW ks Q
@[reducible] def aI:(l:bG)->(Tu l->Prop)->Prop
 |[],Q=>Q ()
 |(_,s)::l,Q=>cg s λ a=>aI l λ t=>Q (a,t)
@[reducible] def aE:(l:bG)->(Tu l->Prop)->Prop
 |[],Q=>Q ()
 |(_,s)::l,Q=>ck s λ a=>aE l λ t=>Q (a,t)
theorem Lz{k:Kd}{Q:TA k->Prop}(h:∀a,Q a):bX k Q:=by
 cases k<;>intros<;>exact h _
theorem LA{k:Kd}{Q:TA k->Prop}(h:bY k Q):∀a,Q a:=by
 cases k<;>first|exact h|(rintro⟨a,n,c⟩;exact h a n c)
theorem EA:∀{ks:List Kd} {Q:TK ks->Prop},(∀a,Q a)->bV ks Q
 |[],_,h=>h _
 |_::_,_,h=>Lz λ _=>EA λ _=>h _
theorem EB:∀{ks:List Kd} {Q:TK ks->Prop},bW ks Q->∀a,Q a
 |[],_,h,_=>h
 |_::_,_,h,(a,t)=>EB (LA h a) t
theorem LB:∀{l:bG} {Q:Tu l->Prop},(∀a,Q a)->aI l Q
 |[],_,h=>h _
 |(_,s)::l,Q,h=>by
  have q:∀a,aI l λ t=>Q (a,t):=λ a=>LB λ t=>h _
  cases s with
  |k x=>exact Lz q
  |g ks=>exact EA q
  |t ks=>exact EA q
theorem LC:∀{l:bG} {Q:Tu l->Prop},aE l Q->∀a,Q a
 |[],_,h,_=>h
 |(_,s)::l,Q,h,(a,t)=>by
  have q:aE l λ t=>Q (a,t):=by
   cases s with
   |k x=>exact LA h a
   |g ks=>exact EB h a
   |t ks=>exact EB h a
  exact LC q t
theorem cy{l:bG}{B:bF (ak->Prop) l->bF (ak->Prop) l}{V:bF (ak->Prop) l}(u:lp l B=V)(I:bF (ak->Prop) l)(μ:bF (ak->Nat) l):
  aI l λ x=>∀{w:ak},bH l I x w->(aE l λ x=>∀w,bH l I x w->bH l (B (cur l λ q w'=>bH l I q w'/\bH l μ q w'<bH l μ x w)) x w)->bH l V x w:=by
 refine LB λ x=> ?_
 intro w r E;rw[<-u];have e:bH l (lp l B) x w=Eu (λ N=>bH l (B (cur l N))) x w:=by
  unfold lp;have:∀{l:bG} (F:Tu l->ak->Prop) (x:Tu l),bH l (cur l F) x=F x:=by
   intro l;induction l with
   |nil=>intro F x;rfl
   |cons y l G=>
    intro F x;obtain⟨n,s⟩:=y;obtain⟨a,t⟩:=x;show bH l (bQ s (bP s λ a=>cur l λ t=>F (a,t)) a) t=_;rw[Xg,G]
  rw[this]
 rw[e];exact⟨bH l I,bH l μ,r,λ x w h=>LC E x w h⟩
def Av(k:Nat)(r:List Item):Bool:=
 match keyOf r with
 |some x=>Nat.beq x k
 |none=>false
def rP(k:Nat):Code->List Item->Option (List Item)
 |c,r=>
  match Av k (.code c::r) with
  |true=>some (.code c::r)
  |false=>match c with
   | .seq a b=>match rP k a (.code b::r) with
    |some x=>some x
    |none=>rP k b r
   | .cond _ a b=>match rP k a r with
    |some x=>some x
    |none=>rP k b r
   | .block id c=>rP k c (.inBlock id::r)
   | .loop c=>match Av k (.inLoop c::r) with
    |true=>some (.inLoop c::r)
    |false=>rP k c (.inLoop c::r)
   |_=>none
def iG(c:Code)(k:Nat):List Item:=(rP k c []).getD []
def rQ(ks:List Nat)(h:List Item):Option Nat:=
 match keyOf h with
 |some k=>ks.find? (λ c=>Nat.beq c k)
 |none=>none
def h_(ks:List Nat):Nat->Bool->List Item->List (Nat×List Item)
 |0,_,_=>[]
 |h+1,gk,q=>
  match gk,rQ ks q with
  |true,some k=>[(k,q)]
  |_,_=>
   match q with
   | .code c::k=>
    match c with
    | .skip=>h_ ks h true k
    | .label _=>h_ ks h true k
    | .seq a b=>h_ ks h false (.code a:: .code b::k)
    | .cond _ a b=>h_ ks h true (.code a::k)++h_ ks h true (.code b::k)
    | .block id c=>h_ ks h false (.code c:: .inBlock id::k)
    | .exit id=>match exitTo id k with
     |some r=>h_ ks h true r
     |none=>[]
    | .region _ _ _=>h_ ks h true k
    | .loop _=>match rQ ks q with
     |some k=>[(k,q)]
     |none=>[]
    |_=>[]
   | .inBlock _::k=>h_ ks h true k
   |_=>[]
theorem EC{q:nT}{r:List Item}{J:Env->ak->Prop}(h:cutAt q r=some J):∃c∈q,rQ (q.map (·.1)) r=some c.1/\c.2=J:=by
 unfold cutAt at h;unfold rQ;split at h
 ·rename_i k w;rw[w];dsimp only;split at h
  ·rename_i c u;cases h;refine⟨c,List.mem_of_find?_eq_some u, ?_,rfl⟩;rw[List.find?_map];have:((λ c=>Nat.beq c k)∘λ(x:Nat×(Env->ak->Prop))=>x.1)=λ c=>Nat.beq c.1 k:=rfl
   rw[this,u];rfl
  ·cases h
 ·cases h
theorem Xi{q:nT}{r:List Item}(h:cutAt q r=none):rQ (q.map (·.1)) r=none:=by
 unfold cutAt at h;unfold rQ;split at h
 ·rename_i k u;rw[u];dsimp only;split at h
  ·cases h
  ·rename_i w;rw[List.find?_map];have:((λ c=>Nat.beq c k)∘λ(x:Nat×(Env->ak->Prop))=>x.1)=λ c=>Nat.beq c.1 k:=rfl
   rw[this,w];rfl
 ·rename_i u;rw[u]
theorem Xj{G:List Item->Env->ak->Prop}{r:nT}:∀(u:Nat) (gk:Bool) (q:List Item),
  (∀x∈h_ (r.map (·.1)) u gk q,∀c∈r,c.1=x.1->∀ρ w,c.2 ρ w->G x.2 ρ w)->mN G (kD r u gk q):=by
 have key:∀{q:List Item} {J:Env->ak->Prop},cutAt r q=some J->(∀k,rQ (r.map (·.1)) q=some k->∀c∈r,c.1=k->∀ρ w,c.2 ρ w->G q ρ w)->∀ρ w,J ρ w->G q ρ w:=by
  intro q J H h;obtain⟨c,N,E,rfl⟩:=EC H;exact h _ E c N rfl
 intro u;induction u with
 |zero=>intro gk q _;exact trivial
 |succ u y=>
  intro gk q h;unfold kD;unfold h_ at h;split
  ·rename_i J H;obtain⟨c,N,E,rfl⟩:=EC H;rw[E] at h;exact⟨h _ (oO.2 rfl) c N rfl,trivial⟩
  ·rename_i R;split at h
   ·rename_i k X;cases H:cutAt r q with
    |none=>rw[Xi H] at X;cases X
    |some J=>exact absurd H (by intro he;exact R J rfl he)
   ·cases q with
    |nil=>exact trivial
    |cons x k=>
     cases x with
     |code c=>
      cases c with
      |skip=>exact y _ _ h
      |label l=>exact y _ _ h
      |seq a b=>exact y _ _ h
      |cond c a b=>
       have E:=y true (.code a::k) (λ x U=>h x (List.mem_append_left _ U));have Q:=y true (.code b::k) (λ x U=>h x (List.mem_append_right _ U));have app:∀{a b:List ((Env->ak->Prop)×List Item)},mN G a->mN G b->mN G (a++b):=by
        intro a;induction a with
        |nil=>intro b _ h;exact h
        |cons x a y=>intro b E Q;exact⟨E.1,y E.2 Q⟩
       exact app E Q
      |block id c=>exact y _ _ h
      |exit id=>
       simp only[] at h⊢;split at h
       ·rename_i k' I;rw[I];exact y _ _ h
       ·rename_i I;rw[I];exact trivial
      |region id ops W=>exact y _ _ h
      |loop c=>
       simp only[] at h⊢;split
       ·rename_i J H;obtain⟨Z,N,E,rfl⟩:=EC H;rw[E] at h;exact⟨h _ (oO.2 rfl) Z N rfl,trivial⟩
       ·exact trivial
      |_=>exact trivial
     |inBlock id=>exact y _ _ h
     |_=>exact trivial
def kE:List Item->List Nat
 |[]=>[]
 | .inLoop c::r=>(match keyOf (.inLoop c::r) with
  |some k=>[k]
  |none=>[])++kE r
 |_::r=>kE r
abbrev jA:=List (Nat×bG)
def jA.at(S:jA)(i:Nat):Nat×bG:=
 match S,i with
 |[],_=>(0,[])
 |x::_,0=>x
 |_::S,i+1=>jA.at S i
abbrev NN(S:jA):Type:=(i:Nat)->bF (ak->Prop) (S.at i).2
structure En(S:jA) where
 i:Nat
 B:NN S->bF (ak->Prop) (S.at i).2
def En.key{S:jA}(e:En S):Nat:=(S.at e.i).1
def NN.up{S:jA}(n:NN S)(i:Nat)(V:bF (ak->Prop) (S.at i).2):NN S:=λ j=>
 match Nat.decEq i j with
 | .isTrue h=>h▸V
 | .isFalse _=>n j
theorem NN.Xk{S:jA}(n:NN S)(i:Nat)(V:bF (ak->Prop) (S.at i).2):n.up i V i=V:=by
 unfold NN.up;split
 ·rfl
 ·rename_i h _;exact absurd rfl h
theorem NN.Xl{S:jA}(n:NN S){i j:Nat}(V:bF (ak->Prop) (S.at i).2)(h:i≠j):n.up i V j=n j:=by
 unfold NN.up;split
 ·rename_i h' _;exact absurd h' h
 ·rfl
def nU(k:Nat):Bool:=Nat.ble 1000000 k
def En.V{S:jA}(e:En S)(n:NN S):bF (ak->Prop) (S.at e.i).2:=
 match nU e.key with
 |true=>lp (S.at e.i).2 λ N=>e.B (n.up e.i N)
 |false=>e.B n
def l_{S:jA}(n:NN S):List (En S)->nT
 |[]=>[]
 |e::es=>match nU e.key with
  |true=>(e.key,JS (S.at e.i).2 (e.V n))::(e.key+1000000,JS (S.at e.i).2 (n e.i))::l_ n es
  |false=>(e.key,JS (S.at e.i).2 (e.V n))::l_ n es
def jo:List Nat->List Nat
 |[]=>[]
 |k::ks=>match nU k with
  |true=>k::(k+1000000)::jo ks
  |false=>k::jo ks
theorem LD{S:jA}(n:NN S):∀(es:List (En S)),(l_ n es).map (·.1)=jo (es.map En.key)
 |[]=>rfl
 |e::es=>by
  simp only[l_,hW,jo];split<;>rename_i h<;>simp[LD n es]
def jq(c:Code)(k:Nat):List Item:=
 match nU k with
 |true=>match iG c (k+1000000) with
  | .inLoop b::r=> .code b:: .inLoop b::r
  |x=>x
 |false=>iG c k
def Aw(c:Code)(k:Nat):List Item:=
 match nU k with
 |true=>match iG c (k+1000000) with
  | .inLoop b::r=> .code (.loop b)::r
  |_=>[]
 |false=>iG c k
def ma(k:Nat)(l:List Nat):Bool:=l.any (Nat.beq k)
def Ax(c:Code)(all:List Nat):List Nat->List Nat->Bool
 |_,[]=>true
 |done,k::rest=>(h_ all 4000 false (jq c k)).all (λ x=>(ma x.1 done&&Nat.blt x.1 2000000&&(kE (iG c x.1)).all (λ y=>ma y (kE (jq c k))))||(Nat.ble 2000000 x.1&&ma x.1 (kE (jq c k))))&&Ax c all (k::done) rest
theorem ED{k:Nat}{l:List Nat}:ma k l=true↔k∈l:=by
 unfold ma;rw[List.any_eq_true];constructor
 ·rintro⟨x,q,h⟩;rw[qk h];exact q
 ·intro h;exact⟨k,h,Nat.beq_refl k⟩
def Ay(c:Code)(k:Nat):Bool:=
 match nU k with
 |true=>match iG c (k+1000000) with
  | .inLoop b::r=>Av (k+1000000) (.inLoop b::r)
  |_=>false
 |false=>true
def okB{S:jA}(c:Code)(es:List (En S)):Bool:=
 Ax c (jo (es.map En.key)) [] (es.map En.key)&&es.all (λ e=>Nat.blt e.key 2000000&&Ay c e.key&&es.all (λ h=>!(Nat.beq e.key h.key)||Nat.beq e.i h.i))&&
 (h_ (jo (es.map En.key)) 4000 false [.code c]).all (λ x=>ma x.1 (es.map En.key)&&Nat.blt x.1 2000000&&(kE (iG c x.1)).isEmpty)
def EF(c:Code)(ks:List Nat):List (List Item×List (Nat×List Item)):=([],h_ (jo ks) 4000 false [.code c])::ks.map λ k=>(Aw c k,h_ (jo ks) 4000 false (jq c k))
def EG(c:Code)(ks:List Nat):List (List Item×List (Nat×List Item)):=([],(h_ (jo ks) 4000 false [.code c]).map λ x=>(x.1,iG c x.1))::ks.map λ k=>(iG c k,(h_ (jo ks) 4000 false (jq c k)).map λ x=>(x.1,iG c x.1))
abbrev LF(S:jA):Type:=(i:Nat)×(NN S->Env->bF (ak->Prop) (S.at i).2)
section
variable(dm:Option (Nat×Bool))(P:bU)(f:fz)(fn:Func)(K:ay->ak->Prop)(c:Code){S:jA}(es:List (En S))
def tJ:List (LF S):=es.map λ e=>⟨e.i,λ n ρ=>EE (S.at e.i).2 (jz dm P fn K (l_ n es) 4000 false (jq c e.key)) ρ⟩
def tK:List (LF S):=es.map λ e=>⟨e.i,λ n _=>e.B n⟩
def JN(n:NN S)(i:Nat)(ρ:Env)(w:ak):Prop:=JS (S.at i).2 (n i) ρ w
def Hn(n:NN S)(h:List Item):Prop:=∀e∈es,nU e.key=true->e.key+1000000∈kE h->∀ρ w,JN n e.i ρ w->gl dm P f fn (kf K) (iG c (e.key+1000000)) ρ w
def CL(k:Nat):Prop:=∀e∈es,e.key=k->∀n,Hn dm P f fn K c es n (iG c k)->∀ρ w,JS (S.at e.i).2 (e.V n) ρ w->gl dm P f fn (kf K) (iG c k) ρ w
end
section
variable{dm:Option (Nat×Bool)}{P:bU}{f:fz}{fn:Func}{K:ay->ak->Prop}{c:Code}{S:jA}{es:List (En S)}
theorem LH{n:NN S}{r:Nat×(Env->ak->Prop)}:∀{es:List (En S)},r∈l_ n es->∃e∈es,r=(e.key,JS (S.at e.i).2 (e.V n))\/(nU e.key=true/\r=(e.key+1000000,JN n e.i))
 |[],h=>by cases h
 |e::es,h=>by
  have rest:r∈l_ n es->∃q∈e::es,r=(q.key,JS (S.at q.i).2 (q.V n))\/(nU q.key=true/\r=(q.key+1000000,JN n q.i)):=λ h=>by
   obtain⟨q,u,w⟩:=LH h;exact⟨q,jI _ u,w⟩
  unfold l_ at h;split at h
  ·rename_i x;rcases dX.1 h with h|h
   ·exact⟨e,List.mem_cons_self, .inl h⟩
   ·rcases dX.1 h with h|h
    ·exact⟨e,List.mem_cons_self, .inr ⟨x,h⟩⟩
    ·exact rest h
  ·rcases dX.1 h with h|h
   ·exact⟨e,List.mem_cons_self, .inl h⟩
   ·exact rest h
theorem LI{α:Type}{g:α->α}:∀{l:List α},l=l.map g->∀x∈l,x=g x
 |[],_,_,h=>by cases h
 |y::l,h,x,q=>by
  rw[hW,List.cons.injEq] at h;rcases dX.1 q with rfl|q
  ·exact h.1
  ·exact LI h.2 x q
theorem LJ(hf:P.funcs[f]? =some fn)(U:∀e∈es,e.key<2000000){done:List Nat}(u:∀k∈done,CL dm P f fn K c es k){q:List Item}
  (G:(h_ (jo (es.map En.key)) 4000 false q).all (λ x=>(ma x.1 done&&Nat.blt x.1 2000000&&(kE (iG c x.1)).all (λ y=>ma y (kE q)))||(Nat.ble 2000000 x.1&&ma x.1 (kE q)))=true)
  (E:h_ (jo (es.map En.key)) 4000 false q=(h_ (jo (es.map En.key)) 4000 false q).map λ x=>(x.1,iG c x.1))
  {n:NN S}(hn:Hn dm P f fn K c es n q){ρ:Env}{w:ak}(h:jz dm P fn K (l_ n es) 4000 false q ρ w):gl dm P f fn (kf K) q ρ w:=by
 refine Lp hf 4000 false q ρ w (Xj _ _ _ ?_) h;rw[LD];intro x hx ct N r ρ w J;rw[LI E x hx];have hb:=List.all_eq_true.1 G x hx;simp only[Bool.or_eq_true,Bool.and_eq_true] at hb;obtain⟨e,Q,Z⟩:=LH N;rcases hb with⟨⟨H,I⟩,h4⟩|⟨H,I⟩
 ·have I:x.1<2000000:=Nat.le_of_ble_eq_true I;rcases Z with rfl|⟨W,rfl⟩
  ·dsimp only at r J;rw[<-r];refine u e.key (r▸ED.1 H) e Q rfl n (λ e' R X hm=>hn e' R X ?_) ρ w J;rw[r] at hm;exact ED.1 (List.all_eq_true.1 h4 _ hm)
  ·dsimp only at r;have:1000000<=e.key:=Nat.le_of_ble_eq_true W;omega
 ·have H:2000000<=x.1:=Nat.le_of_ble_eq_true H;rcases Z with rfl|⟨W,rfl⟩
  ·dsimp only at r;have:=U e Q;omega
  ·dsimp only at r J;rw[<-r];exact hn e Q W (r▸ED.1 I) ρ w J
theorem Xm(h:tJ dm P fn K c es=tK es):∀e∈es,∀n ρ,EE (S.at e.i).2 (jz dm P fn K (l_ n es) 4000 false (jq c e.key)) ρ=e.B n:=by
 unfold tJ tK at h;intro e q n ρ;have:=List.map_inj_left.1 h e q;have:=eq_of_heq (Sigma.mk.inj this).2;exact congrFun (congrFun this n) ρ
theorem Xn(hf:P.funcs[f]? =some fn)(rR:∀e∈es,e.key<2000000)(Xo:∀e∈es,Ay c e.key=true)(W:∀e∈es,∀H∈es,e.key=H.key->e.i=H.i)(heq:tJ dm P fn K c es=tK es){done:List Nat}(I:∀k∈done,CL dm P f fn K c es k){k:Nat}
  (Q:(h_ (jo (es.map En.key)) 4000 false (jq c k)).all (λ x=>(ma x.1 done&&Nat.blt x.1 2000000&&(kE (iG c x.1)).all (λ y=>ma y (kE (jq c k))))||(Nat.ble 2000000 x.1&&ma x.1 (kE (jq c k))))=true)
  (J:(Aw c k,h_ (jo (es.map En.key)) 4000 false (jq c k))=(iG c k,(h_ (jo (es.map En.key)) 4000 false (jq c k)).map λ x=>(x.1,iG c x.1))):CL dm P f fn K c es k:=by
 intro e he G n Z ρ w E;obtain⟨hd,ht⟩:=Prod.mk.inj J;have run:∀{n:NN S},Hn dm P f fn K c es n (jq c k)->∀ρ w,JS (S.at e.i).2 (e.B n) ρ w->gl dm P f fn (kf K) (jq c k) ρ w:=by
  intro n Z ρ w E;have:=Xm heq e he n ρ;rw[G] at this;rw[<-this] at E;exact LJ hf rR I Q ht Z (Lt E)
 unfold En.V at E;rw[G] at E;cases X:nU k with
 |false=>
  rw[X] at E;have Xp:jq c k=iG c k:=by unfold jq;rw[X]
  rw[Xp] at run;exact run Z ρ w E
 |true=>
  rw[X] at E;have q:=Xo e he;unfold Ay at q;rw[G,X] at q;unfold jq at run;unfold Aw at hd;rw[X] at run hd;simp only[] at q run hd E;split at q
  ·rename_i b r hb;rw[hb] at run hd;simp only[] at run hd;rw[<-hd] at Z⊢;unfold lp at E;refine W_ (F:=λ N=>bH (S.at e.i).2 (e.B (n.up e.i (cur (S.at e.i).2 N)))) (λ V=>JS (S.at e.i).2 (cur (S.at e.i).2 V)) (λ h=>Ly h) (λ Nx hx ρ w R=> ?_) E;rw[Lw] at R;refine run (n:=n.up e.i (cur (S.at e.i).2 Nx)) (λ H U Xq hm ρ w u=> ?_) ρ w R;by_cases hi:H.i=e.i
   ·have gT:H.key=k:=by rw[<-G];unfold En.key;rw[hi]
    rw[hi] at u;unfold JN at u;rw[NN.Xk] at u;rw[gT,hb];exact hx ρ w u
   ·unfold JN at u;rw[NN.Xl _ _ (λ h=>hi h.symm)] at u;refine Z H U Xq ?_ ρ w u;have hm:H.key+1000000∈(match keyOf (.inLoop b::r) with|some k=>[k]|none=>[])++kE r:=hm;rcases mG.1 hm with h|h
    ·unfold Av at q;split at h
     ·rename_i kk rS;rw[rS] at q;have h1:=qk q;have h2:=oO.1 h;exact absurd (W H U e he (by omega)) hi
     ·cases h
    ·exact h
  ·cases q
theorem Xr(I:P.funcs[f]? =some fn)(y:∀e∈es,e.key<2000000)(E:∀e∈es,Ay c e.key=true)(w:∀e∈es,∀G∈es,e.key=G.key->e.i=G.i)(heq:tJ dm P fn K c es=tK es):∀(ks done:List Nat),(∀k∈done,CL dm P f fn K c es k)->Ax c (jo (es.map En.key)) done ks=true->
  (ks.map λ k=>(Aw c k,h_ (jo (es.map En.key)) 4000 false (jq c k)))=(ks.map λ k=>(iG c k,(h_ (jo (es.map En.key)) 4000 false (jq c k)).map λ x=>(x.1,iG c x.1)))->∀k∈ks,CL dm P f fn K c es k:=by
 intro ks;induction ks with
 |nil=>intro _ _ _ _ k J;cases J
 |cons k ks N=>
  intro done q r h;unfold Ax at r;rw[Bool.and_eq_true] at r;rw[hW,hW,List.cons.injEq] at h;have H:=Xn I y E w heq q r.1 h.1;intro j u;rcases dX.1 u with rfl|u
  ·exact H
  ·exact N (k::done) (λ j u=>by
    rcases dX.1 u with rfl|u
    ·exact H
    ·exact q j u) r.2 h.2 j u
end
abbrev bd(fn:Func):Code:=fn.body.getD .skip
theorem fl{dm:Option (Nat×Bool)}{P:bU}{f:fz}{fn:Func}{K:ay->ak->Prop}{args:Array ay}{w:ak}{V:Prop}(J:P.funcs[f]? =some fn)(S:jA)(es:List (En S))
  (N:(fn.body,Nat.ble args.size fn.ntmps&&okB (bd fn) es,EF (bd fn) (es.map En.key),tJ dm P fn K (bd fn) es,λ n:NN S=>jz dm P fn K (l_ n es) 4000 false [.code (bd fn)] (Ar args.toList) w)=
   (some (bd fn),true,EG (bd fn) (es.map En.key),tK es,λ _=>V)) (h:V):au P f args w K:=by
 simp only[Prod.mk.injEq,Bool.and_eq_true] at N;obtain⟨R,⟨U,y⟩,u,W,X⟩:=N;unfold okB at y;simp only[Bool.and_eq_true,List.all_eq_true] at y;obtain⟨⟨Z,G⟩,h9⟩:=y;unfold EF EG at u;rw[List.cons.injEq] at u;have r:∀e∈es,e.key<2000000:=λ e q=>Nat.le_of_ble_eq_true (G e q).1.1
 have all:=Xr J r (λ e q=>(G e q).1.2) (λ e q Q H I=>by
  have:=(G e q).2 Q H;rw[I,Bool.or_eq_true] at this;rcases this with h|h
  ·rw[Nat.beq_refl] at h;cases h
  ·exact qk h) W _ [] (λ k hk=>by cases hk) Z u.2
 refine Xb (dm:=dm) J R U ?_;have E:=congrFun X (λ i=>cur (S.at i).2 λ _ _=>True);rw[<-E] at h;refine LJ J r (done:=es.map En.key) all (List.all_eq_true.2 λ x hx=> ?_) (Prod.mk.inj u.1).2 (λ e q hl hm=>by cases hm) h;have:=h9 x hx;rw[this.1.1,this.1.2];have q:kE (iG (bd fn) x.1)=[]:=List.isEmpty_iff.1 this.2;rw[q];rfl
theorem f0k{P:bU}{f:fz}{fn:Func}{K:ay->ak->Prop}{args:Array ay}{w:ak}{V:Prop}(r:P.funcs[f]? =some fn)(S:jA)(es:List (En S))(h:V)
  (q:(fn.body,Nat.ble args.size fn.ntmps&&okB (bd fn) es,EF (bd fn) (es.map En.key),tJ none P fn K (bd fn) es,λ n:NN S=>jz none P fn K (l_ n es) 4000 false [.code (bd fn)] (Ar args.toList) w)=
   (some (bd fn),true,EG (bd fn) (es.map En.key),tK es,λ _=>V):=by kernel_rfl):au P f args w K:=fl r S es q h
theorem lpx{l:bG}{B:bF (ak->Prop) l->bF (ak->Prop) l}(V:bF (ak->Prop) l)(r:lp l B=V){Q:Prop}
  (f:(∀(I:bF (ak->Prop) l) (μ:bF (ak->Nat) l),aI l λ x=>∀{w:ak},bH l I x w->(aE l λ x=>∀w,bH l I x w->bH l (B (cur l λ q w'=>bH l I q w'/\bH l μ q w'<bH l μ x w)) x w)->bH l V x w)->Q:=by
   intro h;dsimp only[aI,aE,cg,ck,bX,bY,bF,bS,KT,bH,bQ,bN,cur,bP,bM,bV,bW,bO,bJ,bK] at h;exact h):Q:=f (cy r)
abbrev OA:=Option kd
end Go.V
