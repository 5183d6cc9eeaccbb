/- The law FnIndexTable answers true for every input, and what came in reads behind the call as it read before (Rows.FnIndexTableCardSaid). Conditions: those of the given card alone, which ties the listed package variables to the program. Packed by a program of ours: short names, no remarks. -/
import Derived.Test.YtlhckhmoneeilaaGreatDoorTE
set_option linter.all false
set_option maxHeartbeats 4000000
set_option maxRecDepth 100000
set_option autoImplicit true
open Array renaming getElem?_eq_some_iff→rD
open ByteArray renaming empty→dk
open Classical renaming byContradiction→qq
open Go renaming Addr→kd,FuncId→fz,Program→bU,TypeId→cK,Value→ay,World→ak,bytes→fA,convert→dq,run_underlying→iN,undef→dU
open Go.Addr renaming add→aw
open Go.Builtin renaming append_→cM,copy_→mF
open Go.Instr renaming buildSlice→bw,lookup→dJ,makeMap→iM,makeSlice→kS,mapUpdate→fF,sliceAt→dw
open Go.IntKind renaming i64→af,u32→aL,u64→aj,u8→aG,wrap→aq
open Go.Op renaming bytesLess→ds
open Go.Operand renaming const→bt,tmp→br
open Go.Proofs.Tryz renaming prog→ag
open Go.Result renaming andThen→iV
open Go.Value renaming agg→aV,bool→aQ,iface→cG,int→ah,nilIface→aA,pointer→an,slice→aa,string→aC,tuple→aZ
open Go.World renaming setCell→nI
open Int renaming tdiv→gi,toNat_natCast→fH
open List renaming append_assoc→dx,append_nil→iA,count_cons→oW,drop_eq_getElem_cons→gS,drop_left'→qn,drop_left→iz,drop_zero→T2,flatMap_append→jK,flatMap_cons→fG,foldl_cons→qo,getD_eq_getElem?_getD→l8,getElem?_append_left→oT,getElem?_append_right→rE,getElem?_eq_getElem→gH,getElem?_eq_some_iff→oQ,getElem_mem→iy,length_append→aY,length_cons→dH,length_drop→hY,length_map→fu,length_take→fS,length→fZ,map_append→iE,map_cons→hW,mem_append→mG,mem_cons_of_mem→jI,mem_cons→dX,mem_filter→oN,mem_flatMap→jJ,mem_map→dt,mem_singleton→oO,nil_append→oS,nodup_cons→aq9,pairwise_cons→iF,pairwise_iff_getElem→qt,perm_iff_count→oV,perm_middle→gI,range→lZ,replicate→jx,set_cons_zero→oU,take_append_drop→kC,take_append_getElem→l7,take_left→E2,take_length→fY,take_of_length_le→lD,take_succ_eq_append_getElem→jm
open List.Perm renaming append_right→vN,swap→d_
open List.Sublist renaming refl→lE
open Nat renaming add_sub_cancel_left→tz,le_refl→bB,le_trans→eX,lt_of_lt_of_le→dR,sub_zero→nJ,zero_le→dO
open Option.some renaming inj→iW
open UInt8 renaming ofNat→gw
namespace Go.Proofs
open Go Go.V
attribute [local irreducible]cI be
structure LT where
 B:Nat->Prop
 F:ak->Prop
 st:∀{S:Nat->Nat->Prop} {w w':ak},F w->Fr S w w'->(∀b o,S b o->¬B b)->F w'
def LT.ap(t u:LT):Prop:=∀b,t.B b->¬u.B b
theorem LT.Uq{t u:LT}(h:t.ap u):u.ap t:=λ b q r=>h b r q
def aO{α:Type}(enc:α->List ay)(z:Nat)(v:ay)(l:List α):LT:=
 ⟨λ b=>aN v=some b,λ w=>cP enc z w v l,λ h u x=>h.fr u (λ b r o q=>x b o q r)⟩
def iL{α β:Type}[DecidableEq α](kc:α->ay)(vc:β->ay)(r:Nat)(f:α->Option β):LT:=
 ⟨λ b=>b=r,λ w=>dY kc vc w r f,λ h u x=>h.fr u 0 (λ q=>x r 0 q rfl)⟩
def aJ(a:kd)(cs:List ay):LT:=
 ⟨λ b=>b=a.block,λ w=>Ob w a cs,λ h r u=>h.fr r (λ o _ _ q=>u _ o q rfl)⟩
def fE(g:Nat):LT:=⟨λ b=>b=g,λ w=>g<w.heap.size,λ h q _=>dR h q.size⟩
section
variable{c:WC}[RO c]{w0:ak}{Z Zc:Nat->Prop}{w w':ak}{W:kd}{s s':cF}{ts:List LT}{t t':LT}
def QI(c:WC)(w0:ak)(Z:Nat->Prop)(W:kd)(ts:List LT)(Zc:Nat->Prop)(w:ak)(s:cF):Prop:=
 WL c w0 Z Zc w W s/\(∀t∈ts,t.F w/\∀b,t.B b->Zc b/\¬Z b)/\ts.Pairwise LT.ap
def QJ(c:WC)(w0:ak)(Z:Nat->Prop)(W:kd)(ts:List LT)(w:ak)(s:cF):Prop:=∃Zc,QI c w0 Z W ts Zc w s
theorem QI.step(h:QI c w0 Z W ts Zc w s)(h':C1 c w Zc w' W s'):QJ c w0 Z W ts w' s':=by
 obtain⟨H,r,G⟩:=h;obtain⟨u,x⟩:=H.step h';exact⟨Zc,u,λ t q=>⟨t.st (r t q).1 x (λ b o E y=>E (.inl ((r t q).2 b y).1)),(r t q).2⟩,G⟩
theorem QJ.inv(h:QJ c w0 Z W ts w s):C1 c w0 Z w W s:=by
 obtain⟨Zc,q,_⟩:=h;exact q.pV
theorem QJ.aH(h:QJ c w0 Z W ts w s)(q:aS w w'):QJ c w0 Z W ts w' s:=by
 obtain⟨Zc,h⟩:=h;exact h.step (h.1.1.aH q)
theorem QJ.drew(h:QJ c w0 Z W ts w s):QJ c w0 Z W ts w.drew s:=h.aH (cu w)
theorem QJ.get(h:QJ c w0 Z W ts w s)(q:t∈ts):t.F w:=by
 obtain⟨Zc,_,r,_⟩:=h;exact(r t q).1
theorem QJ.perm{us:List LT}(h:QJ c w0 Z W ts w s)(q:ts.Perm us):QJ c w0 Z W us w s:=by
 obtain⟨Zc,x,u,hd⟩:=h;exact⟨Zc,x,λ t r=>u t (q.mem_iff.2 r),(q.pairwise_iff (λ h=>LT.Uq h)).1 hd⟩
theorem QJ.sub{us:List LT}(h:QJ c w0 Z W ts w s)(q:us.Sublist ts):QJ c w0 Z W us w s:=by
 obtain⟨Zc,x,u,hd⟩:=h;exact⟨Zc,x,λ t r=>u t (q.subset r),hd.sublist q⟩
theorem QJ.ey{S:Nat->Nat->Prop}(h:QJ c w0 Z W (t::ts) w s)(U:Fr S w w')(R:∀b o,S b o->t.B b)(X:t'.F w')(Q:∀b,t'.B b->t.B b\/(w.heap.size<=b/\b<w'.heap.size)):QJ c w0 Z W (t'::ts) w' s:=by
 obtain⟨Zc,N,K,hd⟩:=h;have H:=K t (by simp);have r:=iF.1 hd;have E:=N.eL;have I:∀b,w.heap.size<=b->¬Z b:=λ b q hz=>by
  have:=E b (N.2.1 b hz);omega
 refine⟨_,N.loc U (λ b o J=>H.2 b (R b o J)),λ u x=> ?_, ?_⟩
 ·rcases dX.1 x with rfl|x
  ·refine⟨X,λ b q=> ?_⟩;rcases Q b q with q|q
   ·exact⟨.inl (H.2 b q).1,(H.2 b q).2⟩
   ·exact⟨.inr q,I b q.1⟩
  ·have y:=K u (by simp[x]);exact⟨u.st y.1 U (λ b o J q=>r.1 u x b (R b o J) q),λ b q=>⟨.inl (y.2 b q).1,(y.2 b q).2⟩⟩
 ·refine iF.2 ⟨λ u x b q G=> ?_,r.2⟩;rcases Q b q with q|q
  ·exact r.1 u x b q G
  ·have:=E b ((K u (by simp[x])).2 b G).1;omega
theorem QJ.new(h:QJ c w0 Z W ts w s)(H:aS w w')(G:t.F w')(E:∀b,t.B b->w.heap.size<=b/\b<w'.heap.size):QJ c w0 Z W (t::ts) w' s:=by
 have y:QJ c w0 Z W (⟨λ _=>False,λ _=>True,λ _ _ _=>trivial⟩::ts) w s:=by
  obtain⟨Zc,J,I,hd⟩:=h;exact⟨Zc,J,λ u r=>by
   rcases dX.1 r with rfl|r
   ·exact⟨trivial,λ b q=>q.elim⟩
   ·exact I u r,iF.2 ⟨λ u _ b q=>q.elim,hd⟩⟩
 exact y.ey H (λ b o x=>x.elim) G (λ b q=> .inr (E b q))
theorem QJ.off(h:QJ c w0 Z W ts w s)(x:t∈ts){b:Nat}(u:∀tag g w0 Z,WI c tag g w0 Z w W s->tag b≠0):¬t.B b:=by
 obtain⟨Zc,⟨⟨tag,g,q⟩,_⟩,y,_⟩:=h;intro r;exact q.own b (u tag g _ _ q) ((y t x).2 b r).1
theorem C1.qj(h:C1 c w0 Z w W s):QJ c w0 Z W [] w s:=⟨Z,h.Dp,by simp,List.Pairwise.nil⟩
theorem QJ.push{α:Type}{e:cK}{ty:cK}{enc:α->List ay}{z fA:Nat}{zs:List ay}(U:gW ag ty e enc z fA zs){v N:ay}{l:List α}{x:α}{K:OA->Nat->Nat->ak->Prop}
  (h:QJ c w0 Z W (aO enc z v l::ts) w s)(E:(bw ty 1 #[(0,N)]).run ag w= .ok (aa (some ⟨w.heap.size,0,none⟩) 1 1) (w.alloc (.cells ⟨enc x⟩ e)))(hl:(l.length+1)*fA<=140737488355328)(J:l.length+1<=4611686018427387904)
  (hk:∀p cc w',QJ c w0 Z W (aO enc z (aa p (l.length+1) cc) (l++[x])::ts) w' s->Fr (λ b o=>aN v=some b) w w'->K p (l.length+1) cc w'):
  aP ag (bw ty 1 #[(0,N)]) w λ r w1=>az (ax r) λ sP sL sC=>aP ag (cM #[ty,ty] ty #[v,aa sP sL sC]) w1 λ r2 w2=>az (ax r2) λ p n c=>K p n c w2:=by
 have ho:cP enc z w v l:=h.get (t:=aO enc z v l) (by simp);refine HL U E ho hl J (λ p cc w' y X H=> ?_);have u:Fr (λ b o=>aN v=some b) w w':=X.mono (λ b o _ G=>G.1);refine hk p cc w' (h.ey (t':=aO enc z (aa p (l.length+1) cc) (l++[x])) u (λ b o G=>G) y (λ b E=> ?_)) u;rcases H with R|⟨g,Q,I⟩
 ·have q:aN (aa p (l.length+1) cc)=some b:=E;exact .inl (show aN v=some b by rw[<-R];exact q)
 ·have q:aN (aa p (l.length+1) cc)=some b:=E;rw[Q] at q;cases q;exact .inr ⟨I,y.lt Q⟩
end
theorem ri:gW ag 22 9 bx 1 16 [aC ⟨#[]⟩]:=
 ⟨⟨by kernel_rfl,by kernel_rfl,rfl,by decide⟩,λ _=>rfl,λ x u h=>by simp[bx] at h;subst h;rfl⟩
theorem vi(x:Wd)(w:ak):(bw 22 1 #[(0,aC (bs x))]).run ag w= .ok (aa (some ⟨w.heap.size,0,none⟩) 1 1) (w.alloc (.cells ⟨bx x⟩ 9)):=by kernel_rfl
section
variable{c:WC}[RF c][RL c][RO c]{w0:ak}{Z Zc:Nat->Prop}{w w':ak}{W:kd}{s s':cF}{ts:List LT}{t t':LT}
theorem ail{K:ay->ak->Prop}(h:C1 c w0 Z w W s)
  (hK:∀{w2:ak} {p:OA} {l:List Wd} {cc:Nat} {jX:Bool} {G:ay} {N3:Bool->kd->OA->Nat->Nat->ay->ak->Prop},l.Nodup->(∀k,k∈l↔(s.m2 k).isSome)->l.length<=100000->QJ c w0 Z W [aO bx 1 (aa p l.length cc) l] w2 s->ua K N3 jX W p l.length cc G false w2)
  (x:∀l:List Wd,l.Nodup->(∀k,k∈l↔(s.m2 k).isSome)->l.length<=100000):
  GB K W w:=by
 unfold GB;have mb:∀{w:ak} {ts:List LT},QJ c w0 Z W ts w s->at_ w (W.add 40) (.map (some c.r2)):=λ h=>h.inv.eI 6 rfl
 refine⟨_,h.eI 6 rfl, ?_⟩;obtain⟨ks,JM,Q1,hlen⟩:=Cm (ty:=3) Dq.1 h.sT;have uD:=x ks JM Q1;refine⟨_,_,hlen,_,rfl, ?_⟩;obtain⟨w3,kn,lL,ja⟩:=uX ri.ty w ks.length (by omega) (by omega);refine⟨_,_,kn,_,_,_,rfl, ?_⟩;have h3:=h.qj.new (t:=aO bx 1 (aa (some ⟨w.heap.size,0,none⟩) 0 ks.length) ([]:List Wd)) ja lL (λ b J=>by
  have N:some w.heap.size=some b:=J;cases N;exact⟨bB _,lL.lt rfl⟩)
 refine⟨_,mb h3, ?_⟩;obtain⟨u,w4,jT,Q,lU,D0,ko,Ur⟩:=yh Dq.1 h3.inv.sT;refine⟨_,_,jT, ?_⟩;have h4:=(h3.new (t:=fE w3.heap.size) ko (show w3.heap.size<w4.heap.size by omega) (λ b J=>by
  have N:b=w3.heap.size:=J;omega)).perm (d_ _ _ [])
 have X:=x u lU D0;generalize apD:w3.heap.size=it at Q h4;refine aa9 (λ H W' p' n' E G w'=>W=W'/\G=an (some ⟨it,0,none⟩)/\∃l rest,n'=l.length/\(l++rest).Perm u/\QJ c w0 Z W [aO bx 1 (aa p' n' E) l,fE it] w' s/\gK dM mo w' it c.r2 s.m2 rest) (λ _ _ _ n' _ _ _=>u.length-n') ?_ ?_
 ·exact⟨rfl,rfl,[],u,rfl,List.Perm.refl _,h4,Q⟩
 ·rintro H _ p' _ E _ w5 ⟨rfl,rfl,l,rest,rfl,r,h5,R⟩;unfold GA;have JO:¬c.r2=it:=by
   have:=h5.off (t:=fE it) (by simp) (b:=c.r2) (λ tag g w0 Z q=>by rw[q.fO];decide);exact this
  rcases yi (ty:=0) R with⟨rfl,hr⟩|⟨k,v,a,b,w6,rfl,hfk,hr,y,hf⟩
  ·refine⟨_,_,hr,false,_,_,rfl,aT rfl ⟨_,rfl, ?_⟩⟩;rw[iA] at r;exact hK (r.nodup_iff.2 lU) (λ k=>by rw[r.mem_iff];exact D0 k) (by rw[r.length_eq];exact X) (h5.sub (by simp))
  ·refine⟨_,_,hr,true,_,_,rfl,cJ rfl ⟨_,rfl, ?_⟩⟩;unfold ua;refine cJ rfl ?_;have h6:=((h5.perm (d_ _ _ [])).ey (t':=fE it) hf (λ b o I=>I) (show it<w6.heap.size from dR (h5.get (t:=fE it) (by simp)) hf.size) (λ b J=> .inl J)).perm (d_ _ _ []);obtain⟨v',_,he⟩:=yk y;refine⟨_,_,he,_,_,rfl,_,rfl, ?_⟩;have jF:l.length+1<=u.length:=by
    have:=r.length_eq;simp at this;omega
   refine h6.push ri (vi k w6) (by omega) (by omega) (λ p cc w7 h7 f7=> ?_);have U:gK dM mo w7 it c.r2 s.m2 (a++b):=y.it.fr f7 0 0 (λ I=> ?_) (λ I=> ?_)
   ·refine⟨⟨rfl,rfl,l++[k],a++b,by simp, ?_,h7,U⟩,by omega⟩;refine List.Perm.trans ?_ r;rw[dx];exact List.Perm.append_left l (by simpa using(gI (a:=k) (l₁:=a) (l₂:=b)).symm)
   ·exact h6.off (t:=aO bx 1 (aa p' l.length E) l) (by simp) (b:=c.r2) (λ tag g w0 Z q=>by rw[q.fO];decide) I
   ·obtain⟨Zc,_,_,hp⟩:=h6;exact(iF.1 hp).1 (fE it) (by simp) it I rfl
end
def ee(S:List Wd):Wd->List bI->Wd
 |_,[]=>[]
 |F,x::L=>pad 16 F.length++(fk (cA S x)++ee S (dr S F x) L)
theorem pX(S:List Wd):∀(L:List bI) (F:Wd),eH S F L=F++ee S F L:=by
 intro L;induction L with
 |nil=>intro F;simp[eH,ee]
 |cons x L h=>
  intro F;show eH S (dr S F x) L=_;rw[h];simp[dr,ee]
theorem ta(S:List Wd)(F:Wd)(A B:List bI):eH S F (A++B)=eH S (eH S F A) B:=by simp[eH]
theorem Us(S:List Wd):∀(A:List bI) (F:Wd) (B:List bI),eC S F (A++B)=eC S F A++eC S (eH S F A) B:=by
 intro A;induction A with
 |nil=>intro F B;rfl
 |cons x A h=>
  intro F B;show gM F::eC S (dr S F x) (A++B)=_;rw[h];rfl
theorem vj(S:List Wd):∀(A:List bI) (F:Wd),(eC S F A).length=A.length:=by
 intro A;induction A with
 |nil=>intro F;rfl
 |cons x A h=>intro F;show(gM F::eC S (dr S F x) A).length=_;simp[h]
theorem Ut(S:List Wd)(x:bI):0<(cA S x).length:=by
 unfold cA;rw[aY];have:=jB x.labels.length;omega
theorem Uu{n:Nat}(h:0<n):∃b r,bm n=b::r/\b≠0:=by
 by_cases q:n<128
 ·refine⟨gw n,[],Cq q,λ e=> ?_⟩;have:=congrArg UInt8.toNat e;rw[UInt8.toNat_ofNat'] at this;simp at this;omega
 ·refine⟨_,_,Cr q,λ e=> ?_⟩;have:=congrArg UInt8.toNat e;rw[UInt8.toNat_ofNat'] at this;simp at this;omega
section
variable{c:WC}[RO c]{w0:ak}{Z Zc:Nat->Prop}{w w':ak}{W d:kd}{s s':cF}{ts:List LT}{t t':LT}{fv:ay}{l:Wd}
def QD(c:WC)(w0:ak)(Z:Nat->Prop)(W d:kd)(fv:ay)(ts:List LT)(w:ak)(s:cF)(l:Wd):Prop:=
 c.lf=some fv/\QJ c w0 Z W (fE d.block::ts) w s/\∃v,dT w d v l/\aN v=aN fv
theorem QJ.Uv(h:QJ c w0 Z W ts w s)(u:c.lf=some fv)(x:t∈ts):∀b,aN fv=some b->¬t.B b:=λ b r=>
 h.off x (λ tag g w0 Z q=>by
  have:=(q.fg b (by rw[q.gz fv u];exact r)).2;rw[this];decide)
theorem QD.aH(h:QD c w0 Z W d fv ts w s l)(q:aS w w'):QD c w0 Z W d fv ts w' s l:=by
 obtain⟨u,x,v,hd,r⟩:=h;exact⟨u,x.aH q,v,hd.aH q,r⟩
theorem QD.drew(h:QD c w0 Z W d fv ts w s l):QD c w0 Z W d fv ts w.drew s l:=h.aH (cu w)
theorem QD.jh{N:fz}{args:Array ay}{l':Wd}{Q:ay->ak->Prop}(h:QD c w0 Z W d fv ts w s l)(G:∀v,dT w d v l->au ag N args w λ r w'=>Q r w'/\gE w d v w' l'):
  au ag N args w λ r w'=>Q r w'/\QD c w0 Z W d fv ts w' s l':=by
 obtain⟨H,I,v,hd,u⟩:=h;refine aF (G v hd) ?_;rintro r w' ⟨J,v',q,E,x⟩;refine⟨J,H,I.ey (t':=fE d.block) E (λ b o y=>y.1) (show d.block<w'.heap.size from q.1.lt (by simp)) (λ b u=> .inl u),v',q,by rw[x,u]⟩
theorem QD.fU(h:QD c w0 Z W d fv ts w s l):au ag 105 #[an (some d)] w λ r w'=>r=aA/\w'=w:=by
 obtain⟨u,x,v,hd,q⟩:=h;exact Go.Proofs.fU hd
theorem QD.jC(h:QD c w0 Z W d fv ts w s l):au ag 107 #[an (some d)] w λ r w'=>r=ah af (l.length:Int)/\w'=w:=by
 obtain⟨u,x,v,hd,q⟩:=h;exact Go.Proofs.jC hd
theorem QD.ey{S:Nat->Nat->Prop}(h:QD c w0 Z W d fv (t::ts) w s l)(I:Fr S w w')(u:∀b o,S b o->t.B b)(K:t'.F w')(r:∀b,t'.B b->t.B b\/(w.heap.size<=b/\b<w'.heap.size)):QD c w0 Z W d fv (t'::ts) w' s l:=by
 obtain⟨J,E,v,hd,H⟩:=h;have x:¬t.B d.block:=by
  obtain⟨_,_,_,N⟩:=E;exact λ r=>(iF.1 N).1 t (by simp) d.block rfl r
 have q:=E.Uv J (t:=t) (by simp);refine⟨J,((E.perm (d_ _ _ _)).ey I u K r).perm (d_ _ _ _),v,hd.fr I (λ o G=>x (u _ o G)) (λ b y o G=>q b (by rw[<-H];exact y) (u b o G)),H⟩
theorem QD.push{α:Type}{e:cK}{ty:cK}{enc:α->List ay}{z fA:Nat}{zs:List ay}(R:gW ag ty e enc z fA zs){v N:ay}{m:List α}{x:α}{K:OA->Nat->Nat->ak->Prop}
  (h:QD c w0 Z W d fv (aO enc z v m::ts) w s l)(U:(bw ty 1 #[(0,N)]).run ag w= .ok (aa (some ⟨w.heap.size,0,none⟩) 1 1) (w.alloc (.cells ⟨enc x⟩ e)))(hl:(m.length+1)*fA<=140737488355328)(H:m.length+1<=4611686018427387904)
  (hk:∀p cc w',QD c w0 Z W d fv (aO enc z (aa p (m.length+1) cc) (m++[x])::ts) w' s l->K p (m.length+1) cc w'):
  aP ag (bw ty 1 #[(0,N)]) w λ r w1=>az (ax r) λ sP sL sC=>aP ag (cM #[ty,ty] ty #[v,aa sP sL sC]) w1 λ r2 w2=>az (ax r2) λ p n c=>K p n c w2:=by
 obtain⟨u,I,vd,hd,q⟩:=h;have E:aN v≠some d.block:=by
  obtain⟨_,_,_,hp⟩:=I;exact λ Q=>(iF.1 hp).1 (aO enc z v m) (by simp) d.block rfl Q
 have y:=I.Uv u (t:=aO enc z v m) (by simp);refine(I.perm (d_ _ _ _)).push R U hl H (λ p cc w' h' X=>hk p cc w' ⟨u,h'.perm (d_ _ _ _),vd, ?_,q⟩);exact hd.fr X (λ o J=>E J) (λ b G o J=>y b (by rw[<-q];exact G) J)
end
section
variable{c:WC}[RO c]{w0:ak}{Z Zc:Nat->Prop}{w w':ak}{W d:kd}{s s':cF}{ts:List LT}{t t':LT}{fv:ay}{l:Wd}
theorem C1.mw(h:C1 c w0 Z w W s):W.spot=none:=by
 obtain⟨_,_,q⟩:=h;exact q.sp
def Dw(s:cF)(n v:Wd)(refs:List Nat)(b1 b2 dig:Wd):cF:=
 {s with P:=s.P++(pad 4 s.P.length++dh (fM refs)),O:=s.O++cX (n,v,(s.P++pad 4 s.P.length).length),cnt:=s.cnt+1,b1:=b1,b2:=b2,dig:=dig}
theorem QJ.CZ{n v:Wd}{p:OA}{cc:Nat}{refs:List Nat}(h:QJ c w0 Z W ts w s)(E:aO eU 1 (aa p refs.length cc) refs∈ts)(hP:s.fN=true)(hO:s.eR=true)(K:∀n∈refs,n<4294967296)
  (H:refs.length<=1000)(I:n.length<=1000)(N:v.length<=1000)(x:s.P.length<=1073000000)(u:s.O.length<=1073000000)(G:s.cnt<=1000000):
  au ag 236 #[an (some W),aC (bs n),aC (bs v),aa p refs.length cc] w λ r w'=>r=aA/\∃b1 b2 dig,QJ c w0 Z W ts w' (Dw s n v refs b1 b2 dig):=by
 have J:cP eU 1 w (aa p refs.length cc) refs:=h.get E;obtain⟨Zc,q⟩:=h;refine aF (Go.Proofs.CZ (n:=n) (v:=v) q.1.1 hP hO J.cV (λ y Q=>((q.2.1 _ E).2 y Q).1) K H I N x u G) ?_;rintro _ w' ⟨rfl,b1,b2,dig,h'⟩;exact⟨rfl,b1,b2,dig,q.step h'⟩
theorem aim{K:ay->ak->Prop}{S:List Wd}{F0:Wd}{L:List bI}{I f np op:OA}{nL nC oc:Nat}
  (h:QD c w0 Z W d fv (aO eU 1 (aa op 0 oc) ([]:List Nat)::ts) w s (ee S F0 L))(i_:s.t2=(eH S F0 L).length)(lT:(eH S F0 L).length<=536870912)(hL:L.length<=1000)(oE:∀x∈L,(cA S x).length<=1000000)
  (hP:s.fN=true)(hO:s.eR=true)(C0:s.P.length<=1073000000)(y6:s.O.length<=1073000000)(zw:s.cnt<=1000000)(iS:∀n∈eC S F0 L,n<4294967296)
  (hK:∀w' b1 b2 dig,QJ c w0 Z W ts w' (Dw s [] [] (eC S F0 L) b1 b2 dig)->xw K I W np nL nC f (L.length:Int) w'):
  t_ K I W np nL nC f op 0 oc d w:=by
 refine aa8 (λ X W' zy td zz f' op' G oc' d' w'=>I=X/\W=W'/\np=zy/\nL=td/\nC=zz/\f=f'/\d=d'/\∃A B:List bI,L=A++B/\G=A.length/\QD c w0 Z W d fv (aO eU 1 (aa op' G oc') (eC S F0 A)::ts) w' s (ee S (eH S F0 A) B)) (λ _ _ _ _ _ _ _ G _ _ _=>L.length-G) ?_ ?_
 ·exact⟨rfl,rfl,rfl,rfl,rfl,rfl,rfl,[],L,rfl,rfl,h⟩
 ·rintro _ _ _ _ _ _ Uw _ Ux _ w1 ⟨rfl,rfl,rfl,rfl,rfl,rfl,rfl,A,B,y,rfl,h1⟩;unfold Gz;refine aF h1.jC ?_;rintro _ w1 ⟨rfl,rfl⟩;refine⟨_,rfl, ?_⟩;have u:=vj S A F0;cases B with
  |nil=>
   rw[iA] at y;subst y;refine aT (by simp[ee]) ?_;obtain⟨_,hq,_⟩:=h1;have hq':QJ c w0 Z W (fE d.block::aO eU 1 (aa Uw (eC S F0 L).length Ux) (eC S F0 L)::ts) w1 s:=by rw[u];exact hq
   have hk:=hq'.CZ (n:=[]) (v:=[]) (p:=Uw) (cc:=Ux) (refs:=eC S F0 L) (by simp) hP hO iS (by rw[u];exact hL) (by simp) (by simp) C0 y6 zw;rw[u] at hk;refine aF hk ?_;rintro _ w2 ⟨rfl,b1,b2,dig,h2⟩;refine⟨_,rfl,_,λ w=>cE _ w,_,rfl,aT rfl ?_⟩;rw[dV (by omega) (by omega)];exact hK w2 b1 b2 dig (h2.sub (by simp))
  |cons x B=>
   have JR:L.length=A.length+(B.length+1):=by rw[y];simp
   have Dx:=Ut S x;have zA:(eH S F0 L).length=(eH S F0 A).length+(ee S (eH S F0 A) (x::B)).length:=by
    rw[y,ta,pX S (x::B),aY]
   have uQ:=oE x (by rw[y];simp);generalize sX:eH S F0 A=q at*;have hu:=jB (cA S x).length;have lh:ee S q (x::B)=pad 16 q.length++(fk (cA S x)++ee S (dr S q x) B):=rfl;have lV:(fk (cA S x)).length=(bm (cA S x).length).length+((cA S x).length+4):=by simp[fk,cH]
   rw[lh] at h1 zA;simp only[aY] at zA;refine cJ (by rw[lh];simp only[aY,decide_eq_true_iff];omega) ?_;obtain⟨hb,U,heq,eY⟩:=Uu Dx;have ou:pad 16 q.length++(fk (cA S x)++ee S (dr S q x) B)=jx ((16-q.length % 16) % 16) 0++hb::(U++(cA S x++be 4 (cI 0 (cA S x)))++ee S (dr S q x) B):=by
    unfold pad fk;rw[heq];simp
   rw[ou] at h1;have N:=h1.jh (Q:=λ _ _=>True) (l':=hb::(U++(cA S x++be 4 (cI 0 (cA S x)))++ee S (dr S q x) B)) (λ v hd=>aF (Ri hd eY) (λ _ _ h=>⟨trivial,h⟩));refine aF N ?_;rintro _ w2 ⟨_,h2⟩;have e2:hb::(U++(cA S x++be 4 (cI 0 (cA S x)))++ee S (dr S q x) B)=bm (cA S x).length++((cA S x++be 4 (cI 0 (cA S x)))++ee S (dr S q x) B):=by rw[heq];simp
   rw[e2] at h2;have E:=h2.drew;have H:∀{w:ak} {l:Wd} {ts:List LT},QD c w0 Z W d fv ts w s l->at_ w ((W.add 4).add 2) (ah aj (s.t2:Int)):=λ h=>by
    have:=h.2.1.inv.dP 6 rfl;rw[add_add _ _ _ h.2.1.inv.mw];exact this
   refine⟨_,H E, ?_⟩;refine aF E.jC ?_;rintro _ w3 ⟨rfl,rfl⟩;refine⟨_,rfl,by simpa using H E, ?_⟩;dsimp only;have R:(bm (cA S x).length++((cA S x++be 4 (cI 0 (cA S x)))++ee S (dr S q x) B)).length=(fk (cA S x)).length+(ee S (dr S q x) B).length:=by
    simp only[aY,cH,lV];omega
   have JU:aq aj ((s.t2:Int)-aq aj ((bm (cA S x).length++((cA S x++be 4 (cI 0 (cA S x)))++ee S (dr S q x) B)).length:Int))=((q.length+(pad 16 q.length).length:Nat):Int):=by
    rw[R,dV (x:=(((fk (cA S x)).length+(ee S (dr S q x) B).length:Nat):Int)) (by omega) (by omega),dV (by omega) (by omega)];omega
   rw[JU];have hmul:=CW (k:=16) q.length (by omega);refine aT (by
    rw[bne_eq_false_iff_eq,Int.tmod_eq_emod_of_nonneg (by omega)];omega) ?_
   have aqz:aq aL (aq aj (gi ((q.length+(pad 16 q.length).length:Nat):Int) 16))=((gM q:Nat):Int):=by
    rw[Int.tdiv_eq_ediv_of_nonneg (by omega),dV (by omega) (by omega),iY (by omega) (by omega)];unfold gM;omega
   rw[aqz];rw[<-u] at E⊢;have eA:eC S F0 (A++[x])=eC S F0 A++[gM q]:=by
    rw[Us,sX];rfl
   generalize gM q=sr at eA⊢;generalize eC S F0 A=RA at*;have jU:=Dm sr w2.drew;generalize w2.drew=w3 at*;refine QD.push (enc:=eU) (m:=RA) (x:=sr) zo E jU (by omega) (by omega) (λ p cc w4 h4=> ?_);refine aF (h4.jh (Q:=λ r _=>r=ah af ((cA S x).length:Int)) (λ v hd=>kI iO hd (by omega))) ?_;rintro _ w5 ⟨rfl,h5⟩;refine⟨_,rfl, ?_⟩;dsimp only;rw[show aq af (((cA S x).length:Int)+4)=(((cA S x).length+4:Nat):Int) by rw[bk (by omega) (by omega)];omega];have eZ:((cA S x++be 4 (cI 0 (cA S x)))++ee S (dr S q x) B).drop ((cA S x).length+4)=ee S (dr S q x) B:=by
    have:(cA S x).length+4=(cA S x++be 4 (cI 0 (cA S x))).length:=by simp[cH]
    rw[this,iz]
   have J:=h5.jh (Q:=λ _ _=>True) (l':=ee S (dr S q x) B) (λ v hd=>by
    have:=mT (n:=(cA S x).length+4) hd (by simp only[aY,cH];omega);rw[eZ] at this;exact aF this (λ _ _ h=>⟨trivial,h⟩))
   refine aF J ?_;rintro _ w6 ⟨_,h6⟩;refine aF h6.fU ?_;rintro _ w6 ⟨rfl,rfl⟩;refine⟨_,rfl,_,λ w=>cE _ w,_,rfl,aT rfl ?_⟩;have eF:eH S F0 (A++[x])=dr S q x:=by
    rw[ta,sX];rfl
   refine⟨⟨rfl,rfl,rfl,rfl,rfl,rfl,rfl,A++[x],B,by rw[y];simp,by simp[u], ?_⟩,by omega⟩;rw[eA,eF];exact h6
end
def oF{α:Type}(enc:α->List ay)(z:Nat)(v:ay)(l:List α):LT:=
 ⟨λ b=>aN v=some b,λ w=>Sl enc z w v l,λ h u x=>aX.away h u (λ b r o q=>x b o q r)⟩
section
variable{c:WC}[RO c]{w0:ak}{Z Zc:Nat->Prop}{w w':ak}{W d:kd}{s s':cF}{ts:List LT}{t t':LT}{fv:ay}{l:Wd}
theorem QJ.as(h:QJ c w0 Z W (t::ts) w s)(r:t.F w->t'.F w)(q:∀b,t'.B b->t.B b):QJ c w0 Z W (t'::ts) w s:=
 h.ey (Fr.refl (λ _ _=>False) w) (λ _ _ x=>x.elim) (r (h.get (by simp))) (λ b u=> .inl (q b u))
theorem aiq{α:Type}{enc:α->List ay}(q:∀x,(enc x).length=1){p:OA}{n cc:Nat}{x:α}{l:List α}(h:Sl enc 1 w (aa p n cc) (x::l)):
  Sl enc 1 w (aa (C4 p 1 cc 1) l.length (cc-1)) l:=by
 obtain⟨_,_,e,_⟩:=aX.ex h;cases e;have:=aX.sub h 1 (x::l).length (by simp) (bB _);have r:(((x::l).flatMap enc).drop (1*1)).take (((x::l).length-1)*1)=l.flatMap enc:=by
  rw[fG,show 1*1=(enc x).length by rw[q],iz,lD];rw[kF (z:=1) q];simp
 rw[r] at this;exact this
theorem air{p:OA}{n cc:Nat}(q:1<=n)(h:n<=cc)(w:ak):(dw 22 (aa p n cc) (some (ah af 1)) none none).run ag w= .ok (aa (C4 p 1 cc 1) (n-1) (cc-1)) w:=
 gV (P:=ag) (t:=22) (e:=9) (by kernel_rfl) (z:=1) (by kernel_rfl) p n cc 1 n q h (some (ah af 1)) none (.inr ⟨_,rfl⟩) (.inl ⟨rfl,rfl⟩) w
theorem ais{K:ay->ak->Prop}{e_:OA->kd->OA->Nat->Nat->OA->Int->ak->Prop}{jX f np bp:OA}{nC bc M c0:Nat}{rem bl:List Wd}
  (h:QJ c w0 Z W (aO bx 1 (aa bp bl.length bc) bl::oF bx 1 (aa np rem.length nC) rem::ts) w s)(zw:∀n∈rem,0<(s.m2 n).getD 0/\(s.m2 n).getD 0<=M)(hM:M<=100000)(eY:bl≠[]\/rem≠[])(vk:bl=[]->c0=0)(fj:bl≠[]->0<c0)(kL:c0<=M)(hlen:bl.length+rem.length<=100000)
  (hK:∀{w':ak} {r u:List Wd} {U J:OA} {R Dy:Nat},bl++rem=u++r->u≠[]->QJ c w0 Z W (aO bx 1 (aa J u.length Dy) u::oF bx 1 (aa U r.length R) r::ts) w' s->tZ K e_ jX W U r.length R f (M:Int) J u.length Dy w'):
  Gx K e_ jX W np rem.length nC f (M:Int) bp bl.length bc (c0:Int) w:=by
 refine aa5 (λ zx W' U td R f' M' J JW JX c' w'=>jX=zx/\W=W'/\f=f'/\M'=(M:Int)/\∃(r u:List Wd) (c1:Nat),td=r.length/\JW=u.length/\c'=(c1:Int)/\bl++rem=u++r/\(∀n∈r,n∈rem)/\(u≠[]\/r≠[])/\(u=[]->c1=0)/\(u≠[]->0<c1)/\c1<=M/\QJ c w0 Z W (aO bx 1 (aa J u.length JX) u::oF bx 1 (aa U r.length R) r::ts) w' s) (λ _ _ _ td _ _ _ _ _ _ _ _=>td) ?_ ?_
 ·exact⟨rfl,rfl,rfl,rfl,rem,bl,c0,rfl,rfl,rfl,rfl,λ n hn=>hn,eY,vk,fj,kL,h⟩
 ·rintro _ _ H _ y _ _ my _ mz _ w1 ⟨rfl,rfl,rfl,rfl,q,E,c1,rfl,rfl,rfl,Q,iR,JY,hz,hp,hle,h1⟩;have gL:E.length+q.length<=100000:=by
   have:=congrArg fZ Q;simp at this;omega
  unfold Gw;cases q with
  |nil=>
   refine aT (by simp) ?_;exact hK Q (JY.resolve_right (by simp)) h1
  |cons x q=>
   have G:=h1.drew;have mb:∀{w:ak} {ts:List LT},QJ c w0 Z W ts w s->at_ w (W.add 40) (.map (some c.r2)):=λ h=>h.inv.eI 6 rfl
   have N:∀{w:ak} {o:LT} {ts:List LT},QJ c w0 Z W (o::oF bx 1 (aa H (x::q).length y) (x::q)::ts) w s->Sl bx 1 w (aa H (x::q).length y) (x::q):=λ{w o ts} h=>h.get (t:=oF bx 1 (aa H (x::q).length y) (x::q)) (by simp)
   have hx:=zw x (iR x (by simp));refine cJ (by simp) ⟨_,mb G, ?_⟩;refine Sl.ix (z:=1) (l:=x::q) (λ _=>rfl) (by omega) (N G) (by omega) (by simp) (λ a _ ha=> ?_);have lj:=ha 0 _ rfl;simp only[add_zero] at lj;refine⟨_,lj,_,JC G.inv.sT,_,rfl, ?_⟩;have JZ:aq aj ((((s.m2 ((x::q)[(0:Int).toNat]'(by simp))).getD 0:Nat):Int)+(c1:Int))=(((s.m2 x).getD 0+c1:Nat):Int):=by
    show aq aj ((((s.m2 x).getD 0:Nat):Int)+(c1:Int))=_;rw[dV (by omega) (by omega)];omega
   refine bn (λ hc=> ?_) (λ hc=> ?_)
   ·have hgt:M<(s.m2 x).getD 0+c1:=by
     rw[decide_eq_true_iff,JZ] at hc;omega
    have Dz:E≠[]:=by
     intro e;have:=hz e;omega
    exact cJ (by simpa using hp Dz) (hK Q Dz G)
   ·have apE:(s.m2 x).getD 0+c1<=M:=by
     rw[decide_eq_false_iff_not,JZ] at hc;omega
    refine Sl.ix (z:=1) (l:=x::q) (λ _=>rfl) (by omega) (N G) (by omega) (by simp) (λ a2 _ Ul=> ?_);have X:=Ul 0 _ rfl;simp only[add_zero] at X;refine⟨_,X, ?_⟩;dsimp only;simp only[dH] at gL;have aiu:=vi x w1.drew;refine QJ.push (enc:=bx) (l:=E) (x:=x) ri G aiu (by omega) (by omega) (λ p cc w2 h2 _=> ?_);have I:=h2.drew;refine⟨_,mb I, ?_⟩;refine Sl.ix (z:=1) (l:=x::q) (λ _=>rfl) (by omega) (N I) (by omega) (by simp) (λ a3 _ ha3=> ?_);have Uy:=ha3 0 _ rfl;simp only[add_zero] at Uy;refine⟨_,Uy,_,JC I.inv.sT,_,rfl, ?_⟩;obtain⟨_,_,e,S_⟩:=aX.ex (N I);cases e;refine⟨_,air (n:=(x::q).length) (by simp) S_,_,_,_,rfl, ?_⟩;dsimp only;simp only[Int.toNat_zero,List.getElem_cons_zero];rw[show aq aj ((c1:Int)+(((s.m2 x).getD 0:Nat):Int))=((c1+(s.m2 x).getD 0:Nat):Int) by rw[dV (by omega) (by omega)];omega];have h3:=((I.perm (d_ _ _ _)).as (t':=oF bx 1 (aa (C4 H 1 y 1) q.length (y-1)) q) (λ hF=>aiq (λ _=>rfl) hF) (λ b hb=>by
     have gD:aN (aa (C4 H 1 y 1) q.length (y-1))=some b:=hb;show aN (aa H (x::q).length y)=some b;rw[<-gD];exact(Ua _ _ _ _ _ _ _ _).symm)).perm (d_ _ _ _)
    refine⟨⟨trivial,trivial,trivial,trivial,q,E++[x],c1+(s.m2 x).getD 0,by simp,by simp,rfl,by rw[Q];simp,λ n hn=>iR n (by simp[hn]), .inl (by simp),λ e=>by simp at e,λ _=>by omega,by omega, ?_⟩,by simp⟩;have e5:(E++[x]).length=E.length+1:=by simp
    rw[e5];exact h3
end
def D3(W:kd)(f:OA)(h:Int)(C:Nat->ak->Prop)(w:ak):Prop:=
 (au ag 233 #[(an f)] w λ zB U=>
  az (ax zB) λ K J I=>
  aK U (aw (aw W 4) 2) [(ah aj h)] 0 ((au ag 234 #[(cG 162 (aa K J I)),(ah af (aq af h))] U λ aiw zf=>
   ∃(H:OA) (E:Nat) (x:Nat) (Q:ay),ax aiw (aV #[(aa H E x),Q])/\aK zf (aw (aw W 4) 2) [(ah aj h)] 0 (a_ zf (.cells #[(aa none 0 0),aA] 182) λ r zg=>
    aK zg (aw (aw W 4) 2) [(ah aj h)] 0 (wr zg (aw ⟨r,0,none⟩ 0) (aa H E x) λ w21=>
     wr w21 (aw ⟨r,0,none⟩ 1) Q λ vf=>C r vf)))/\(a_ U (.cells #[(aa none 0 0),aA] 182) λ q oz=>
   aK oz (aw (aw W 4) 2) [(ah aj h)] 0 (au ag 234 #[(cG 162 (aa K J I)),(ah af (aq af h))] oz λ X zd=>
    ∃(G:OA) (y:Nat) (u:Nat) (N:ay),ax X (aV #[(aa G y u),N])/\aK zd (aw (aw W 4) 2) [(ah aj h)] 0 (wr zd (aw ⟨q,0,none⟩ 0) (aa G y u) λ ze=>
     wr ze (aw ⟨q,0,none⟩ 1) N λ qU=>C q qU)))))/\
  (a_ w (.cells #[(aa none 0 0),aA] 182) λ R w7=>
  aK w7 (aw (aw W 4) 2) [(ah aj h)] 0 (au ag 233 #[(an f)] w7 λ vm w8=>
   az (ax vm) λ sP sL sC=>
   aK w8 (aw (aw W 4) 2) [(ah aj h)] 0 (au ag 234 #[(cG 162 (aa sP sL sC)),(ah af (aq af h))] w8 λ DA w9=>
    ∃(Uz:OA) (UA:Nat) (UB:Nat) (x1:ay),ax DA (aV #[(aa Uz UA UB),x1])/\aK w9 (aw (aw W 4) 2) [(ah aj h)] 0 (wr w9 (aw ⟨R,0,none⟩ 0) (aa Uz UA UB) λ jg=>
     wr jg (aw ⟨R,0,none⟩ 1) x1 λ gA=>C R gA))))
section
variable{c:WC}[RO c]{w0:ak}{Z Zc:Nat->Prop}{w w':ak}{W d:kd}{s s':cF}{ts:List LT}{t t':LT}{fv:ay}{l:Wd}
theorem C1.mA(h:C1 c w0 Z w W s):at_ w ((W.add 4).add 2) (ah aj (s.t2:Int)):=by
 have:=h.dP 6 rfl;rw[add_add _ _ _ h.mw];exact this
theorem C1.nw(h:C1 c w0 Z w W s):at_ w ((W.add 4).add 1) (ah aj (s.t1:Int)):=by
 have:=h.dP 5 rfl;rw[add_add _ _ _ h.mw];exact this
theorem UC{fp:OA}{fc fb:Nat}{C:Nat->ak->Prop}(h:QJ c w0 Z W ts w s)(X:c.lf=some fv)(E:fv=aa fp s.F.length fc)(hm:aJ ⟨fb,0,none⟩ [fv]∈ts)(i_:s.t2=s.F.length)(hF:s.F.length<=1073741824)
  (hC:∀d w',QD c w0 Z W ⟨d,0,none⟩ fv ts w' s s.F->C d w'):D3 W (some ⟨fb,0,none⟩) (s.t2:Int) C w:=by
 have DB:∀{w:ak},QJ c w0 Z W ts w s->Ob w ⟨fb,0,none⟩ [aa fp s.F.length fc]:=λ h=>by
  have:=h.get hm;rw[<-E];exact this
 have U:∀{w:ak},QJ c w0 Z W ts w s->cz w (aa fp s.F.length fc) s.F:=λ h=>by
  obtain⟨_,g,q⟩:=h.inv;have:=q.F.eD;rwa[q.gz fv X,E] at this
 have R:∀{w:ak},QJ c w0 Z W ts w s->∀x,aN fv=some x->x<w.heap.size:=λ h x hx=>by
  obtain⟨_,g,q⟩:=h.inv;exact q.F.aN x (by rw[q.gz fv X];exact hx)
 have y:∀{w:ak},QJ c w0 Z W ts w s->at_ w ((W.add 4).add 2) (ah aj (s.t2:Int)):=λ h=>h.inv.mA
 have H:∀{w':ak} {d:Nat} {q:OA} {qc:Nat},aS w w'->w.heap.size<=d->d<w'.heap.size->Ob w' ⟨d,0,none⟩ [aa q s.F.length qc,aA]->cz w' (aa q s.F.length qc) s.F->aN (aa q s.F.length qc)=aN fv->C d w':=by
  intro w' d q qc k hd DC I G lQ;refine hC d w' ⟨X,h.new (t:=fE d) k DC (λ b G=> ?_),_,⟨I,G, ?_,hF⟩,lQ⟩
  ·have gD:b=d:=G;omega
  ·intro e;have:=R h d (by rw[<-lQ];exact e);omega
 have e64:aq af (s.t2:Int)=(s.F.length:Int):=by rw[i_,bk (by omega) (by omega)]
 unfold D3;rw[e64];refine⟨?_, ?_⟩
 ·refine aF (u7 (DB h)) ?_;rintro _ w ⟨rfl,rfl⟩;refine⟨_,_,_,rfl,by simpa using y h, ?_, ?_⟩
  ·refine aF (pT (U h) rfl) ?_;rintro _ N ⟨q,qc,rfl,hq,G,dj⟩;have u:=h.aH dj;refine⟨_,_,_,_,rfl,by simpa using y u, ?_⟩;have I:=Ob.new N [aa none 0 0,aA] 182;have r:=bA N (.cells ⟨[aa none 0 0,aA]⟩ 182);refine⟨by simpa using y (u.aH r), ?_⟩;refine pS I r (bB _) trivial trivial (λ gA u' r _=> ?_);exact H (dj.trans r) dj.size (u'.lt (by simp)) u' (Sl.aH hq r) (by rw[G,E])
  ·have I:=Ob.new w [aa none 0 0,aA] 182;have dj:=bA w (.cells ⟨[aa none 0 0,aA]⟩ 182);have J:w.heap.size<(w.alloc (.cells ⟨[aa none 0 0,aA]⟩ 182)).heap.size:=I.lt (by simp);dsimp only[a_];change aK (w.alloc (.cells ⟨[aa none 0 0,aA]⟩ 182)) _ _ _ _;generalize (w.alloc (.cells ⟨[aa none 0 0,aA]⟩ 182))=N at I dj J;have u:=h.aH dj;refine⟨by simpa using y u, ?_⟩;refine aF (pT (U u) rfl) ?_;rintro _ gA ⟨q,qc,rfl,hq,G,r⟩;refine⟨_,_,_,_,rfl,by simpa using y (u.aH r), ?_⟩;refine pS (w:=w) (I.aH r) (dj.trans r) (bB _) trivial trivial (λ gn K iK Q=> ?_);refine H iK (bB _) (K.lt (by simp)) K (aX.away hq Q (λ x hx o e=> ?_)) (by rw[G,E]);have:=R h x (by rw[E,<-G];exact hx);omega
 ·have I:=Ob.new w [aa none 0 0,aA] 182;have dj:=bA w (.cells ⟨[aa none 0 0,aA]⟩ 182);have J:w.heap.size<(w.alloc (.cells ⟨[aa none 0 0,aA]⟩ 182)).heap.size:=I.lt (by simp);dsimp only[a_];change aK (w.alloc (.cells ⟨[aa none 0 0,aA]⟩ 182)) _ _ _ _;generalize (w.alloc (.cells ⟨[aa none 0 0,aA]⟩ 182))=N at I dj J;have u:=h.aH dj;refine⟨by simpa using y u, ?_⟩;refine aF (u7 (DB u)) ?_;rintro _ N ⟨rfl,rfl⟩;refine⟨_,_,_,rfl,by simpa using y u, ?_⟩;refine aF (pT (U u) rfl) ?_;rintro _ gA ⟨q,qc,rfl,hq,G,r⟩;refine⟨_,_,_,_,rfl,by simpa using y (u.aH r), ?_⟩;refine pS (w:=w) (I.aH r) (dj.trans r) (bB _) trivial trivial (λ gn K iK Q=> ?_);refine H iK (bB _) (K.lt (by simp)) K (aX.away hq Q (λ x hx o e=> ?_)) (by rw[G,E]);have:=R h x (by rw[E,<-G];exact hx);omega
end
theorem zC:mS ag 195 152 9 (.int .u32):=⟨by kernel_rfl,by kernel_rfl⟩
theorem DD:mS ag 371 152 372 (.int .u32):=⟨by kernel_rfl,by kernel_rfl⟩
theorem DE:mS ag 372 152 203 (.int .u32):=⟨by kernel_rfl,by kernel_rfl⟩
theorem oG:oe (.int .u32) dZ:=⟨λ a=>rfl,λ a b h=>by
 unfold dZ at h;injection h with _ h;omega⟩
def te(r:Nat):ay:= .map (some r)
def gq(S:List Wd)(l:List Wd):Nat->Option Wd:=l.foldl (λ g n=>cU g (bo S n) n) (λ _=>none)
theorem aiA(S l:List Wd)(n:Wd):gq S (l++[n])=cU (gq S l) (bo S n) n:=by simp[gq]
theorem aiB(S:List Wd):∀(l:List Wd) (g:Nat->Option Wd) (k:Nat),((l.foldl (λ g n=>cU g (bo S n) n) g) k).isSome↔(∃n∈l,bo S n=k)\/(g k).isSome:=by
 intro l;induction l with
 |nil=>intro g k;simp
 |cons n l u=>
  intro g k;rw[qo,u];unfold cU;by_cases h:k=bo S n
  ·subst h;simp
  ·rw[if_neg h];constructor
   ·rintro(⟨m,q,e⟩|r)
    ·exact .inl ⟨m,by simp[q],e⟩
    ·exact .inr r
   ·rintro(⟨m,q,e⟩|r)
    ·rcases dX.1 q with rfl|q
     ·exact absurd e.symm h
     ·exact .inl ⟨m,q,e⟩
    ·exact .inr r
theorem aiC(S l:List Wd)(k:Nat):(gq S l k).isSome↔∃n∈l,bo S n=k:=by
 unfold gq;rw[aiB];simp
section
variable{c:WC}[RO c]{w0:ak}{Z Zc:Nat->Prop}{w w':ak}{W d:kd}{s s':cF}{ts:List LT}{t t':LT}{fv:ay}{l:Wd}
theorem QJ.put{α β:Type}[DecidableEq α]{kc:α->ay}{vc:β->ay}{u:TypeDesc}{ty Q et:cK}(G:mS ag ty Q et u)(I:oe u kc){r:Nat}{m:α->Option β}{k:α}{v:β}{K:ak->Prop}(h:QJ c w0 Z W (iL kc vc r m::ts) w s)
  (y:∀w',QJ c w0 Z W (iL kc vc r (cU m k v)::ts) w' s->Fr (λ b _=>b=r) w w'->K w'):
  aP ag (do fF ty (.map (some r)) (kc k) (vc v);pure dU) w λ _ w'=>K w':=by
 have J:dY kc vc w r m:=h.get (t:=iL kc vc r m) (by simp);obtain⟨w',N,q,x⟩:=sn G I J k v;refine⟨dU,w', ?_,y w' (h.ey (t':=iL kc vc r (cU m k v)) x (λ b o E=>E) q (λ b H=> .inl H)) x⟩;simp[go_sem,N,iV]
theorem aiD{K:ay->ak->Prop}{H:OA->kd->OA->Nat->Nat->OA->Int->ak->Prop}{E np y fp:OA}{nL nC x M fb fc:Nat}{bl S:List Wd}
  (h:QJ c w0 Z W (aO bx 1 (aa y bl.length x) bl::ts) w s)(J0:c.lf=some fv)(qV:fv=aa fp s.F.length fc)(hm:aJ ⟨fb,0,none⟩ [fv]∈ts)(i_:s.t2=s.F.length)(jP:s.t1<=s.F.length)(hF:s.F.length<=1073741824)
  (jY:s.m1=ic S)(hS:S.length<=100000)(iR:∀n∈bl,n∈S)(jN:bl.length<=100000)
  (hK:∀{w':ak} {d U pm:Nat},QD c w0 Z W ⟨d,0,none⟩ fv (iL dZ te pm (λ _=>none)::iL dZ dM U (gq S bl)::aO bx 1 (aa y bl.length x) bl::ts) w' s (s.F.drop s.t1)->r8 K H E W np nL nC (some ⟨fb,0,none⟩) (M:Int) y bl.length x (some U) (some pm) ⟨d,0,none⟩ w'):
  tZ K H E W np nL nC (some ⟨fb,0,none⟩) (M:Int) y bl.length x w:=by
 unfold tZ;obtain⟨hr,hmf⟩:=uw (P:=ag) dZ dM 195 w;refine⟨_,_,hr,_,rfl, ?_⟩;have k1:=bA w (.map #[] 0);have h1:=h.new (t:=iL dZ dM w.heap.size (gq S [])) k1 hmf (λ b hb=>by
  have I:b=w.heap.size:=hb;subst I;exact⟨bB _,by simp⟩)
 generalize (w.alloc (.map #[] 0))=w1 at h1;generalize w.heap.size=U at h1;refine aa3 (λ X W' zy td zz f' M' J1 JW JX m' tp tL tC q u w'=>E=X/\W=W'/\np=zy/\nL=td/\nC=zz/\some ⟨fb,0,none⟩=f'/\M'=(M:Int)/\y=J1/\JW=bl.length/\x=JX/\m'=some U/\y=tp/\tL=bl.length/\x=tC/\q=(bl.length:Int)/\∃k:Nat,u=(k:Int)/\k<=bl.length/\QJ c w0 Z W (iL dZ dM U (gq S (bl.take k))::aO bx 1 (aa y bl.length x) bl::ts) w' s) (λ _ _ _ _ _ _ _ _ _ _ _ _ _ _ q u _=>(q-u).toNat) ?_ ?_
 ·exact⟨rfl,rfl,rfl,rfl,rfl,rfl,rfl,rfl,rfl,rfl,rfl,rfl,rfl,rfl,rfl,0,rfl,by omega,by simpa using h1⟩
 ·rintro _ _ _ _ _ _ _ _ _ _ _ _ _ _ _ _ G ⟨rfl,rfl,rfl,rfl,rfl,rfl,rfl,rfl,rfl,rfl,rfl,rfl,rfl,rfl,rfl,k,rfl,hk,N⟩;unfold Gv;refine bn (λ hc=> ?_) (λ hc=> ?_)
  ·have J:k<bl.length:=by simp at hc;omega
   have iP:Sl bx 1 G (aa y bl.length x) bl:=Own.cV (N.get (t:=aO bx 1 (aa y bl.length x) bl) (by simp));refine Sl.ix (z:=1) (l:=bl) (λ _=>rfl) (by omega) iP (by omega) (by omega) (λ a _ ha=> ?_);have lj:=ha 0 _ rfl;simp only[add_zero,fH] at lj;have mr:s.m1 (bl[k])=some (bo S (bl[k])):=by
    rw[jY];unfold ic bo;rw[if_pos (iR _ (by simp))]
   have aiF:at_ G (W.add 38) (.map (some c.r1)):=N.inv.eI 4 rfl;refine⟨_,lj,_,aiF,_,G,zp N.inv.uR mr,_,_,rfl,_,rfl,_,rfl,aT rfl ?_⟩;refine QJ.put (kc:=dZ) (vc:=dM) (k:=bo S (bl[k])) (v:=bl[k]) zC oG N (λ w3 R _=> ?_);rw[<-aiA,l7 J] at R;rw[bk (by omega) (by omega)];exact⟨⟨rfl,rfl,rfl,rfl,rfl,rfl,rfl,rfl,rfl,rfl,rfl,rfl,rfl,rfl,rfl,k+1,by omega,by omega,R⟩,by omega⟩
  ·have J:k=bl.length:=by simp at hc;omega
   subst J;rw[fY] at N;obtain⟨mj,aiG⟩:=uw (P:=ag) dZ te 371 G;refine⟨_,_,mj,_,rfl, ?_⟩;have k3:=bA G (.map #[] 0);have R:=N.new (t:=iL dZ te G.heap.size (λ _=>none)) k3 aiG (λ b hb=>by
    have I:b=G.heap.size:=hb;subst I;exact⟨bB _,by simp⟩)
   generalize (G.alloc (.map #[] 0))=w3 at R;generalize G.heap.size=pm at R;have oB:=R.drew;refine⟨_,oB.inv.mA, ?_⟩;refine UC (fp:=fp) (fc:=fc) (fb:=fb) (C:=λ r vf=>aD aj (at_ vf (aw (aw W 4) 1)) λ J2=>au ag 208 #[(an (some ⟨r,0,none⟩)),(ah af (aq af J2))] vf λ aiH zq=>r8 K H E W np nL nC (some ⟨fb,0,none⟩) (M:Int) y bl.length x (some U) (some pm) ⟨r,0,none⟩ zq)
    oB J0 qV (by simp[hm]) i_ hF (λ d w4 h4=>⟨_,h4.2.1.inv.nw, ?_⟩)
   dsimp only;rw[bk (by omega) (by omega)];refine aF (h4.jh (Q:=λ _ _=>True) (λ v hd=>aF (mT hd jP) (λ _ _ h=>⟨trivial,h⟩))) ?_;rintro _ w5 ⟨_,h5⟩;exact hK h5
end
abbrev dg:=OA×Nat×Nat
def b9(v:dg):ay:=aa v.1 v.2.1 v.2.2
structure PM(w:ak)(r:Nat)(g:Nat->Option Nat)(h:Nat->Nat->Option dg)(f:Nat->Nat->List Nat):Prop where
 out:dY dZ te w r g
 jZ:∀a b,g a=some b->dY dZ b9 w b (h a)/\b≠r
 inj:∀a q b,g a=some b->g q=some b->a=q
 own:∀a k v,h a k=some v->cP eU 1 w (b9 v) (f a k)
 rj:∀a k v b,h a k=some v->aN (b9 v)=some b->b≠r/\∀q,g q≠some b
 zD:∀a k v q u v' b,h a k=some v->h q u=some v'->aN (b9 v)=some b->aN (b9 v')=some b->a=q/\k=u
 kR:∀a k,h a k=none->f a k=[]
 zE:∀a k,g a=none->h a k=none
 ne:∀a k v,h a k=some v->f a k≠[]
def J3(r:Nat)(g:Nat->Option Nat)(h:Nat->Nat->Option dg)(b:Nat):Prop:=b=r\/(∃a,g a=some b)\/∃a k v,h a k=some v/\aN (b9 v)=some b
def fo(r:Nat)(g:Nat->Option Nat)(h:Nat->Nat->Option dg)(f:Nat->Nat->List Nat):LT:=
 ⟨J3 r g h,λ w=>PM w r g h f,λ p x y=>
  ⟨p.out.fr x 0 (λ q=>y r 0 q (.inl rfl)),λ a b u=>⟨(p.jZ a b u).1.fr x 0 (λ q=>y b 0 q (.inr (.inl ⟨a,u⟩))),(p.jZ a b u).2⟩,p.inj,λ a k v E=>(p.own a k v E).fr x (λ b u o q=>y b o q (.inr (.inr ⟨a,k,v,E,u⟩))),p.rj,p.zD,p.kR,p.zE,p.ne⟩⟩
def iU(f:Nat->Nat->List Nat)(a k x:Nat):Nat->Nat->List Nat:=λ q u=>if q=a/\u=k then f q u++[x] else f q u
def mB(h:Nat->Nat->Option dg)(a k:Nat)(v:dg):Nat->Nat->Option dg:=λ q u=>if q=a/\u=k then some v else h q u
section
variable{c:WC}[RO c]{w0:ak}{Z Zc:Nat->Prop}{w w' w2:ak}{W d:kd}{s s':cF}{ts:List LT}{t t':LT}{fv:ay}{l:Wd}
variable{r:Nat}{g:Nat->Option Nat}{h:Nat->Nat->Option dg}{f:Nat->Nat->List Nat}
theorem PM.aH(p:PM w r g h f)(q:aS w w'):PM w' r g h f:=(fo r g h f).st p q (λ _ _ x=>x.elim)
theorem tf(p:PM w r g h f){a b:Nat}(q:g a=some b):(dJ 371 (.map (some r)) (ah aL (a:Int)) false).run ag w= .ok (.map (some b)) w:=by
 have:=(pg DD oG (z:= .map none) (λ w=>by kernel_rfl) p.out a).2;rw[q] at this;exact this
def iv(o:Option dg):dg:=o.getD (none,0,0)
theorem J4(p:PM w r g h f){a b:Nat}(q:g a=some b)(k:Nat):(dJ 372 (.map (some b)) (ah aL (k:Int)) false).run ag w= .ok (b9 (iv (h a k))) w:=by
 have:=(pg DE oG (z:=aa none 0 0) (λ w=>by kernel_rfl) (p.jZ a b q).1 k).2;have e:(Option.map b9 (h a k)).getD (aa none 0 0)=b9 (iv (h a k)):=by
  unfold iv;cases h a k<;>rfl
 rw[e] at this;exact this
theorem PM.DF(p:PM w r g h f)(a k:Nat):cP eU 1 w (b9 (iv (h a k))) (f a k):=by
 cases q:h a k with
 |none=>
  rw[p.kR a k q];exact Own.nil _ _
 |some v=>exact p.own a k v q
theorem PM.nx(a k:Nat){b:Nat}(q:aN (b9 (iv (h a k)))=some b):∃v,h a k=some v/\aN (b9 v)=some b:=by
 cases u:h a k with
 |none=>rw[u] at q;cases q
 |some v=>rw[u] at q;exact⟨v,rfl,q⟩
theorem PM.grow{w3 w4:ak}{a b k x:Nat}{v:dg}(p:PM w r g h f)(hb:g a=some b)(hf:Fr (λ b o=>aN (b9 (iv (h a k)))=some b) w w3)(ho:cP eU 1 w3 (b9 v) (f a k++[x]))(lQ:aN (b9 v)=aN (b9 (iv (h a k)))\/∃gg,aN (b9 v)=some gg/\w.heap.size<=gg)
  (hm:dY dZ b9 w4 b (cU (h a) k v))(Q:Fr (λ x _=>x=b) w3 w4)(X:∀y,J3 r g h y->y<w.heap.size):PM w4 r g (mB h a k v) (iU f a k x):=by
 have R:∀y,aN (b9 (iv (h a k)))=some y->y≠r/\∀q,g q≠some y:=λ y G=>by
  obtain⟨v0,K,I⟩:=PM.nx a k G;exact p.rj a k v0 y K I
 have N:∀y,aN (b9 v)=some y->y≠r/\(∀q,g q≠some y)/\∀q u v',h q u=some v'->aN (b9 v')=some y->q=a/\u=k:=by
  intro y G;rcases lQ with e|⟨gg,e,nW⟩
  ·rw[e] at G;obtain⟨v0,K,I⟩:=PM.nx a k G;exact⟨(R y G).1,(R y G).2,λ q u v' lO E=>p.zD q u v' a k v0 y lO K E I⟩
  ·rw[e] at G;cases G;refine⟨λ e=> ?_,λ q e=> ?_,λ q u v' lO E=> ?_⟩
   ·have:=X r (.inl rfl);omega
   ·have:=X y (.inr (.inl ⟨q,e⟩));omega
   ·have:=X y (.inr (.inr ⟨q,u,v',lO,E⟩));omega
 have S6:=(p.jZ a b hb).2;have H:∀q u v',mB h a k v q u=some v'->(q=a/\u=k/\v'=v)\/(¬(q=a/\u=k)/\h q u=some v'):=by
  intro q u v' e;unfold mB at e;split at e
  ·next U=>exact .inl ⟨U.1,U.2,(iW e).symm⟩
  ·next U=>exact .inr ⟨U,e⟩
 refine⟨?_, ?_,p.inj, ?_, ?_, ?_, ?_, ?_, ?_⟩
 ·exact(p.out.fr hf 0 (λ e=>(R r e).1 rfl)).fr Q 0 (λ e=>S6 e.symm)
 ·intro q b' E;refine⟨?_,(p.jZ q b' E).2⟩;by_cases ha:q=a
  ·subst ha;rw[hb] at E;cases E;have:mB h q k v q=cU (h q) k v:=by
    funext u;unfold mB cU;by_cases hk:u=k<;>simp[hk]
   rw[this];exact hm
  ·have:mB h a k v q=h q:=by
    funext u;unfold mB;simp[ha]
   rw[this];exact((p.jZ q b' E).1.fr hf 0 (λ e=>(R b' e).2 q E)).fr Q 0 (λ e=>ha (p.inj q a b (by rw[<-e];exact E) hb))
 ·intro q u v' e;rcases H q u v' e with⟨rfl,rfl,rfl⟩|⟨J,e⟩
  ·have:iU f q u x q u=f q u++[x]:=by simp[iU]
   rw[this];exact ho.fr Q (λ y G o e=>(N y G).2.1 q (by rw[e];exact hb))
  ·have:iU f a k x q u=f q u:=by simp[iU,J]
   rw[this];refine((p.own q u v' e).fr hf (λ y G o e2=> ?_)).fr Q (λ y G o e2=>(p.rj q u v' y e G).2 a (by rw[e2];exact hb));obtain⟨v0,K,I⟩:=PM.nx a k e2;exact J (p.zD q u v' a k v0 y e K G I)
 ·intro q u v' y e G;rcases H q u v' e with⟨rfl,rfl,rfl⟩|⟨J,e⟩
  ·exact⟨(N y G).1,(N y G).2.1⟩
  ·exact p.rj q u v' y e G
 ·intro a1 k1 v1 a2 k2 v2 y e1 e2 h1 h2;rcases H a1 k1 v1 e1 with⟨rfl,rfl,rfl⟩|⟨JY,f1⟩<;>rcases H a2 k2 v2 e2 with⟨rfl,rfl,rfl⟩|⟨UD,f2⟩
  ·exact⟨rfl,rfl⟩
  ·exact absurd ((N y h1).2.2 a2 k2 v2 f2 h2) UD
  ·exact absurd ((N y h2).2.2 a1 k1 v1 f1 h1) JY
  ·exact p.zD a1 k1 v1 a2 k2 v2 y f1 f2 h1 h2
 ·intro q u e;unfold mB at e;split at e
  ·cases e
  ·next U=>simp[iU,U,p.kR q u e]
 ·intro q u e;unfold mB;split
  ·next U=>rw[U.1,hb] at e;cases e
  ·exact p.zE q u e
 ·intro q u v' e;rcases H q u v' e with⟨rfl,rfl,rfl⟩|⟨J,e⟩
  ·simp[iU]
  ·simp[iU,J,p.ne q u v' e]
end
section
variable{c:WC}[RO c]{w0:ak}{Z Zc:Nat->Prop}{w w' w2:ak}{W d:kd}{s s':cF}{ts:List LT}{t t':LT}{fv:ay}{l:Wd}
variable{r:Nat}{g:Nat->Option Nat}{h:Nat->Nat->Option dg}{f:Nat->Nat->List Nat}
theorem QJ.lt(q:QJ c w0 Z W ts w s)(x:t∈ts):∀b,t.B b->b<w.heap.size:=by
 obtain⟨Zc,E,y,_⟩:=q;exact λ b u=>E.eL b ((y t x).2 b u).1
theorem UE{K:ay->ak->Prop}{X:OA->kd->OA->Nat->Nat->OA->Int->OA->Nat->Nat->Option Nat->Option Nat->kd->Int->Int->Int->Int->Int->ak->Prop}
  {jX np f' bp:OA}{nL nC bL bC:Nat}{M sp ll sl nl i:Int}{ns:Option Nat}{a b k x:Nat}
  (hQ:QD c w0 Z W d fv (fo r g h f::ts) w s l)(u:g a=some b)(hx:aq aL (aq aj (gi sp 16))=(x:Int))(hl:(f a k).length<=100000)
  (hK:∀w' h',QD c w0 Z W d fv (fo r g h' (iU f a k x)::ts) w' s l->X jX W np nL nC f' M bp bL bC ns (some r) d sp ll sl nl (aq af (i+1)) w'):
  xv K X jX W np nL nC f' M bp bL bC ns (some r) d sp ll sl nl i (a:Int) (k:Int) w:=by
 unfold xv;have hd:=hQ.drew;have hp:∀{w:ak},QD c w0 Z W d fv (fo r g h f::ts) w s l->PM w r g h f:=λ q=>q.2.1.get (t:=fo r g h f) (by simp)
 have p1:=hp hd;refine⟨_,tf p1 u,_,rfl,_,tf p1 u,_,rfl,_,J4 p1 u k,_,_,_,rfl, ?_⟩;rw[hx];refine⟨_,_,Dm x w.drew,_,_,_,rfl, ?_⟩;have k2:=bA w.drew (.cells ⟨[ah aL (x:Int)]⟩ 152);have h2:=hd.aH k2;have sD:Sl eU 1 (w.drew.alloc (.cells ⟨[ah aL (x:Int)]⟩ 152)) (aa (some ⟨w.drew.heap.size,0,none⟩) 1 1) [x]:=aX.new w.drew 1 [ah aL (x:Int)] 152 1 1 rfl (bB _);generalize (w.drew.alloc (.cells ⟨[ah aL (x:Int)]⟩ 152))=w2 at h2 sD;have J:=hp h2;refine⟨J4 J u k,tf J u,tf J u, ?_⟩;refine oi (enc:=eU) (l:=f a k) (m:=[x]) zo (J.DF a k) sD (by simp;omega) (by simp;omega) (λ p cc U ho hf lQ=> ?_);have H:Fr (λ b o=>aN (b9 (iv (h a k)))=some b) w2 U:=hf.mono (λ b o _ hS=>hS.1);have hB:∀(b:Nat),aN (b9 (iv (h a k)))=some b->(fo r g h f).B b:=λ b e=>by
  obtain⟨v0,R,N⟩:=PM.nx a k e;exact .inr (.inr ⟨a,k,v0,R,N⟩)
 have zj:∀y,aN (b9 (iv (h a k)))=some y->y≠r/\∀a',g a'≠some y:=λ y E=>by
  obtain⟨v0,R,N⟩:=PM.nx a k E;exact J.rj a k v0 y R N
 have aiI:dY dZ te U r g:=J.out.fr H 0 (λ e=>(zj r e).1 rfl);have I:(dJ 371 (.map (some r)) (ah aL (a:Int)) false).run ag U= .ok (.map (some b)) U:=by
  have:=(pg DD oG (z:= .map none) (λ w=>by kernel_rfl) aiI a).2;rw[u] at this;exact this
 refine⟨I,I, ?_⟩;have aiJ:dY dZ b9 U b (h a):=(J.jZ a b u).1.fr H 0 (λ e=>(zj b e).2 a u);obtain⟨w4,jT,hm4,Q⟩:=sn DE oG aiJ k (p,(f a k).length+1,cc);refine⟨dU,w4, ?_, ?_⟩
 ·have aiL:(fF 372 (.map (some b)) (ah aL (k:Int)) (aa p ((f a k).length+1) cc)).run ag U= .ok () w4:=jT;simp[go_sem,aiL,iV]
 ·unfold xu;have hlen:(f a k++[x]).length=(f a k).length+1:=by simp
  have ho':cP eU 1 U (b9 (p,(f a k).length+1,cc)) (f a k++[x]):=ho;have hg:=PM.grow (v:=(p,(f a k).length+1,cc)) J u H ho' lQ hm4 Q (h2.2.1.lt (t:=fo r g h f) (by simp));refine hK w4 (mB h a k (p,(f a k).length+1,cc)) (h2.ey (t':=fo r g (mB h a k (p,(f a k).length+1,cc)) (iU f a k x)) (S:=λ y o=>aN (b9 (iv (h a k)))=some y\/y=b) ((H.mono (λ y o _ e=> .inl e)).step Q (λ y o e _=> .inr e)) (λ y o hS=> ?_) hg (λ y E=> ?_))
  ·rcases hS with e|e
   ·exact hB y e
   ·rw[e];exact .inr (.inl ⟨a,u⟩)
  ·rcases E with E|⟨a',E⟩|⟨a',k',v',hv,E⟩
   ·exact .inl (.inl E)
   ·exact .inl (.inr (.inl ⟨a',E⟩))
   ·unfold mB at hv;split at hv
    ·have e:=iW hv;subst e;rcases lQ with e|⟨gg,e,nW⟩
     ·have G:aN (b9 (iv (h a k)))=some y:=e.symm.trans E;exact .inl (hB y G)
     ·have G:aN (aa p ((f a k).length+[x].length) cc)=some y:=E;have e2:gg=y:=by rw[e] at G;exact iW G
      subst e2;exact .inr ⟨nW,dR (ho.lt G) Q.size⟩
    ·exact .inl (.inr (.inr ⟨a',k',v',hv,E⟩))
end
section
variable{c:WC}[RO c]{w0:ak}{Z Zc:Nat->Prop}{w w' w2:ak}{W d:kd}{s s':cF}{ts:List LT}{t t':LT}{fv:ay}{l:Wd}
variable{r:Nat}{g:Nat->Option Nat}{h:Nat->Nat->Option dg}{f:Nat->Nat->List Nat}
theorem PM.name{X:ak}{a b:Nat}(p:PM w r g h f)(hg:g a=none)(hk:aS w w2)(hb:dY dZ b9 w2 b (λ _=>none))(nW:w.heap.size<=b)(hm:dY dZ te X r (cU g a b))(Q:Fr (λ x _=>x=r) w2 X)(E:∀y,J3 r g h y->y<w.heap.size):PM X r (cU g a b) h f:=by
 have I:b≠r:=λ e=>by have:=E r (.inl rfl);omega
 have u:∀q y,cU g a b q=some y->(q=a/\y=b)\/(q≠a/\g q=some y):=by
  intro q y e;unfold cU at e;split at e
  ·next R=>exact .inl ⟨R,(iW e).symm⟩
  ·next R=>exact .inr ⟨R,e⟩
 refine⟨hm, ?_, ?_, ?_, ?_,p.zD,p.kR, ?_,p.ne⟩
 ·intro q y e;rcases u q y e with⟨rfl,rfl⟩|⟨U,e⟩
  ·have:h q=λ _=>none:=by
    funext k;exact p.zE q k hg
   rw[this];exact⟨hb.fr Q 0 (λ e=>I e),I⟩
  ·exact⟨((p.jZ q y e).1.aH hk).fr Q 0 (λ G=>(p.jZ q y e).2 G),(p.jZ q y e).2⟩
 ·intro N H y e1 G;rcases u N y e1 with⟨rfl,rfl⟩|⟨U,f1⟩<;>rcases u H _ G with⟨h3,h4⟩|⟨UD,K⟩
  ·exact h3.symm
  ·have:=E _ (.inr (.inl ⟨H,K⟩));omega
  ·have:=E _ (.inr (.inl ⟨N,f1⟩));omega
  ·exact p.inj N H y f1 K
 ·intro q k v e;exact((p.own q k v e).aH hk).fr Q (λ y J o G=>(p.rj q k v y e J).1 G)
 ·intro q k v y e J;refine⟨(p.rj q k v y e J).1,λ H G=> ?_⟩;rcases u H y G with⟨_,h4⟩|⟨_,K⟩
  ·have:=E y (.inr (.inr ⟨q,k,v,e,J⟩));omega
  ·exact(p.rj q k v y e J).2 H K
 ·intro q k e;unfold cU at e;split at e
  ·cases e
  ·exact p.zE q k e
def fX(S:List Wd)(bl:List Wd)(f:Nat->Nat->List Nat)(x:Nat)(labs:eh):Nat->Nat->List Nat:=
 labs.foldl (λ f y=>if(gq S bl (bo S y.1)).isSome then iU f (bo S y.1) (bo S y.2) x else f) f
theorem UF(S bl:List Wd)(f:Nat->Nat->List Nat)(x:Nat)(A:eh)(y:Wd×Wd):fX S bl f x (A++[y])=if(gq S bl (bo S y.1)).isSome then iU (fX S bl f x A) (bo S y.1) (bo S y.2) x else fX S bl f x A:=by
 simp[fX]
theorem aiN(f:Nat->Nat->List Nat)(a k x q u:Nat):(iU f a k x q u).length<=(f q u).length+1:=by
 unfold iU;split
 ·simp
 ·omega
theorem UG(S bl:List Wd)(x:Nat):∀(labs:eh) (f:Nat->Nat->List Nat) (a k:Nat),(fX S bl f x labs a k).length<=(f a k).length+labs.length:=by
 intro labs;induction labs with
 |nil=>intro f a k;simp[fX]
 |cons y labs u=>
  intro f a k;have E:=u (if(gq S bl (bo S y.1)).isSome then iU f (bo S y.1) (bo S y.2) x else f) a k;have G:((if(gq S bl (bo S y.1)).isSome then iU f (bo S y.1) (bo S y.2) x else f) a k).length<=(f a k).length+1:=by
   split
   ·exact aiN f _ _ x a k
   ·omega
  have q:fX S bl f x (y::labs)=fX S bl (if(gq S bl (bo S y.1)).isSome then iU f (bo S y.1) (bo S y.2) x else f) x labs:=rfl;rw[q,dH];omega
end
section
variable{c:WC}[RO c]{w0:ak}{Z Zc:Nat->Prop}{w w' w2:ak}{W d:kd}{s s':cF}{ts:List LT}{t t':LT}{fv:ay}{l:Wd}
variable{r:Nat}{g:Nat->Option Nat}{h:Nat->Nat->Option dg}{f:Nat->Nat->List Nat}
theorem QD.get(q:QD c w0 Z W d fv ts w s l)(u:t∈ts):t.F w:=q.2.1.get (by simp[u])
theorem aiO{K:ay->ak->Prop}{n9:OA->kd->OA->Nat->Nat->OA->Int->OA->Nat->Nat->Option Nat->Option Nat->kd->ak->Prop}
  {R np f' bp:OA}{nL nC bL bC H x:Nat}{M sp ll sl:Int}{S bl:List Wd}{labs:eh}{mid crc rest:Wd}
  (hQ:QD c w0 Z W d fv (fo r g h f::iL dZ dM H (gq S bl)::ts) w s (fy S labs++(mid++(crc++rest))))(hx:aq aL (aq aj (gi sp 16))=(x:Int))
  (hS:S.length<=100000)(iR:∀y∈labs,y.1∈S/\y.2∈S)(jF:labs.length<=1000)(J5:∀a k,(f a k).length<=50000)(sB:crc.length=4)
  (hlen:ll-(sl-(mid++(crc++rest)).length)=(mid.length:Int))(iP:0<=sl/\sl<=1073741824)(jc:0<=ll/\ll<=1073741824)(DG:(mid++(crc++rest)).length<=1073741824)
  (hK:∀w' g' h',QD c w0 Z W d fv (fo r g' h' (fX S bl f x labs)::iL dZ dM H (gq S bl)::ts) w' s rest->n9 R W np nL nC f' M bp bL bC (some H) (some r) d w'):
  Gp K n9 R W np nL nC f' M bp bL bC (some H) (some r) d sp ll sl (labs.length:Int) 0 w:=by
 refine aaW (λ U W1 ln ny lq f1 M1 my nA mz zF nB d1 J6 J7 J8 DH i w'=>R=U/\W=W1/\np=ln/\nL=ny/\nC=lq/\f'=f1/\M=M1/\bp=my/\bL=nA/\bC=mz/\zF=some H/\nB=some r/\d=d1/\sp=J6/\ll=J7/\sl=J8/\DH=(labs.length:Int)/\∃(A B:eh) (g:Nat->Option Nat) (h:Nat->Nat->Option dg),labs=A++B/\i=(A.length:Int)/\QD c w0 Z W d fv (fo r g h (fX S bl f x A)::iL dZ dM H (gq S bl)::ts) w' s (fy S B++(mid++(crc++rest)))) (λ _ _ _ _ _ _ _ _ _ _ _ _ _ _ _ _ nl i _=>(nl-i).toNat) ?_ ?_
 ·exact⟨rfl,rfl,rfl,rfl,rfl,rfl,rfl,rfl,rfl,rfl,rfl,rfl,rfl,rfl,rfl,rfl,rfl,[],labs,g,h,rfl,rfl,by simpa[fX] using hQ⟩
 ·rintro _ _ _ _ _ _ _ _ _ _ _ _ _ _ _ _ _ _ w1 ⟨rfl,rfl,rfl,rfl,rfl,rfl,rfl,rfl,rfl,rfl,rfl,rfl,rfl,rfl,rfl,rfl,rfl,A,B,g1,h1,E,rfl,q1⟩;have DI:∀a k,(fX S bl f x A a k).length<=100000:=λ a k=>by
   have e1:=UG S bl x A f a k;have e2:=J5 a k;have e3:=congrArg fZ E;simp at e3;omega
  unfold Gn;cases B with
  |nil=>
   have hl:A.length=labs.length:=by rw[E];simp
   rw[iA] at E;subst E;refine aT (by simp) ?_;have DJ:QD c w0 Z W d fv (fo r g1 h1 (fX S bl f x labs)::iL dZ dM H (gq S bl)::ts) w1 s (mid++(crc++rest)):=by simpa[fy] using q1
   refine aF DJ.jC ?_;rintro _ w1 ⟨rfl,rfl⟩;refine⟨_,rfl, ?_⟩;dsimp only;have e:aq af (aq af (ll-aq af (sl-((mid++(crc++rest)).length:Int)))+4)=((mid.length+4:Nat):Int):=by
    have hmm:mid.length<=(mid++(crc++rest)).length:=by simp
    rw[bk (x:=sl-((mid++(crc++rest)).length:Int)) (by omega) (by omega),hlen,bk (x:=(mid.length:Int)) (by omega) (by omega),bk (by omega) (by omega)];omega
   rw[e];have eZ:(mid++(crc++rest)).drop (mid.length+4)=rest:=by
    have:mid.length+4=(mid++crc).length:=by simp[sB]
    rw[this,<-dx,iz]
   refine aF (DJ.jh (Q:=λ _ _=>True) (l':=rest) (λ v hd=>by
    have:=mT (n:=mid.length+4) hd (by simp;omega);rw[eZ] at this;exact aF this (λ _ _ h=>⟨trivial,h⟩))) ?_
   rintro _ w2⟨_,q2⟩;refine aF q2.fU ?_;rintro _ w2 ⟨rfl,rfl⟩;refine⟨_,rfl,_,λ w=>cE _ w,_,rfl,aT rfl ?_⟩;exact hK w2 g1 h1 q2
  |cons y B=>
   have JR:labs.length=A.length+(B.length+1):=by rw[E];simp
   have hy:=iR y (by rw[E];simp);have i1:=List.idxOf_lt_length_of_mem hy.1;have i2:=List.idxOf_lt_length_of_mem hy.2;have vn:bo S y.1<100001:=by unfold bo;omega
   have UH:bo S y.2<100001:=by unfold bo;omega
   refine cJ (by simp;omega) ?_;have hd:fy S (y::B)++(mid++(crc++rest))=bm (bo S y.1)++(bm (bo S y.2)++(fy S B++(mid++(crc++rest)))):=by simp[fy]
   rw[hd] at q1;refine aF (q1.jh (Q:=λ r _=>r=ah af (bo S y.1:Int)) (λ v hd=>kI iO hd (by omega))) ?_;rintro _ w2 ⟨rfl,q2⟩;refine⟨_,rfl, ?_⟩;refine aF (q2.jh (Q:=λ r _=>r=ah af (bo S y.2:Int)) (λ v hd=>kI iO hd (by omega))) ?_;rintro _ J ⟨rfl,q3⟩;refine⟨_,rfl, ?_⟩;dsimp only;rw[iY (x:=(bo S y.1:Int)) (by omega) (by omega),iY (x:=(bo S y.2:Int)) (by omega) (by omega)];have SC:dY dZ dM J H (gq S bl):=q3.get (t:=iL dZ dM H (gq S bl)) (by simp);have X:=(pg zC oG (z:=aC ⟨#[]⟩) (λ w=>by kernel_rfl) SC (bo S y.1)).1;have J9:labs=(A++[y])++B:=by rw[E];simp
   have UI:aq af ((A.length:Int)+1)=((A++[y]).length:Int):=by
    rw[bk (by omega) (by omega)];simp
   have G:∀{w':ak} {g':Nat->Option Nat} {h':Nat->Nat->Option dg},QD c w0 Z W d fv (fo r g' h' (fX S bl f x (A++[y]))::iL dZ dM H (gq S bl)::ts) w' s (fy S B++(mid++(crc++rest)))->(λ U W1 ln ny lq f1 M1 my nA mz zF nB d1 J6 J7 J8 DH i w'=>(R=U/\W=W1/\np=ln/\nL=ny/\nC=lq/\f'=f1/\M=M1/\bp=my/\bL=nA/\bC=mz/\zF=some H/\nB=some r/\d=d1/\sp=J6/\ll=J7/\sl=J8/\DH=(labs.length:Int)/\∃(A B:eh) (g:Nat->Option Nat) (h:Nat->Nat->Option dg),labs=A++B/\i=(A.length:Int)/\QD c w0 Z W d fv (fo r g h (fX S bl f x A)::iL dZ dM H (gq S bl)::ts) w' s (fy S B++(mid++(crc++rest))))/\(DH-i).toNat<((labs.length:Int)-(A.length:Int)).toNat) R W np nL nC f' M bp bL bC (some H) (some r) d sp ll sl (labs.length:Int) (aq af ((A.length:Int)+1)) w':=by
    intro w' g' h' q;refine⟨⟨rfl,rfl,rfl,rfl,rfl,rfl,rfl,rfl,rfl,rfl,rfl,rfl,rfl,rfl,rfl,rfl,rfl,A++[y],B,g',h',J9,UI,q⟩, ?_⟩;rw[UI];simp;omega
   cases u:gq S bl (bo S y.1) with
   |none=>
    rw[u] at X;refine⟨_,J,X,_,_,rfl,_,rfl,_,rfl,aT rfl ?_⟩;unfold xu;refine G (g':=g1) (h':=h1) ?_;rw[UF,u];exact q3
   |some nm=>
    rw[u] at X;refine⟨_,J,X,_,_,rfl,_,rfl,_,rfl,cJ rfl ?_⟩;have UJ:∀{w':ak} {g':Nat->Option Nat} {h':Nat->Nat->Option dg},QD c w0 Z W d fv (fo r g' h' (iU (fX S bl f x A) (bo S y.1) (bo S y.2) x)::iL dZ dM H (gq S bl)::ts) w' s (fy S B++(mid++(crc++rest)))->QD c w0 Z W d fv (fo r g' h' (fX S bl f x (A++[y]))::iL dZ dM H (gq S bl)::ts) w' s (fy S B++(mid++(crc++rest))):=by
     intro w' g' h' q;rw[UF,u];exact q
    have p3:PM J r g1 h1 (fX S bl f x A):=q3.get (t:=fo r g1 h1 (fX S bl f x A)) (by simp);have I:=(pg DD oG (z:= .map none) (λ w=>by kernel_rfl) p3.out (bo S y.1)).1;cases hg:g1 (bo S y.1) with
    |some b=>
     rw[hg] at I;refine⟨_,J,I,_,_,rfl,_,rfl,_,rfl,aT rfl ?_⟩;exact UE q3 hg hx (DI _ _) (λ w' h' q=>G (UJ q))
    |none=>
     rw[hg] at I;refine⟨_,J,I,_,_,rfl,_,rfl,_,rfl,cJ rfl ?_⟩;obtain⟨jT,aiP⟩:=uw (P:=ag) dZ b9 372 J;refine⟨_,_,jT,_,rfl, ?_⟩;have k4:=bA J (.map #[] 0);have hs4:J.heap.size<(J.alloc (.map #[] 0)).heap.size:=by simp
     have q4:=q3.aH k4;have I3:=q3.2.1.lt (t:=fo r g1 h1 (fX S bl f x A)) (by simp);generalize zj:J.heap.size=nb at*;generalize (J.alloc (.map #[] 0))=w4 at*;have p4:=p3.aH k4;obtain⟨w5,Il,th,jQ⟩:=sn DD oG p4.out (bo S y.1) nb;refine⟨dU,w5, ?_, ?_⟩
     ·have aiQ:(fF 371 (.map (some r)) (ah aL (bo S y.1:Int)) (.map (some nb))).run ag w4= .ok () w5:=Il;simp[go_sem,aiQ,iV]
     ·have p5:=PM.name p3 hg k4 aiP (by omega) th jQ (λ z N=>by have:=I3 z N;omega);have aiR:Fr (λ y _=>y=r) J w5:=(Fr.mono k4 (λ _ _ _ x=>x.elim)).step jQ (λ _ _ x _=>x);have q5:=q3.ey (t':=fo r (cU g1 (bo S y.1) nb) h1 (fX S bl f x A)) aiR (λ z o hS=> .inl hS) p5 (λ z N=>by
       rcases N with N|⟨a',N⟩|N
       ·exact .inl (.inl N)
       ·unfold cU at N;split at N
        ·have e:=iW N;have:=jQ.size;exact .inr (by omega)
        ·exact .inl (.inr (.inl ⟨a',N⟩))
       ·exact .inl (.inr (.inr N)))
      exact UE q5 (by unfold cU;rw[if_pos rfl]) hx (DI _ _) (λ w' h' q=>G (UJ q))
end
def j_(S bl:List Wd):(Nat->Nat->List Nat)->Wd->List bI->(Nat->Nat->List Nat)
 |f,_,[]=>f
 |f,F,x::L=>j_ S bl (fX S bl f (gM F) x.labels) (dr S F x) L
theorem aiS(S bl:List Wd)(x:bI):∀(A:List bI) (f:Nat->Nat->List Nat) (F:Wd),j_ S bl f F (A++[x])=fX S bl (j_ S bl f F A) (gM (eH S F A)) x.labels:=by
 intro A;induction A with
 |nil=>intro f F;rfl
 |cons y A q=>
  intro f F;show j_ S bl (fX S bl f (gM F) y.labels) (dr S F y) (A++[x])=_;rw[q];rfl
theorem aiT(S bl:List Wd):∀(L:List bI) (f:Nat->Nat->List Nat) (F:Wd) (a k:Nat),(∀x∈L,x.labels.length<=100)->(j_ S bl f F L a k).length<=(f a k).length+100*L.length:=by
 intro L;induction L with
 |nil=>intro f F a k _;simp[j_]
 |cons x L E=>
  intro f F a k q;have G:=E (fX S bl f (gM F) x.labels) (dr S F x) a k (λ y u=>q y (by simp[u]));have H:=UG S bl (gM F) x.labels f a k;have I:=q x (by simp);show(j_ S bl (fX S bl f (gM F) x.labels) (dr S F x) L a k).length<=_;rw[dH];omega
section
variable{c:WC}[RO c]{w0:ak}{Z Zc:Nat->Prop}{w w' w2:ak}{W d:kd}{s s':cF}{ts:List LT}{t t':LT}{fv:ay}{l:Wd}
variable{r:Nat}{g:Nat->Option Nat}{h:Nat->Nat->Option dg}{f:Nat->Nat->List Nat}
theorem aiU{K:ay->ak->Prop}{X:OA->kd->OA->Nat->Nat->OA->Int->ak->Prop}
  {I np f' bp:OA}{nL nC bL bC ns:Nat}{M:Int}{S bl:List Wd}{F0:Wd}{L:List bI}
  (hQ:QD c w0 Z W d fv (fo r g h f::iL dZ dM ns (gq S bl)::ts) w s (ee S F0 L))(i_:s.t2=(eH S F0 L).length)(lT:(eH S F0 L).length<=536870912)(hL:L.length<=100)(oE:∀x∈L,(cA S x).length<=1000000)
  (hS:S.length<=100000)(iR:∀x∈L,∀y∈x.labels,y.1∈S/\y.2∈S)(jF:∀x∈L,x.labels.length<=100)(hf0:∀a k,f a k=[])
  (hK:∀w' g' h',QD c w0 Z W d fv (fo r g' h' (j_ S bl f F0 L)::iL dZ dM ns (gq S bl)::ts) w' s []->BE K X I W np nL nC f' M (some r) bp bL bC (bL:Int) 0 w'):
  r8 K X I W np nL nC f' M bp bL bC (some ns) (some r) d w:=by
 refine aa1 (λ pY W1 ln ny lq f1 M1 my nA mz zF nB d1 w'=>I=pY/\W=W1/\np=ln/\nL=ny/\nC=lq/\f'=f1/\M=M1/\bp=my/\bL=nA/\bC=mz/\zF=some ns/\nB=some r/\d=d1/\∃(A B:List bI) (g:Nat->Option Nat) (h:Nat->Nat->Option dg),L=A++B/\QD c w0 Z W d fv (fo r g h (j_ S bl f F0 A)::iL dZ dM ns (gq S bl)::ts) w' s (ee S (eH S F0 A) B)) (λ _ _ _ _ _ _ _ _ _ _ _ _ d1 w'=>yq d1 w') ?_ ?_
 ·exact⟨rfl,rfl,rfl,rfl,rfl,rfl,rfl,rfl,rfl,rfl,rfl,rfl,rfl,[],L,g,h,rfl,hQ⟩
 ·rintro _ _ _ _ _ _ _ _ _ _ _ _ _ w1 ⟨rfl,rfl,rfl,rfl,rfl,rfl,rfl,rfl,rfl,rfl,rfl,rfl,rfl,A,B,g1,h1,E,U⟩;have G:∀{w:ak} {l:Wd} {ts:List LT},QD c w0 Z W d fv ts w s l->yq d w=l.length:=λ q=>by
   obtain⟨_,_,v,hd,_⟩:=q;exact hd.left
  have gL:=G U;unfold Gu;refine aF U.jC ?_;rintro _ w1 ⟨rfl,rfl⟩;refine⟨_,rfl, ?_⟩;cases B with
  |nil=>
   rw[iA] at E;subst E;refine aT (by simp[ee]) ?_;exact hK _ g1 h1 U
  |cons x B=>
   have Dx:=Ut S x;have zA:(eH S F0 L).length=(eH S F0 A).length+(ee S (eH S F0 A) (x::B)).length:=by
    rw[E,ta,pX S (x::B),aY]
   have uQ:=oE x (by rw[E];simp);have hAL:A.length<=100:=by
    have:=congrArg fZ E;simp at this;omega
   have DI:∀a k,(j_ S bl f F0 A a k).length<=50000:=λ a k=>by
    have:=aiT S bl A f F0 a k (λ z hz=>jF z (by rw[E];simp[hz]));rw[hf0] at this;simp at this;omega
   generalize sX:eH S F0 A=u at*;have hu:=jB (cA S x).length;have lh:ee S u (x::B)=pad 16 u.length++(fk (cA S x)++ee S (dr S u x) B):=rfl;have lV:(fk (cA S x)).length=(bm (cA S x).length).length+((cA S x).length+4):=by simp[fk,cH]
   rw[lh] at U zA gL;simp only[aY] at zA;refine cJ (by rw[lh];simp only[aY,decide_eq_true_iff];omega) ?_;obtain⟨hb,N,heq,eY⟩:=Uu Dx;have ou:pad 16 u.length++(fk (cA S x)++ee S (dr S u x) B)=jx ((16-u.length % 16) % 16) 0++hb::(N++(cA S x++be 4 (cI 0 (cA S x)))++ee S (dr S u x) B):=by
    unfold pad fk;rw[heq];simp
   rw[ou] at U;refine aF (U.jh (Q:=λ _ _=>True) (l':=hb::(N++(cA S x++be 4 (cI 0 (cA S x)))++ee S (dr S u x) B)) (λ v hd=>aF (Ri hd eY) (λ _ _ h=>⟨trivial,h⟩))) ?_;rintro _ w2 ⟨_,h2⟩;have e2:hb::(N++(cA S x++be 4 (cI 0 (cA S x)))++ee S (dr S u x) B)=bm (cA S x).length++((cA S x++be 4 (cI 0 (cA S x)))++ee S (dr S u x) B):=by rw[heq];simp
   rw[e2] at h2;have H:=h2.drew;refine⟨_,H.2.1.inv.mA, ?_⟩;refine aF H.jC ?_;rintro _ w3 ⟨rfl,rfl⟩;refine⟨_,rfl,by simpa using H.2.1.inv.mA, ?_⟩;have J:(bm (cA S x).length++((cA S x++be 4 (cI 0 (cA S x)))++ee S (dr S u x) B)).length=(fk (cA S x)).length+(ee S (dr S u x) B).length:=by
    simp only[aY,cH,lV];omega
   have JU:aq aj ((s.t2:Int)-aq aj ((bm (cA S x).length++((cA S x++be 4 (cI 0 (cA S x)))++ee S (dr S u x) B)).length:Int))=((u.length+(pad 16 u.length).length:Nat):Int):=by
    rw[J,dV (x:=(((fk (cA S x)).length+(ee S (dr S u x) B).length:Nat):Int)) (by omega) (by omega),dV (by omega) (by omega)];omega
   rw[JU];have hmul:=CW (k:=16) u.length (by omega);have aqz:aq aL (aq aj (gi ((u.length+(pad 16 u.length).length:Nat):Int) 16))=((gM u:Nat):Int):=by
    rw[Int.tdiv_eq_ediv_of_nonneg (by omega),dV (by omega) (by omega),iY (by omega) (by omega)];unfold gM;omega
   refine aF (H.jh (Q:=λ r _=>r=ah af ((cA S x).length:Int)) (λ v hd=>kI iO hd (by omega))) ?_;rintro _ w4 ⟨rfl,h4⟩;refine⟨_,rfl, ?_⟩;refine aF h4.jC ?_;rintro _ w4 ⟨rfl,rfl⟩;refine⟨_,rfl, ?_⟩;have zt:(cA S x++be 4 (cI 0 (cA S x)))++ee S (dr S u x) B=bm x.labels.length++(fy S x.labels++((bm x.chunks.length++lP x.chunks)++(be 4 (cI 0 (cA S x))++ee S (dr S u x) B))):=by
    unfold cA;simp
   have R:(cA S x).length=(bm x.labels.length).length+((fy S x.labels).length+(bm x.chunks.length++lP x.chunks).length):=by
    unfold cA;simp only[aY]
   have sD:=jF x (by rw[E];simp);rw[zt] at h4;refine aF (h4.jh (Q:=λ r _=>r=ah af (x.labels.length:Int)) (λ v hd=>kI iO hd (by omega))) ?_;rintro _ w5 ⟨rfl,h5⟩;refine⟨_,rfl, ?_⟩;dsimp only;rw[zt];have DG:((bm x.chunks.length++lP x.chunks)++(be 4 (cI 0 (cA S x))++ee S (dr S u x) B)).length<=600000000:=by
    simp only[aY,cH] at R⊢;omega
   refine aiO (x:=gM u) (labs:=x.labels) (mid:=bm x.chunks.length++lP x.chunks) (crc:=be 4 (cI 0 (cA S x))) (rest:=ee S (dr S u x) B) h5 aqz hS (iR x (by rw[E];simp)) (by omega) DI (cH _ _) ?_ ?_ ⟨by omega,by omega⟩ (by omega) (λ w' g' h' q=> ?_)
   ·simp only[aY,cH] at R⊢;omega
   ·simp only[aY,cH] at R DG⊢;have:=Dr S hS x.labels (iR x (by rw[E];simp));have:=fw 10 x.labels.length (by omega) (by omega);omega
   ·have eS:j_ S bl f F0 (A++[x])=fX S bl (j_ S bl f F0 A) (gM u) x.labels:=by rw[aiS,sX]
    have eF:eH S F0 (A++[x])=dr S u x:=by
     rw[ta,sX];rfl
    refine⟨⟨rfl,rfl,rfl,rfl,rfl,rfl,rfl,rfl,rfl,rfl,rfl,rfl,rfl,A++[x],B,g',h',by rw[E];simp,by rw[eS,eF];exact q⟩, ?_⟩;rw[G q,gL];simp only[aY];omega
end
def PT(s0:cF)(G:Wd->Wd->List Nat)(T:List (Wd×Wd×Nat))(s:cF):Prop:=
 ∃P b1 b2 dig,s={s0 with P:=P,O:=T.flatMap cX,cnt:=T.length,b1:=b1,b2:=b2,dig:=dig}/\P.length<=10000*T.length/\
  ∀t∈T,t.1.length<=1000/\t.2.1.length<=1000/\t.2.2<=P.length/\∃r,P.drop t.2.2=dh (fM (G t.1 t.2.1))++r
theorem aiW(refs:List Nat):(fM refs).length=4+4*refs.length:=by
 unfold fM;rw[aY,cH,SL]
theorem PT.post{s0 s:cF}{G:Wd->Wd->List Nat}{T:List (Wd×Wd×Nat)}{n v b1 b2 dig:Wd}(h:PT s0 G T s)(U:(G n v).length<=1000)(J:n.length<=1000)(Q:v.length<=1000):∃k,PT s0 G (T++[(n,v,k)]) (Dw s n v (G n v) b1 b2 dig):=by
 obtain⟨P,c1,c2,R,rfl,hP,N⟩:=h;have x:=sM (k:=4) P.length (by omega);have K:=aiW (G n v);refine⟨(P++pad 4 P.length).length,P++(pad 4 P.length++dh (fM (G n v))),b1,b2,dig, ?_, ?_, ?_⟩
 ·simp[Dw]
 ·simp only[aY,pJ,dH,List.length_nil];omega
 ·intro t u;rcases mG.1 u with q|q
  ·obtain⟨y,E,H,r,I⟩:=N t q;refine⟨y,E,by rw[aY];omega,r++(pad 4 P.length++dh (fM (G n v))), ?_⟩;rw[List.drop_append_of_le_length H,I];simp
  ·simp at q;subst q;refine⟨J,Q,by simp,[], ?_⟩;rw[<-dx,iA];exact qn (by simp)
theorem PT.facts{s0 s:cF}{G:Wd->Wd->List Nat}{T:List (Wd×Wd×Nat)}(h:PT s0 G T s):s.fN=s0.fN/\s.eR=s0.eR/\s.m1=s0.m1/\s.sym=s0.sym/\s.m2=s0.m2/\s.P.length<=10000*T.length/\s.cnt=T.length/\s.F=s0.F/\s.t1=s0.t1/\s.t2=s0.t2:=by
 obtain⟨P,c1,c2,q,rfl,hP,u⟩:=h;exact⟨rfl,rfl,rfl,rfl,rfl,hP,rfl,rfl,rfl,rfl⟩
theorem PT.aiX{s0 s:cF}{G:Wd->Wd->List Nat}{T:List (Wd×Wd×Nat)}(h:PT s0 G T s)(H:T.length<=100000):s.O.length<=2040*T.length:=by
 obtain⟨P,c1,c2,E,rfl,hP,x⟩:=h;have:=Jo 0 T (λ t h=>by
  obtain⟨q,u,y,_⟩:=x t h;exact⟨q,u,by omega⟩)
 have e:fm 0=id:=by
  funext t;simp[fm]
 rw[e,List.map_id] at this;exact this
section
variable{c:WC}[RO c]{w0:ak}{Z Zc:Nat->Prop}{w w' w2:ak}{W d:kd}{s s0 s':cF}{ts:List LT}{t t':LT}{fv:ay}{l:Wd}
variable{r:Nat}{g:Nat->Option Nat}{h:Nat->Nat->Option dg}{f:Nat->Nat->List Nat}
theorem C1.symbols{S:List Wd}(q:C1 c w0 Z w W s)(I:s.sym=some S):∃y x po lo co,at_ w (W.add 35) (an (some y))/\Ob w y [cW x,ah af 2,ah af 5,aa po lo co,ah af (S.length:Int)]/\pM w x (aa po lo co) S 5 s.ir:=by
 obtain⟨tag,g,q⟩:=q;have h:=q.S;unfold qO at h;rw[I] at h;obtain⟨y,b,n,cc,ov,G,J,H,E,_⟩:=h;have u:=q.eI 1 rfl;rw[G] at u;obtain⟨po,co,e,_⟩:=aX.ex E.gF;exact⟨y,_,po,_,co,u,by rw[<-e];exact H,by rw[<-e];exact E⟩
end
section
variable{c:WC}[RO c]{w0:ak}{Z Zc:Nat->Prop}{w w' w2:ak}{W d:kd}{s s0 s':cF}{ts:List LT}{t t':LT}{fv:ay}{l:Wd}
variable{r:Nat}{g:Nat->Option Nat}{h:Nat->Nat->Option dg}{f:Nat->Nat->List Nat}
theorem aiY{K:ay->ak->Prop}{R:OA->kd->OA->Nat->Nat->OA->Int->Option Nat->OA->Nat->Nat->Int->Int->ak->Prop}
  {J np f' bp Q:OA}{nL nC bL bC vc b:Nat}{M u E:Int}{S:List Wd}{nm:Wd}{bD:List Nat}{G:Wd->Wd->List Nat}{T:List (Wd×Wd×Nat)}
  (hQ:QJ c w0 Z W (fo r g h f::aO eU 1 (aa Q bD.length vc) bD::ts) w s)(hT:PT s0 G T s)(hP:s0.fN=true)(hO:s0.eR=true)(mq:s0.sym=some S)(hb:g (bo S nm)=some b)(hS:S.length<=100000)(hnl:nm.length<=1000)
  (hv:∀v∈bD,v<S.length/\G nm (S.getD v [])=f (bo S nm) v/\(f (bo S nm) v).length<=1000/\(∀x∈f (bo S nm) v,x<4294967296)/\(S.getD v []).length<=1000)(oD:T.length+bD.length<=10000)
  (hK:∀w' s' U,PT s0 G (T++U) s'->U.map (λ t=>(t.1,t.2.1))=bD.map (λ v=>(nm,S.getD v []))->QJ c w0 Z W (fo r g h f::aO eU 1 (aa Q bD.length vc) bD::ts) w' s'->R J W np nL nC f' M (some r) bp bL bC u (aq af (E+1)) w'):
  BB K R J W np nL nC f' M (some r) (bs nm) (bo S nm:Int) bp bL bC u E Q bD.length vc (bD.length:Int) 0 w:=by
 refine aaY (λ X W1 ln ny lq f1 M1 nB J_ J' my nA mz t2 t3 vp1 vL1 vc1 n1 i w'=>J=X/\W=W1/\np=ln/\nL=ny/\nC=lq/\f'=f1/\M=M1/\nB=some r/\J_=bs nm/\J'=(bo S nm:Int)/\bp=my/\bL=nA/\bC=mz/\u=t2/\E=t3/\Q=vp1/\vL1=bD.length/\vc=vc1/\n1=(bD.length:Int)/\∃(k:Nat) (s':cF) (U:List (Wd×Wd×Nat)),i=(k:Int)/\k<=bD.length/\PT s0 G (T++U) s'/\U.map (λ t=>(t.1,t.2.1))=(bD.take k).map (λ v=>(nm,S.getD v []))/\QJ c w0 Z W (fo r g h f::aO eU 1 (aa Q bD.length vc) bD::ts) w' s') (λ _ _ _ _ _ _ _ _ _ _ _ _ _ _ _ _ _ _ n1 i _=>(n1-i).toNat) ?_ ?_
 ·exact⟨rfl,rfl,rfl,rfl,rfl,rfl,rfl,rfl,rfl,rfl,rfl,rfl,rfl,rfl,rfl,rfl,rfl,rfl,rfl,0,s,[],rfl,by omega,by simpa using hT,by simp,hQ⟩
 ·rintro _ _ _ _ _ _ _ _ _ _ _ _ _ _ _ _ _ _ _ _ w1 ⟨rfl,rfl,rfl,rfl,rfl,rfl,rfl,rfl,rfl,rfl,rfl,rfl,rfl,rfl,rfl,rfl,rfl,rfl,rfl,k,s1,T1,rfl,hk,H,I,q1⟩;unfold Gq;refine bn (λ hc=> ?_) (λ hc=> ?_)
  ·have N:k<bD.length:=by simp at hc;omega
   have iP:Sl eU 1 w1 (aa Q bD.length vc) bD:=Own.cV (q1.get (t:=aO eU 1 (aa Q bD.length vc) bD) (by simp));refine Sl.ix (z:=1) (l:=bD) (λ _=>rfl) (by omega) iP (by omega) (by omega) (λ a _ ha=> ?_);have lj:=ha 0 _ rfl;simp only[add_zero,fH] at lj;obtain⟨f1,f2,f3,f4,f5,f6,f7,_⟩:=H.facts;obtain⟨y,bv,po,lo,co,mb,q,lV⟩:=q1.inv.symbols (by rw[f4];exact mq);obtain⟨v1,v2,v3,v4,v5⟩:=hv (bD[k]) (by simp);have hgd:S.getD (bD[k]) []=S[bD[k]]:=by simp[List.getD,v1]
   refine⟨_,lj,_,mb,_,q.at 0 rfl,_,q.at 1 rfl,_,q.at 2 rfl,_,_,_,q.at 3 rfl,_,q.at 4 rfl, ?_⟩;refine aF (S7 (i:=bD[k]) lV v1 hS rfl) ?_;rintro _ w2 ⟨rfl,k2⟩;have q2:=q1.aH k2;refine⟨_,_,rfl,_,rfl,_,rfl,_,λ w=>cE _ w,_,rfl,aT rfl ?_⟩;have p2:PM w2 r g h f:=q2.get (t:=fo r g h f) (by simp);refine⟨_,w2,tf p2 hb,_,rfl,_,w2,J4 p2 hb (bD[k]),_,_,_,rfl, ?_⟩;have ho:=p2.DF (bo S nm) (bD[k]);have apI:T1.length=k:=by
    have:=congrArg fZ I;simp at this;omega
   have pR:=H.aiX (by simp;omega);simp only[aY] at pR f6 f7;obtain⟨Zc,hI⟩:=q2;rw[<-hgd];have hlen:(iv (h (bo S nm) (bD[k]))).2.1=(f (bo S nm) (bD[k])).length:=by
    obtain⟨_,_,e,_⟩:=ho.ex;unfold b9 at e;injection e
   refine aF (Go.Proofs.CZ (n:=nm) (v:=S.getD (bD[k]) []) (x:=b9 (iv (h (bo S nm) (bD[k])))) (refs:=f (bo S nm) (bD[k])) hI.1.1 (by rw[f1];exact hP) (by rw[f2];exact hO) ho.cV (λ z hz=>((hI.2.1 (fo r g h f) (by simp)).2 z (by
    obtain⟨v0,hv0,yv⟩:=PM.nx _ _ hz;exact .inr (.inr ⟨_,_,v0,hv0,yv⟩))).1) v4 v3 hnl v5 (by omega) (by omega) (by omega)) ?_
   rintro _ w3⟨rfl,b1,b2,dig,h3⟩;have q3:=hI.step h3;refine⟨_,rfl,_,λ w=>cE _ w,_,rfl,aT rfl ?_⟩;obtain⟨kk,UK⟩:=H.post (n:=nm) (v:=S.getD (bD[k]) []) (b1:=b1) (b2:=b2) (dig:=dig) (by rw[v2];exact v3) hnl v5;rw[v2] at UK;rw[bk (by omega) (by omega)];refine⟨⟨rfl,rfl,rfl,rfl,rfl,rfl,rfl,rfl,rfl,rfl,rfl,rfl,rfl,rfl,rfl,rfl,rfl,rfl,rfl,k+1,_,T1++[(nm,S.getD (bD[k]) [],kk)],by omega,by omega,by rw[<-dx];exact UK, ?_,q3⟩,by omega⟩;rw[iE,I,<-l7 N,iE];simp
  ·have N:k=bD.length:=by simp at hc;omega
   subst N;rw[fY] at I;exact hK w1 s1 T1 H I q1
end
section
variable{c:WC}[RO c]{w0:ak}{Z Zc:Nat->Prop}{w w' w2:ak}{W d:kd}{s s0 s':cF}{ts:List LT}{t t':LT}{fv:ay}{l:Wd}
variable{r:Nat}{g:Nat->Option Nat}{h:Nat->Nat->Option dg}{f:Nat->Nat->List Nat}
theorem ai4{K:ay->ak->Prop}{X:OA->kd->OA->Nat->Nat->OA->Int->Option Nat->OA->Nat->Nat->Int->Int->ak->Prop}
  {N np f' bp vp:OA}{nL nC bL bC vc b it:Nat}{M G H:Int}{x:Nat}{nm:ByteArray}{ks:List Nat}
  (hQ:QJ c w0 Z W (aO eU 1 (aa vp 0 vc) ([]:List Nat)::fE it::fo r g h f::ts) w s)(hb:g x=some b)(kQ:gK dZ b9 w it b (h x) ks)(qN:ks.length<=20)(ai5:ks.Nodup)
  (hK:∀w' bD ve UL,bD.Perm ks->bD.Pairwise (·<·)->QJ c w0 Z W (fo r g h f::aO eU 1 (aa ve bD.length UL) bD::ts) w' s->BB K X N W np nL nC f' M (some r) nm (x:Int) bp bL bC G H ve bD.length UL (bD.length:Int) 0 w'):
  Gs K X N W np nL nC f' M (some r) nm (x:Int) vp 0 vc bp bL bC G H (an (some ⟨it,0,none⟩)) w:=by
 refine aaZ (λ pY W1 ln ny lq f1 M1 nB J_ J' q U u my nA mz t2 t3 t317 w'=>N=pY/\W=W1/\np=ln/\nL=ny/\nC=lq/\f'=f1/\M=M1/\nB=some r/\nm=J_/\J'=(x:Int)/\bp=my/\bL=nA/\bC=mz/\G=t2/\H=t3/\t317=an (some ⟨it,0,none⟩)/\∃l rest:List Nat,U=l.length/\(l++rest).Perm ks/\QJ c w0 Z W (aO eU 1 (aa q l.length u) l::fE it::fo r g h f::ts) w' s/\gK dZ b9 w' it b (h x) rest) (λ _ _ _ _ _ _ _ _ _ _ _ U _ _ _ _ _ _ _ _=>ks.length-U) ?_ ?_
 ·exact⟨rfl,rfl,rfl,rfl,rfl,rfl,rfl,rfl,rfl,rfl,rfl,rfl,rfl,rfl,rfl,rfl,[],ks,rfl,List.Perm.refl _,hQ,kQ⟩
 ·rintro _ _ _ _ _ _ _ _ _ _ q _ u _ _ _ _ _ _ w1 ⟨rfl,rfl,rfl,rfl,rfl,rfl,rfl,rfl,rfl,rfl,rfl,rfl,rfl,rfl,rfl,rfl,l,rest,rfl,E,q1,ai6⟩;have R:=E.length_eq;rw[aY] at R;unfold Gr;rcases yi (ty:=0) ai6 with⟨rfl,hr⟩|⟨k,v,a,b',w2,rfl,hfk,hr,J,hf⟩
  ·refine⟨_,_,hr,false,_,_,rfl,aT rfl ⟨_,rfl, ?_⟩⟩;unfold BC;refine aT rfl ?_;rw[iA] at E;have ho:cP eU 1 w1 (aa q l.length u) l:=q1.get (t:=aO eU 1 (aa q l.length u) l) (by simp);refine aF (aik ho (by simp at R;omega) (E.nodup_iff.2 ai5)) ?_;rintro _ w2 ⟨l2,uH,Jz,gy,mZ⟩;rw[<-uH.length_eq] at gy⊢;have q2:=q1.ey (t':=aO eU 1 (aa q l2.length u) l2) mZ (λ b o Q=>Q) gy (λ b hb=> .inl (by
    have gD:aN (aa q l2.length u)=some b:=hb;show aN (aa q l.length u)=some b;rw[<-gD];cases q<;>rfl))
   exact hK w2 l2 q u (uH.trans E) Jz ((q2.perm (List.Perm.cons _ (d_ _ _ _))).sub (by simp)|>.perm (d_ _ _ _))
  ·refine⟨_,_,hr,true,_,_,rfl,cJ rfl ⟨_,rfl, ?_⟩⟩;unfold BC;refine cJ rfl ?_;have q2:=((q1.perm (d_ _ _ _)).ey (t':=fE it) hf (λ b o Q=>Q) (show it<w2.heap.size from dR (q1.get (t:=fE it) (by simp)) hf.size) (λ b hb=> .inl hb)).perm (d_ _ _ _);obtain⟨v',_,he⟩:=yk J;refine⟨_,_,he,_,_,rfl,_,rfl, ?_⟩;simp only[dH,aY] at R;refine q2.push zo (Dm k w2) (by omega) (by omega) (λ p cc w3 h3 f3=> ?_);have I:∀y,aN (aa q l.length u)=some y->y≠it/\y≠b:=by
    intro y hy;obtain⟨Zc,_,_,hp⟩:=q2;have sE:=(iF.1 hp).1;exact⟨λ e=>sE (fE it) (by simp) y hy e,λ e=>sE (fo r g h f) (by simp) y hy (.inr (.inl ⟨x,by rw[e];exact hb⟩))⟩
   have ai7:gK dZ b9 w3 it b (h x) (a++b'):=J.it.fr f3 0 0 (λ Q=>(I b Q).2 rfl) (λ Q=>(I it Q).1 rfl);have e1:(l++[k]).length=l.length+1:=by simp
   refine⟨⟨rfl,rfl,rfl,rfl,rfl,rfl,rfl,rfl,rfl,rfl,rfl,rfl,rfl,rfl,rfl,rfl,l++[k],a++b',by simp, ?_,by rw[e1];exact h3,ai7⟩,by omega⟩;refine List.Perm.trans ?_ E;rw[dx];exact List.Perm.append_left l (by simpa using(gI (a:=k) (l₁:=a) (l₂:=b')).symm)
end
def iB(S:List Wd)(f:Nat->Nat->List Nat):List Wd->List (Wd×Wd)->Prop
 |[],u=>u=[]
 |n::bl,u=>∃(V:List Nat) (q:List (Wd×Wd)),V.Pairwise (·<·)/\(∀v,v∈V↔f (bo S n) v≠[])/\u=V.map (λ v=>(n,S.getD v []))++q/\iB S f bl q
theorem iB.snoc{S:List Wd}{f:Nat->Nat->List Nat}{n:Wd}{V:List Nat}(H:V.Pairwise (·<·))(I:∀v,v∈V↔f (bo S n) v≠[]):∀{bl:List Wd} {q:List (Wd×Wd)},iB S f bl q->iB S f (bl++[n]) (q++V.map (λ v=>(n,S.getD v []))):=by
 intro bl;induction bl with
 |nil=>
  intro q h;have:q=[]:=h;subst this;exact⟨V,[],H,I,by simp,rfl⟩
 |cons m bl J=>
  rintro q⟨x,u,y,E,rfl,G⟩;exact⟨x,u++V.map (λ v=>(n,S.getD v [])),y,E,by simp,J G⟩
section
variable{c:WC}[RO c]{w0:ak}{Z Zc:Nat->Prop}{w w' w2:ak}{W d:kd}{s s0 s':cF}{ts:List LT}{t t':LT}{fv:ay}{l:Wd}
variable{r:Nat}{g:Nat->Option Nat}{h:Nat->Nat->Option dg}{f:Nat->Nat->List Nat}
theorem ai8{K:ay->ak->Prop}{e_:OA->kd->OA->Nat->Nat->OA->Int->ak->Prop}
  {N np f' I:OA}{nL nC H:Nat}{M:Int}{S bl:List Wd}{G:Wd->Wd->List Nat}{T:List (Wd×Wd×Nat)}
  (hQ:QJ c w0 Z W (fo r g h f::aO bx 1 (aa I bl.length H) bl::ts) w s)(hT:PT s0 G T s)(hP:s0.fN=true)(hO:s0.eR=true)(mq:s0.sym=some S)(jY:s0.m1=ic S)(hS:S.length<=100000)
  (hn:∀n∈bl,n∈S/\n.length<=1000/\∃v,f (bo S n) v≠[])(hv:∀n∈bl,∀v,f (bo S n) v≠[]->v<S.length/\G n (S.getD v [])=f (bo S n) v/\(f (bo S n) v).length<=1000/\(∀x∈f (bo S n) v,x<4294967296)/\(S.getD v []).length<=1000)
  (hc:∀n∈bl,∀V:List Nat,V.Nodup->(∀v∈V,f (bo S n) v≠[])->V.length<=20)(oD:T.length+20*bl.length<=9000)(jN:bl.length<=1000)
  (hK:∀w' s' T',PT s0 G (T++T') s'->iB S f bl (T'.map (λ t=>(t.1,t.2.1)))->QJ c w0 Z W (fo r g h f::aO bx 1 (aa I bl.length H) bl::ts) w' s'->e_ N W np nL nC f' M w'):
  BE K e_ N W np nL nC f' M (some r) I bl.length H (bl.length:Int) 0 w:=by
 refine aa0 (λ pY W1 ln ny lq f1 M1 nB my nA mz n1 i w'=>N=pY/\W=W1/\np=ln/\nL=ny/\nC=lq/\f'=f1/\M=M1/\nB=some r/\I=my/\nA=bl.length/\H=mz/\n1=(bl.length:Int)/\∃(k:Nat) (s':cF) (T':List (Wd×Wd×Nat)),i=(k:Int)/\k<=bl.length/\PT s0 G (T++T') s'/\T'.length<=20*k/\iB S f (bl.take k) (T'.map (λ t=>(t.1,t.2.1)))/\QJ c w0 Z W (fo r g h f::aO bx 1 (aa I bl.length H) bl::ts) w' s') (λ _ _ _ _ _ _ _ _ _ _ _ n1 i _=>(n1-i).toNat) ?_ ?_
 ·exact⟨rfl,rfl,rfl,rfl,rfl,rfl,rfl,rfl,rfl,rfl,rfl,rfl,0,s,[],rfl,by omega,by simpa using hT,by simp,rfl,hQ⟩
 ·rintro _ _ _ _ _ _ _ _ _ _ _ _ _ J ⟨rfl,rfl,rfl,rfl,rfl,rfl,rfl,rfl,rfl,rfl,rfl,rfl,k,s1,T1,rfl,hk,R,ai9,Q,q1⟩;unfold Gt;refine bn (λ U=> ?_) (λ U=> ?_)
  ·have X:k<bl.length:=by simp at U;omega
   have iP:Sl bx 1 J (aa I bl.length H) bl:=Own.cV (q1.get (t:=aO bx 1 (aa I bl.length H) bl) (by simp));refine Sl.ix (z:=1) (l:=bl) (λ _=>rfl) (by omega) iP (by omega) (by omega) (λ a _ ha=> ?_);have lj:=ha 0 _ rfl;simp only[add_zero,fH] at lj;have u:bl[k]∈bl:=by simp
   generalize DK:bl[k]=nm at*;obtain⟨n1,n2,v0,n3⟩:=hn nm u;obtain⟨f1,f2,f3,f4,f5,f6,f7,_⟩:=R.facts;have mr:s1.m1 nm=some (bo S nm):=by
    rw[f3,jY];unfold ic bo;rw[if_pos n1]
   refine⟨_,lj,_,q1.inv.eI 4 rfl,_,J,zp q1.inv.uR mr,_,_,rfl,_,rfl,_,rfl,aT rfl ?_⟩;have p1:PM J r g h f:=q1.get (t:=fo r g h f) (by simp);obtain⟨b,hb⟩:∃b,g (bo S nm)=some b:=by
    cases hg:g (bo S nm) with
    |some b=>exact⟨b,rfl⟩
    |none=>exact absurd (p1.kR _ v0 (p1.zE _ v0 hg)) n3
   refine⟨_,J,tf p1 hb,_,rfl, ?_⟩;have q:∀ks:List Nat,(∀x,x∈ks↔(h (bo S nm) x).isSome)->∀x,x∈ks↔f (bo S nm) x≠[]:=λ ks y x=>by
    rw[y x];cases hh:h (bo S nm) x with
    |none=>simp[p1.kR _ _ hh]
    |some v=>simp[p1.ne _ _ _ hh]
   obtain⟨E,hn0,Ka,hlen⟩:=Cm (ty:=3) DE.1 (p1.jZ _ b hb).1;have mm:=hc nm u E hn0 (λ x hx=>(q E Ka x).1 hx);refine⟨_,_,hlen,_,rfl, ?_⟩;obtain⟨w3,kn,lL,ja⟩:=uX zo.ty J E.length (by omega) (by omega);refine⟨_,_,kn,_,_,_,rfl, ?_⟩;have q3:=q1.new (t:=aO eU 1 (aa (some ⟨J.heap.size,0,none⟩) 0 E.length) ([]:List Nat)) ja lL (λ z hz=>by
    have pI:some J.heap.size=some z:=hz;cases pI;exact⟨bB _,lL.lt rfl⟩)
   have p3:PM w3 r g h f:=p1.aH ja;refine⟨_,w3,tf p3 hb,_,rfl, ?_⟩;obtain⟨ks,w4,jT,kQ,lU,y,ko,Ur⟩:=yh DE.1 (p3.jZ _ b hb).1;refine⟨_,_,jT, ?_⟩;have q4:=(q3.new (t:=fE w3.heap.size) ko (show w3.heap.size<w4.heap.size by omega) (λ z hz=>by
    have pI:z=w3.heap.size:=hz;omega)).perm (d_ _ _ _)
   have rS:=hc nm u ks lU (λ x hx=>(q ks y x).1 hx);refine ai4 q4 hb kQ rS lU (λ w5 bD vp vc Kb SD q5=> ?_);have UM:∀v,v∈bD↔f (bo S nm) v≠[]:=λ v=>by rw[Kb.mem_iff];exact q ks y v
   have TO:=Kb.length_eq;refine aiY (S:=S) (nm:=nm) (G:=G) (T:=T++T1) q5 R hP hO mq hb hS n2 (λ v lO=>hv nm u v ((UM v).1 lO)) (by rw[aY];omega) (λ w6 s6 T6 Kc UN q6=> ?_);have hl6:=congrArg fZ UN;simp only[fu] at hl6;rw[bk (by omega) (by omega)];refine⟨⟨rfl,rfl,rfl,rfl,rfl,rfl,rfl,rfl,rfl,rfl,rfl,rfl,k+1,s6,T1++T6,by omega,by omega,by rw[<-dx];exact Kc,by rw[aY];omega, ?_,(q6.sub (us:=fo r g h f::aO bx 1 (aa I bl.length H) bl::ts) (by simp))⟩,by omega⟩;rw[iE,UN,<-l7 X,DK];exact iB.snoc SD UM Q
  ·have X:k=bl.length:=by simp at U;omega
   subst X;rw[fY] at Q;exact hK J s1 T1 R Q q1
end
def lr(S:List Wd)(a k x:Nat)(labs:eh):List Nat:=labs.flatMap λ y=>if bo S y.1=a/\bo S y.2=k then [x] else []
def fC(S:List Wd)(a k:Nat):Wd->List bI->List Nat
 |_,[]=>[]
 |F,x::L=>lr S a k (gM F) x.labels++fC S a k (dr S F x) L
theorem aja{S bl:List Wd}{a:Nat}(r:(gq S bl a).isSome)(k x:Nat):∀(labs:eh) (f:Nat->Nat->List Nat),fX S bl f x labs a k=f a k++lr S a k x labs:=by
 intro labs;induction labs with
 |nil=>intro f;simp[fX,lr]
 |cons y labs u=>
  intro f;have e:fX S bl f x (y::labs)=fX S bl (if(gq S bl (bo S y.1)).isSome then iU f (bo S y.1) (bo S y.2) x else f) x labs:=rfl;rw[e,u];have q:lr S a k x (y::labs)=(if bo S y.1=a/\bo S y.2=k then [x] else [])++lr S a k x labs:=by simp[lr]
  rw[q,<-dx];congr 1;by_cases c:bo S y.1=a
  ·rw[c,if_pos r];unfold iU;by_cases h:bo S y.2=k
   ·simp[h]
   ·simp[h,Ne.symm h]
  ·split
   ·unfold iU;simp[c,Ne.symm c]
   ·simp[c]
theorem ajb{S bl:List Wd}{a:Nat}(c:(gq S bl a).isSome)(k:Nat):∀(L:List bI) (f:Nat->Nat->List Nat) (F:Wd),j_ S bl f F L a k=f a k++fC S a k F L:=by
 intro L;induction L with
 |nil=>intro f F;simp[j_,fC]
 |cons x L h=>
  intro f F;show j_ S bl (fX S bl f (gM F) x.labels) (dr S F x) L a k=_;rw[h,aja c,dx];rfl
theorem iB.eq{S:List Wd}{f r:Nat->Nat->List Nat}:∀{bl:List Wd} {c:List (Wd×Wd)},(∀n∈bl,∀k,f (bo S n) k=r (bo S n) k)->iB S f bl c->iB S r bl c:=by
 intro bl;induction bl with
 |nil=>intro c _ h;exact h
 |cons n bl H=>
  rintro c u⟨V,q,w,x,y,E⟩;exact⟨V,q,w,λ v=>by rw[<-u n (by simp) v];exact x v,y,H (λ m G=>u m (by simp[G])) E⟩
theorem iB.app{S:List Wd}{f:Nat->Nat->List Nat}{B:List Wd}{q:List (Wd×Wd)}(y:iB S f B q):∀{A:List Wd} {c:List (Wd×Wd)},iB S f A c->iB S f (A++B) (c++q):=by
 intro A;induction A with
 |nil=>
  intro c h;have:c=[]:=h;subst this;exact y
 |cons n A E=>
  rintro c⟨V,r,u,w,rfl,x⟩;exact⟨V,r++q,u,w,by simp,E x⟩
theorem ajc(w:ak):(bw 22 0 #[]).run ag w= .ok (aa (some ⟨w.heap.size,0,none⟩) 0 0) (w.alloc (.cells #[] 9)):=by kernel_rfl
theorem iB.len{S:List Wd}{f:Nat->Nat->List Nat}:∀{bl:List Wd} {q:List (Wd×Wd)},(∀n∈bl,∀V:List Nat,V.Nodup->(∀v∈V,f (bo S n) v≠[])->V.length<=20)->iB S f bl q->q.length<=20*bl.length:=by
 intro bl;induction bl with
 |nil=>intro q _ h;have:q=[]:=h;simp[this]
 |cons n bl H=>
  rintro q r⟨V,u,x,y,rfl,E⟩;have I:=r n (by simp) V (x.imp Nat.ne_of_lt) (λ v h=>(y v).1 h);have J:=H (λ m G=>r m (by simp[G])) E;rw[aY,fu,dH];omega
section
variable{c:WC}[RO c]{w0:ak}{Z Zc:Nat->Prop}{w w' w2:ak}{W d:kd}{s s0 s':cF}{ts:List LT}{t t':LT}{fv:ay}{l:Wd}
theorem ajd{K:ay->ak->Prop}{jX np fp:OA}{nC M fb fc:Nat}{S N:List Wd}{F0:Wd}{L:List bI}{G:Wd->Wd->List Nat}{T:List (Wd×Wd×Nat)}
  (hQ:QJ c w0 Z W (oF bx 1 (aa np N.length nC) N::aJ ⟨fb,0,none⟩ [fv]::ts) w s)(hT:PT s0 G T s)(J0:c.lf=some fv)(qV:fv=aa fp s0.F.length fc)(E:s0.F=eH S F0 L)(jP:s0.t1=F0.length)(i_:s0.t2=s0.F.length)(lT:s0.F.length<=536870912)
  (hP:s0.fN=true)(hO:s0.eR=true)(mq:s0.sym=some S)(jY:s0.m1=ic S)(hS:S.length<=100000)(hL:L.length<=100)(oE:∀x∈L,(cA S x).length<=1000000)(iR:∀x∈L,∀y∈x.labels,y.1∈S/\y.2∈S)(jF:∀x∈L,x.labels.length<=100)
  (zw:∀n∈N,0<(s0.m2 n).getD 0/\(s0.m2 n).getD 0<=M)(hM:M<=100000)(UO:N.length<=200)(oD:T.length<=1000)
  (hn:∀n∈N,n∈S/\n.length<=1000/\∃v,fC S (bo S n) v F0 L≠[])(hv:∀n∈N,∀v,fC S (bo S n) v F0 L≠[]->v<S.length/\G n (S.getD v [])=fC S (bo S n) v F0 L/\(fC S (bo S n) v F0 L).length<=1000/\(∀x∈fC S (bo S n) v F0 L,x<4294967296)/\(S.getD v []).length<=1000)
  (hc:∀n∈N,∀V:List Nat,V.Nodup->(∀v∈V,fC S (bo S n) v F0 L≠[])->V.length<=20)
  (hK:∀w' s' T',PT s0 G (T++T') s'->iB S (λ a k=>fC S a k F0 L) N (T'.map (λ t=>(t.1,t.2.1)))->C1 c w0 Z w' W s'->K aA w'):
  xw K jX W np N.length nC (some ⟨fb,0,none⟩) (M:Int) w:=by
 refine aa6 (λ pY W1 ln X lq f1 M1 w'=>jX=pY/\W=W1/\some ⟨fb,0,none⟩=f1/\M1=(M:Int)/\∃(A B:List Wd) (s':cF) (T':List (Wd×Wd×Nat)),N=A++B/\X=B.length/\PT s0 G (T++T') s'/\T'.length<=20*A.length/\iB S (λ a k=>fC S a k F0 L) A (T'.map (λ t=>(t.1,t.2.1)))/\QJ c w0 Z W (oF bx 1 (aa ln B.length lq) B::aJ ⟨fb,0,none⟩ [fv]::ts) w' s') (λ _ _ _ X _ _ _ _=>X) ?_ ?_
 ·exact⟨rfl,rfl,rfl,rfl,[],N,s,[],rfl,rfl,by simpa using hT,by simp,rfl,hQ⟩
 ·rintro _ _ ln _ lq _ _ w1 ⟨rfl,rfl,rfl,rfl,A,B,s1,T1,u,rfl,J,ai9,DL,q1⟩;unfold Gy;refine bn (λ U=> ?_) (λ U=> ?_)
  ·have hBn:B≠[]:=by
    rintro rfl;simp at U
   have ajf:=congrArg fZ u;rw[aY] at ajf;obtain⟨f1,f2,f3,f4,f5,f6,f7,f8,f9,f10⟩:=J.facts;have UP:∀n∈B,n∈N:=λ n h=>by rw[u];simp[h]
   refine⟨_,_,ajc w1,_,_,_,rfl, ?_⟩;have k2:=bA w1 (.cells #[] 9);have ho:=va w1 1 9;have q2:=q1.new (t:=aO bx 1 (aa (some ⟨w1.heap.size,0,none⟩) 0 0) ([]:List Wd)) k2 ho (λ z hz=>by
    have pI:some w1.heap.size=some z:=hz;cases pI;exact⟨bB _,ho.lt rfl⟩)
   refine ais (M:=M) (c0:=0) (bl:=[]) (rem:=B) q2 (λ n h=>by rw[f5];exact zw n (UP n h)) hM (.inr hBn) (λ _=>rfl) (λ e=>absurd rfl e) (by omega) (by simp;omega) (λ{w3 rem bl zy J1 zz Dy} I Dz q3=> ?_);rw[oS] at I;have r:∀n∈bl,n∈N:=λ n h=>UP n (by rw[I];simp[h])
   have ajg:=congrArg fZ I;rw[aY] at ajg;refine aiD (S:=S) (fp:=fp) (fc:=fc) q3 J0 (by rw[f8];exact qV) (by simp) (by rw[f10,f8];exact i_) (by rw[f9,f8,jP,E,pX];simp) (by rw[f8];omega) (by rw[f3];exact jY) hS (λ n h=>(hn n (r n h)).1) (by omega) (λ{w4 d ns pm} q4=> ?_);have eZ:s1.F.drop s1.t1=ee S F0 L:=by rw[f8,f9,jP,E,pX,iz]
   rw[eZ] at q4;have q5:=q4.ey (t':=fo pm (λ _=>none) (λ _ _=>none) (λ _ _=>[])) (Fr.refl (λ _ _=>False) w4) (λ _ _ x=>x.elim) ⟨q4.get (t:=iL dZ te pm (λ _=>none)) (by simp),λ a b e=>(by cases e),λ a a' b e=>(by cases e),λ a k v e=>(by cases e),λ a k v b e=>(by cases e),λ a k v a' k' v' b e=>(by cases e),λ a k _=>rfl,λ a k _=>rfl,λ a k v e=>(by cases e)⟩ (λ b R=>by
    rcases R with R|⟨a,R⟩|⟨a,k,v,R,_⟩
    ·exact .inl R
    ·cases R
    ·cases R)
   refine aiU (S:=S) (bl:=bl) (F0:=F0) (L:=L) q5 (by rw[f10,i_,E]) (by rw[<-E];exact lT) hL oE hS iR jF (λ _ _=>rfl) (λ w5 g' h' q6=> ?_);have H:∀n∈bl,∀k,j_ S bl (λ _ _=>[]) F0 L (bo S n) k=fC S (bo S n) k F0 L:=λ n q k=>by
    rw[ajb ((aiC S bl _).2 ⟨n,q,rfl⟩)];simp
   have q7:=q6.2.1.sub (us:=fo pm g' h' (j_ S bl (λ _ _=>[]) F0 L)::aO bx 1 (aa J1 bl.length Dy) bl::oF bx 1 (aa zy rem.length zz) rem::aJ ⟨fb,0,none⟩ [fv]::ts) (by simp);refine ai8 (S:=S) (G:=G) (T:=T++T1) q7 J hP hO mq jY hS (λ n q=> ?_) (λ n q v DM=> ?_) (λ n q V hV Q=>hc n (r n q) V hV (λ v h=>by rw[<-H n q v];exact Q v h)) (by rw[aY];omega) (by omega) (λ w6 s6 T6 Kc hL6 q8=> ?_)
   ·obtain⟨a1,a2,v,a3⟩:=hn n (r n q);exact⟨a1,a2,v,by rw[H n q v];exact a3⟩
   ·rw[H n q v] at DM⊢;exact hv n (r n q) v DM
   ·have UQ:iB S (λ a k=>fC S a k F0 L) bl (T6.map (λ t=>(t.1,t.2.1))):=hL6.eq H;have yz:=iB.len (λ n q V hV Q=>hc n (r n q) V hV Q) UQ;rw[fu] at yz;refine⟨⟨rfl,rfl,rfl,rfl,A++bl,rem,s6,T1++T6,by rw[u,I];simp,rfl,by rw[<-dx];exact Kc,by rw[aY,aY];omega,by rw[iE];exact iB.app UQ DL,q8.sub (by simp)⟩, ?_⟩;have:0<bl.length:=List.length_pos_iff.2 Dz;omega
  ·have hB:B=[]:=by
    cases B with
    |nil=>rfl
    |cons x B=>simp at U
   subst hB;rw[iA] at u;subst u;exact Jh (hK w1 s1 T1 J DL q1.inv)
end
section
variable{c:WC}{w0:ak}{Z Zc:Nat->Prop}{w w' w2:ak}{W d:kd}{s s0 s':cF}{ts:List LT}{t t':LT}{fv:ay}{l:Wd}
theorem QJ.Jj(h:QJ c w0 Z W ts w s):∃fv fp fc,QJ {c with lf:=some fv} w0 Z W ts w s/\Fw w c.f fv s.F/\fv=aa fp s.F.length fc:=by
 obtain⟨Zc,⟨r,u,x,y⟩,E,hd⟩:=h;obtain⟨tag,g,q⟩:=r.Jj;obtain⟨fp,fc,e,_⟩:=q.F.sl;exact⟨g.fv,fp,fc,⟨Zc,⟨⟨tag,g,q⟩,u,x,y⟩,E,hd⟩,q.F,e⟩
theorem aji [RF c][RO c]{K:ay->ak->Prop}{N3:Bool->kd->OA->Nat->Nat->ay->ak->Prop}{jX:Bool}{u:OA}{q:Nat}{t57:ay}{N:List Wd}{S:List Wd}{F0:Wd}{L:List bI}{G:Wd->Wd->List Nat}{M:Nat}
  (hQ:QJ c w0 Z W [aO bx 1 (aa u N.length q) N] w s)(J:s.P=[])(I:s.O=[])(X:s.cnt=0)(y:s.F=eH S F0 L)(jP:s.t1=F0.length)(i_:s.t2=s.F.length)(lT:s.F.length<=536870912)
  (hP:s.fN=true)(hO:s.eR=true)(hL:L.length<=100)(oE:∀x∈L,(cA S x).length<=1000000)(iS:∀n∈eC S F0 L,n<4294967296)(hG:G [] []=eC S F0 L)(UO:N.length<=1000)
  (hK:∀{fv:ay} {fp:OA} {fc fb:Nat} {w':ak} {s':cF} {k:Nat},fv=aa fp s.F.length fc->PT s G [([],[],k)] s'->QJ {c with lf:=some fv} w0 Z W [oF bx 1 (aa u N.length q) (iu N),aJ ⟨fb,0,none⟩ [fv]] w' s'->xw K (some ⟨fb,0,none⟩) W u N.length q (some ⟨fb,0,none⟩) (L.length:Int) w'):
  ua K N3 jX W u N.length q t57 false w:=by
 unfold ua;refine aT rfl ?_;have ho:cP bx 1 w (aa u N.length q) N:=hQ.get (t:=aO bx 1 (aa u N.length q) N) (by simp);refine aF (JL ho (by omega)) ?_;rintro _ w2 ⟨gy,mZ⟩;have q2:=hQ.ey (t':=aO bx 1 (aa u N.length q) (iu N)) mZ (λ b o hS=>hS) gy (λ b U=> .inl U);refine⟨_,q2.inv.eM, ?_⟩;refine aF sQ ?_;rintro _ w2 ⟨rfl,rfl⟩;refine⟨_,rfl,_,λ w=>cE _ w,_,rfl,aT rfl ?_⟩;refine⟨_,q2.inv.eM, ?_⟩;obtain⟨fv,fp,fc,q3,hFw,qV⟩:=q2.Jj;refine aF (Jn hFw) ?_;rintro _ E ⟨p4,c4,rfl,Ke,jS,k4,Kf⟩;refine⟨_,_,rfl,_,rfl,_,rfl,_,λ w=>cE _ w,_,rfl,aT rfl ?_⟩;rw[<-Ke] at jS;have q4:=q3.new (t:=aJ ⟨w2.heap.size,0,none⟩ [fv]) k4 jS (λ b U=>by
  have gD:b=w2.heap.size:=U;omega)
 generalize w2.heap.size=fb at q4;refine⟨_,_,TL E,_,_,_,rfl, ?_⟩;have k5:=bA E (.cells #[] 152);have jR:=va E 1 152;have q5:=q4.new (t:=aO eU 1 (aa (some ⟨E.heap.size,0,none⟩) 0 0) ([]:List Nat)) k5 jR (λ z hz=>by
  have pI:some E.heap.size=some z:=hz;cases pI;exact⟨bB _,jR.lt rfl⟩)
 have UR:=q5.drew;refine⟨_,UR.inv.mA, ?_⟩;refine UC (fp:=fp) (fc:=fc) (fb:=fb) (C:=λ r vf=>aD aj (at_ vf (aw (aw W 4) 1)) λ J2=>au ag 208 #[(an (some ⟨r,0,none⟩)),(ah af (aq af J2))] vf λ aiH zq=>t_ K (some ⟨fb,0,none⟩) W u N.length q (some ⟨fb,0,none⟩) (some ⟨E.heap.size,0,none⟩) 0 0 ⟨r,0,none⟩ zq)
  UR rfl qV (by simp) i_ (by omega) (λ d w6 h6=>⟨_,h6.2.1.inv.nw, ?_⟩)
 dsimp only;have H:s.F=F0++ee S F0 L:=by rw[y,pX]
 have gL:s.t1<=s.F.length:=by rw[jP,H,aY];omega
 rw[bk (by omega) (by omega)];have eZ:s.F.drop s.t1=ee S F0 L:=by rw[jP,H,iz]
 refine aF (h6.jh (Q:=λ _ _=>True) (l':=ee S F0 L) (λ v hd=>by
  have:=mT hd gL;rw[eZ] at this;exact aF this (λ _ _ h=>⟨trivial,h⟩))) ?_
 rintro _ w7⟨_,h7⟩;refine aim (S:=S) (F0:=F0) (L:=L) h7 (by rw[i_,y]) (by rw[<-y];exact lT) (by omega) oE hP hO (by rw[J];simp) (by rw[I];simp) (by rw[X];omega) iS (λ w8 b1 b2 dig q8=> ?_);have zG:PT s G [] s:=⟨[],s.b1,s.b2,s.dig,by
  have:([]:List (Wd×Wd×Nat)).flatMap cX=s.O:=by rw[I];rfl
  have e2:([]:List (Wd×Wd×Nat)).length=s.cnt:=by rw[X];rfl
  rw[this,e2,<-J],by simp,by simp⟩
 obtain⟨k,R⟩:=zG.post (n:=[]) (v:=[]) (b1:=b1) (b2:=b2) (dig:=dig) (by rw[hG,vj];omega) (by simp) (by simp);rw[hG] at R;exact hK qV R ((q8.perm (d_ _ _ [])).as (λ hF=>Own.cV hF) (λ b U=>U))
end
section
variable{c:WC}{w0:ak}{Z Zc:Nat->Prop}{w w' w2:ak}{W d:kd}{s s0 s':cF}
theorem ajk [RF c][RL c][RO c]{S:List Wd}{F0:Wd}{L:List bI}{G:Wd->Wd->List Nat}
  (h:C1 c w0 Z w W s)(hP0:s.P=[])(u_:s.O=[])(vk:s.cnt=0)(J:s.F=eH S F0 L)(jP:s.t1=F0.length)(i_:s.t2=s.F.length)(K:s.F.length<=536870912)
  (hP:s.fN=true)(hO:s.eR=true)(X:s.sym=some S)(jY:s.m1=ic S)(hS:S.length<=100000)(hL:L.length<=100)(U:∀x∈L,(cA S x).length<=1000000)(iS:∀n∈eC S F0 L,n<4294967296)(hG:G [] []=eC S F0 L)
  (iR:∀x∈L,∀y∈x.labels,y.1∈S/\y.2∈S)(jF:∀x∈L,x.labels.length<=100)
  (hN:∀n,(s.m2 n).isSome->0<(s.m2 n).getD 0/\(s.m2 n).getD 0<=L.length/\n∈S/\n.length<=1000/\(∃v,fC S (bo S n) v F0 L≠[])/\(∀v,fC S (bo S n) v F0 L≠[]->v<S.length/\G n (S.getD v [])=fC S (bo S n) v F0 L/\(fC S (bo S n) v F0 L).length<=1000/\(∀x∈fC S (bo S n) v F0 L,x<4294967296)/\(S.getD v []).length<=1000)/\∀V:List Nat,V.Nodup->(∀v∈V,fC S (bo S n) v F0 L≠[])->V.length<=20)
  (H:∀l:List Wd,l.Nodup->(∀k,k∈l↔(s.m2 k).isSome)->l.length<=200):
  au ag 180 #[an (some W)] w λ r w'=>r=aA/\∃N s' k T',N.Nodup/\(∀n,n∈N↔(s.m2 n).isSome)/\PT s G (([],[],k)::T') s'/\iB S (λ a k=>fC S a k F0 L) (iu N) (T'.map (λ t=>(t.1,t.2.1)))/\C1 c w0 Z w' W s':=by
 apply aa_;refine ail h (λ{w2 p N cc jX t57 N3} R I UO q=> ?_) (λ l a b=>by have:=H l a b;omega);have apJ:=H N R I;have Q:(iu N).length=N.length:=(rh N).length_eq;have u:∀n,n∈iu N->(s.m2 n).isSome:=λ n E=>(I n).1 ((rh N).mem_iff.1 E)
 refine aji (S:=S) (F0:=F0) (L:=L) (G:=G) (M:=0) q hP0 u_ vk J jP i_ K hP hO hL U iS hG (by omega) (λ{fv fp fc fb w3 s1 k} qV hT q3=> ?_);rw[<-Q] at q3⊢;refine ajd (c:={c with lf:=some fv}) (s0:=s) (S:=S) (F0:=F0) (L:=L) (G:=G) (M:=L.length) (T:=[([],[],k)]) q3 hT rfl qV J jP i_ K hP hO X jY hS hL U iR jF (λ n E=>⟨(hN n (u n E)).1,(hN n (u n E)).2.1⟩) (by omega) (by omega) (by simp)
  (λ n E=>⟨(hN n (u n E)).2.2.1,(hN n (u n E)).2.2.2.1,(hN n (u n E)).2.2.2.2.1⟩) (λ n E=>(hN n (u n E)).2.2.2.2.2.1) (λ n E=>(hN n (u n E)).2.2.2.2.2.2) (λ w' s' T' hT' vq hw=>⟨rfl,N,s',k,T',R,I,hT',vq,hw.Jk⟩)
end
structure dE(S:List Wd)(L:List bI):Prop where
 ws:WS S
 sl:S.length<=200
 sw:∀x∈S,x.length<=200
 ll:L.length<=20
 fQ:∀x∈L,0<x.labels.length/\x.labels.length<=10/\yJ x.labels/\ia x.labels
 sym:∀x∈L,∀y∈x.labels,y.1∈S/\y.2∈S
 gk:∀x∈L,x.chunks.length<=10/\ju (-2305843009213693952) x.chunks
section
variable{S:List Wd}{L:List bI}
theorem dE.names(h:dE S L){x:bI}(c:x∈L):(x.labels.map (·.1)).Nodup:=ow (ae1 (h.fQ x c).2.2.1.2)
def lu(L:List bI):Wd->Option Nat:=L.foldl (λ m x=>gZ m x.labels) (λ _=>none)
theorem ajn:∀(l:eh) (m:Wd->Option Nat) (n:Wd),(l.map (·.1)).Nodup->gZ m l n=if n∈l.map (·.1) then some ((m n).getD 0+1) else m n:=by
 intro l;induction l with
 |nil=>intro m n _;simp[gZ]
 |cons y l u=>
  intro m n r;rw[hW,aq9] at r;show gZ (q_ m y.1) l n=_;rw[u _ _ r.2];unfold q_ cU;by_cases q:n=y.1
  ·subst q;rw[if_neg r.1,if_pos rfl,if_pos (by simp)]
  ·rw[if_neg q];have e:(n∈(y::l).map (·.1))↔n∈l.map (·.1):=by
    rw[hW,dX];exact⟨λ h=>h.elim (λ e=>absurd e q) id, .inr⟩
   by_cases c:n∈l.map (·.1)
   ·rw[if_pos c,if_pos (e.2 c)]
   ·rw[if_neg c,if_neg (λ h=>c (e.1 h))]
theorem UT:∀(L:List bI) (m:Wd->Option Nat) (n:Wd),(∀x∈L,(x.labels.map (·.1)).Nodup)->
  (((L.foldl (λ m x=>gZ m x.labels) m) n).isSome↔(m n).isSome\/∃x∈L,n∈x.labels.map (·.1))/\((L.foldl (λ m x=>gZ m x.labels) m) n).getD 0<=(m n).getD 0+L.length/\
  (((m n).isSome->0<(m n).getD 0)->((L.foldl (λ m x=>gZ m x.labels) m) n).isSome->0<((L.foldl (λ m x=>gZ m x.labels) m) n).getD 0):=by
 intro L;induction L with
 |nil=>intro m n _;simp
 |cons x L J=>
  intro m n h;obtain⟨u,w,E⟩:=J (gZ m x.labels) n (λ y c=>h y (by simp[c]));have e:=ajn x.labels m n (h x (by simp));rw[e] at u w E;refine⟨?_, ?_, ?_⟩
  ·rw[qo,u];by_cases q:n∈x.labels.map (·.1)
   ·rw[if_pos q];exact⟨λ _=> .inr ⟨x,by simp,q⟩,λ _=> .inl rfl⟩
   ·rw[if_neg q];refine or_congr Iff.rfl ⟨λ⟨y,c,r⟩=>⟨y,by simp[c],r⟩,λ⟨y,c,r⟩=> ?_⟩;rcases dX.1 c with rfl|c
    ·exact absurd r q
    ·exact⟨y,c,r⟩
  ·rw[qo];refine eX w ?_;rw[dH];split<;>simp<;>omega
  ·intro I H;rw[qo] at H⊢;refine E (λ G=> ?_) H;split
   ·simp
   ·rename_i q;rw[if_neg q] at G;exact I G
theorem dE.cnt(h:dE S L)(n:Wd):((lu L n).isSome↔∃x∈L,n∈x.labels.map (·.1))/\(lu L n).getD 0<=L.length/\((lu L n).isSome->0<(lu L n).getD 0):=by
 obtain⟨c,q,r⟩:=UT L (λ _=>none) n (λ x u=>h.names u);refine⟨by rw[lu,c];simp, ?_,r (by simp)⟩;have:=q;simp only[Option.getD_none,Nat.zero_add] at this;exact this
theorem oH{x:Wd}(c:x∈S):bo S x<S.length:=List.idxOf_lt_length_iff.2 c
theorem vr{x:Wd}(c:x∈S):S.getD (bo S x) []=x:=by
 rw[l8,gH (oH c)];exact List.getElem_idxOf _
theorem UU{x y:Wd}(c:x∈S)(q:y∈S)(h:bo S x=bo S y):x=y:=by
 rw[<-vr c,h,vr q]
theorem DN(h:S.Nodup){v:Nat}(r:v<S.length):bo S (S.getD v [])=v:=by
 have w:S.getD v []∈S:=by
  rw[l8,gH r];simp
 have u:=oH w;have q:=vr w;generalize bo S (S.getD v [])=k at*;rw[l8,l8,gH u,gH r] at q;simp only[Option.getD_some] at q;rcases Nat.lt_trichotomy k v with c|x|c
 ·exact absurd q (qt.1 h _ _ u r c)
 ·exact x
 ·exact absurd q.symm (qt.1 h _ _ r u c)
theorem ajo{n v:Wd}{x:Nat}(G:n∈S)(H:v∈S):∀{l:eh},(∀y∈l,y.1∈S/\y.2∈S)->(l.map (·.1)).Nodup->lr S (bo S n) (bo S v) x l=if(n,v)∈l then [x] else []:=by
 intro l;induction l with
 |nil=>intro _ _;simp[lr]
 |cons y l J=>
  intro r hd;rw[hW,aq9] at hd;have e:lr S (bo S n) (bo S v) x (y::l)=(if bo S y.1=bo S n/\bo S y.2=bo S v then [x] else [])++lr S (bo S n) (bo S v) x l:=by simp[lr]
  rw[e,J (λ z I=>r z (by simp[I])) hd.2];have u:=r y (by simp);by_cases q:y=(n,v)
  ·subst q;have c:(n,v)∉l:=λ h=>hd.1 (dt.2 ⟨_,h,rfl⟩)
   simp[c]
  ·have w:¬(bo S y.1=bo S n/\bo S y.2=bo S v):=λ h=>q (Prod.ext (UU u.1 G h.1) (UU u.2 H h.2))
   rw[if_neg w];have E:(n,v)∈y::l↔(n,v)∈l:=by
    rw[dX];exact⟨λ h=>h.elim (λ e=>absurd e.symm q) id, .inr⟩
   simp[E]
theorem UW{n v:Wd}(u:n∈S)(w:v∈S):∀{L:List bI} {F:Wd},(∀x∈L,∀y∈x.labels,y.1∈S/\y.2∈S)->(∀x∈L,(x.labels.map (·.1)).Nodup)->fC S (bo S n) (bo S v) F L=sN L (eC S F L) n v:=by
 intro L;induction L with
 |nil=>intro F _ _;rfl
 |cons x L E=>
  intro F q r;show lr S _ _ (gM F) x.labels++fC S _ _ (dr S F x) L=_;rw[E (λ z h=>q z (by simp[h])) (λ z h=>r z (by simp[h])),ajo u w (q x (by simp)) (r x (by simp))];show _=((((x,gM F)::L.zip (eC S (dr S F x) L))).filter _).map _;rw[List.filter_cons];by_cases c:(n,v)∈x.labels
  ·rw[if_pos c,if_pos (by simpa using c)];rfl
  ·rw[if_neg c,if_neg (by simpa using c)];rfl
theorem ajp{n:Wd}{v:Nat}(w:S.length<=v):∀{L:List bI} {F:Wd},(∀x∈L,∀y∈x.labels,y.1∈S/\y.2∈S)->fC S (bo S n) v F L=[]:=by
 intro L;induction L with
 |nil=>intro F _;rfl
 |cons x L u=>
  intro F c;show lr S _ _ (gM F) x.labels++fC S _ _ (dr S F x) L=_;rw[u (λ z r=>c z (by simp[r])),iA,lr,List.flatMap_eq_nil_iff];intro y q;rw[if_neg];intro h;have:=oH (c x (by simp) y q).2;omega
theorem ajq{R:List Nat}{n v:Wd}(y:R.length=L.length):sN L R n v≠[]↔∃x∈L,(n,v)∈x.labels:=by
 unfold sN;rw[Ne,List.map_eq_nil_iff,List.filter_eq_nil_iff];constructor
 ·intro h;refine qq (λ c=>h (λ p q hd=>c ⟨p.1,(List.of_mem_zip q).1,by simpa using hd⟩))
 ·rintro⟨x,u,r⟩ h;obtain⟨i,hi,rfl⟩:=List.mem_iff_getElem.1 u;have w:(L[i],R[i]'(by omega))∈L.zip R:=by
   rw[List.mem_iff_getElem];exact⟨i,by rw[List.length_zip];omega,by rw[List.getElem_zip]⟩
  exact h _ w (by simpa using r)
theorem dE.vt(h:dE S L){F:Wd}{n:Wd}(r:n∈S){v:Nat}:fC S (bo S n) v F L≠[]↔v<S.length/\∃x∈L,(n,S.getD v [])∈x.labels:=by
 by_cases c:v<S.length
 ·have q:S.getD v []∈S:=by
   rw[l8,gH c];simp
  rw[<-DN (ow h.ws) c,UW r q h.sym (λ x u=>h.names u),ajq (vj S L F),DN (ow h.ws) c];simp[c]
 ·rw[ajp (by omega) h.sym];simp[c]
theorem dE.ajr(h:dE S L){F:Wd}{n:Wd}(E:n∈S){V:List Nat}(w:V.Nodup)(q:∀v∈V,fC S (bo S n) v F L≠[]):V.length<=20:=by
 have c:V⊆L.map λ x=>bo S (jf x.labels n):=by
  intro v G;obtain⟨u,x,r,y⟩:=(h.vt E).1 (q v G);refine dt.2 ⟨x,r, ?_⟩;rw[Sd (h.names r) y,DN (ow h.ws) u]
 have:=w.length_le_of_subset c;rw[fu] at this;have:=h.ll;omega
theorem ajs{α:Type}{l:List α}{f:α->List UInt8}{k:Nat}(h:∀x∈l,(f x).length<=k):(l.flatMap f).length<=l.length*k:=by
 induction l with
 |nil=>simp
 |cons x l q=>
  have r:=h x (by simp);have u:=q (λ y c=>h y (by simp[c]));rw[fG,aY,dH,Nat.add_mul];omega
theorem ajt{x:Wd}(h:x.length<=200):(b8 x).length<=210:=by
 have:=fw 10 x.length (by omega) (by omega);unfold b8;rw[aY];omega
theorem dE.syms(h:dE S L):(S.flatMap b8).length<=42000:=by
 have:=ajs (l:=S) (f:=b8) (k:=210) (λ x c=>ajt (h.sw x c));have:=h.sl;have:S.length*210<=200*210:=Nat.mul_le_mul_right _ h.sl;omega
theorem aju(h:dE S L):(cY S).length<=42004:=by
 have:=h.syms;unfold cY;rw[aY,cH];omega
theorem dE.Kg(h:dE S L):(eB S).length<=42100:=by
 have:=aju h;unfold eB;rw[aY,qZ,pJ];omega
theorem vu{n:Nat}(h:n<18446744073709551616):(bm n).length<=10:=fw 10 n (by omega) (by omega)
theorem dE.Kh(h:dE S L){x:bI}(q:x∈L):(cA S x).length<=1000:=by
 obtain⟨w,y,E,G⟩:=h.fQ x q;obtain⟨b1,b2⟩:=h.gk x q;have N:=Dr S (by have:=h.sl;omega) x.labels (h.sym x q);have Q:=vu (n:=x.labels.length) (by omega);have R:=vu (n:=x.chunks.length) (by omega);have U:(lP x.chunks).length<=330:=by
  cases u:x.chunks with
  |nil=>simp[lP]
  |cons c cs=>
   rw[u] at b1 b2;obtain⟨c1,c2,c3,c4,r,c6⟩:=b2;have H:=Ub cs c.2.2 c.1 c6 (by omega);have I:(bm (eO c.2.1)).length<=10:=vu (by unfold eO;split<;>omega);have J:(bm (c.2.2-c.2.1).toNat).length<=10:=vu (by omega);have K:=vu r;simp only[lP,aY];simp only[dH] at b1;omega
 unfold cA;simp only[aY];omega
theorem ajv{F:Wd}{x:bI}(q:(cA S x).length<=1000):(dr S F x).length<=F.length+1050:=by
 have c:=sM (k:=16) F.length (by omega);have h:=vu (n:=(cA S x).length) (by omega);unfold dr fk;simp only[aY,cH];omega
theorem UX:∀{L:List bI} {F:Wd},(∀x∈L,(cA S x).length<=1000)->(eH S F L).length<=F.length+1050*L.length:=by
 intro L;induction L with
 |nil=>intro F _;simp[eH]
 |cons x L q=>
  intro F h;have r:=q (F:=dr S F x) (λ y c=>h y (by simp[c]));have u:=ajv (F:=F) (h x (by simp));show(eH S (dr S F x) L).length<=_;rw[dH];omega
theorem dE.UY(h:dE S L):(eH S (eB S) L).length<=64000:=by
 have q:=UX (L:=L) (F:=eB S) (λ x c=>h.Kh c);have r:=h.Kg;have u:=h.ll;omega
theorem DO(F:Wd):16*gM F=(F++pad 16 F.length).length:=by
 have:=CW (k:=16) F.length (by omega);unfold gM;rw[aY];omega
theorem ajw{A B:List bI}{x:bI}{F:Wd}:(eC S F (A++x::B))[A.length]? =some (gM (eH S F A))/\∃r,(eH S F (A++x::B)).drop (16*gM (eH S F A))=fk (cA S x)++r/\16*gM (eH S F A)+5<=(eH S F (A++x::B)).length:=by
 constructor
 ·rw[Us,rE (by rw[vj];omega),vj,Nat.sub_self];rfl
 ·refine⟨ee S (dr S (eH S F A) x) B, ?_, ?_⟩
  ·rw[ta,pX S (x::B),DO];show(_++(pad 16 _++(fk (cA S x)++_))).drop _=_;rw[<-dx,iz]
  ·rw[ta,pX S (x::B),DO];show _<=(_++(pad 16 _++(fk (cA S x)++_))).length;have c:=jB (cA S x).length;unfold fk;simp only[aY,cH];omega
theorem UZ:∀{L:List bI} {F:Wd},∀k∈eC S F L,F.length<=16*k/\16*k<=(eH S F L).length:=by
 intro L;induction L with
 |nil=>intro F k h;cases h
 |cons x L r=>
  intro F k h;have c:=DO F;rw[aY] at c;have q:=congrArg fZ (pX S L (dr S F x));rw[aY] at q;have e:(dr S F x).length=F.length+((pad 16 F.length).length+(fk (cA S x)).length):=by simp[dr]
  show F.length<=_/\_<=(eH S (dr S F x) L).length;rcases dX.1 h with rfl|h
  ·omega
  ·obtain⟨u,w⟩:=r (F:=dr S F x) k h;omega
theorem ajx:∀{L:List bI} {F:Wd},(eC S F L).Pairwise (·<·):=by
 intro L;induction L with
 |nil=>intro F;exact .nil
 |cons x L q=>
  intro F;refine .cons (λ k c=> ?_) q;have u:=(UZ (L:=L) (F:=dr S F x) k c).1;have h:=DO F;rw[aY] at h;have e:(dr S F x).length=F.length+((pad 16 F.length).length+(fk (cA S x)).length):=by simp[dr]
  have w:=jB (cA S x).length;have r:(fk (cA S x)).length=(bm (cA S x).length).length+((cA S x).length+4):=by simp[fk,cH]
  omega
theorem dE.refs(h:dE S L):∀k∈eC S (eB S) L,0<k/\k<4294967296:=by
 intro k c;have q:=UZ k c;have r:=h.UY;have u:5<=(eB S).length:=by unfold eB;rw[aY,qZ];omega
 omega
theorem dE.bD(h:dE S L){F:Wd}{n:Wd}(H:n∈S){V:List Nat}(U:V.Pairwise (·<·))(G:∀v,v∈V↔fC S (bo S n) v F L≠[]):V.map (λ v=>S.getD v [])=valuesOf (L.map (·.labels)) n:=by
 have q:∀v∈V,v<S.length:=λ v J=>((h.vt H).1 ((G v).1 J)).1
 apply CU
 ·show(V.map _).Pairwise _;rw[List.pairwise_map];refine U.imp_of_mem (λ{a b} Q R E=> ?_);have K:=q a Q;have N:=q b R;rw[l8,l8,gH K,gH N];exact qt.1 h.ws _ _ K N E
 ·exact ox _
 ·intro u;rw[CV (λ x r=>by
   obtain⟨y,w,rfl⟩:=dt.1 r;exact⟨h.names w,λ z W=>((h.fQ y w).2.2.1.1 z W).2⟩)]
  rw[dt];constructor
  ·rintro⟨v,J,rfl⟩;obtain⟨_,x,r,c⟩:=(h.vt H).1 ((G v).1 J);exact⟨_,dt.2 ⟨x,r,rfl⟩,c⟩
  ·rintro⟨x,r,c⟩;obtain⟨y,w,rfl⟩:=dt.1 r;have I:=(h.sym y w _ c).2;exact⟨bo S u,(G _).2 ((h.vt H).2 ⟨oH I,y,w,by rw[vr I];exact c⟩),vr I⟩
theorem dE.lines(h:dE S L){F:Wd}:∀{bl:List Wd} {c:List (Wd×Wd)},(∀n∈bl,n∈S)->iB S (λ a k=>fC S a k F L) bl c->c=bl.flatMap λ n=>(valuesOf (L.map (·.labels)) n).map λ v=>(n,v):=by
 intro bl;induction bl with
 |nil=>intro c _ y;exact y
 |cons n bl G=>
  rintro c q⟨V,r,u,w,rfl,x⟩;rw[G (λ m E=>q m (by simp[E])) x,fG,<-h.bD (q n (by simp)) u w,List.map_map];rfl
theorem dE.U0(h:dE S L):(kr L).length<=200:=by
 have w:(kr L).Nodup:=by
  unfold kr;show List.Pairwise _ _;rw[List.pairwise_flatMap];refine⟨λ n _=> ?_, ?_⟩
  ·rw[List.pairwise_map];exact(ow (ox _)).imp (λ q e=>q (Prod.mk.inj e).2)
  ·refine(ow (ox _)).imp (λ{a b} q x r y c e=>q ?_);obtain⟨_,_,rfl⟩:=dt.1 r;obtain⟨_,_,rfl⟩:=dt.1 c;exact(Prod.mk.inj e).1
 have u:kr L⊆L.flatMap (·.labels):=by
  intro p E;obtain⟨n,_,E⟩:=jJ.1 E;obtain⟨v,I,rfl⟩:=dt.1 E;rw[CV (λ x r=>by
   obtain⟨y,c,rfl⟩:=dt.1 r;exact⟨h.names c,λ z K=>((h.fQ y c).2.2.1.1 z K).2⟩)] at I
  obtain⟨x,r,G⟩:=I;obtain⟨y,c,rfl⟩:=dt.1 r;exact jJ.2 ⟨y,c,G⟩
 have U:=w.length_le_of_subset u;have J:∀M:List bI,(∀x∈M,x.labels.length<=10)->(M.flatMap (·.labels)).length<=10*M.length:=by
  intro M;induction M with
  |nil=>intro _;simp
  |cons x M N=>
   intro H;have Q:=H x (by simp);have R:=N (λ y c=>H y (by simp[c]));rw[fG,aY,dH];omega
 have W:=J L (λ x r=>(h.fQ x r).2.1);have X:=h.ll;omega
theorem dE.ajy(h:dE S L){l:List Wd}(r:l.Nodup)(u:∀k∈l,(lu L k).isSome):l.length<=200:=by
 have c:l⊆S:=λ n w=>by
  obtain⟨x,E,q⟩:=((h.cnt n).1).1 (u n w);obtain⟨y,G,rfl⟩:=dt.1 q;exact(h.sym x E y G).1
 have:=r.length_le_of_subset c;have:=h.sl;omega
theorem dE.ni(h:dE S L){N:List Wd}(hN:N.Nodup)(r:∀n,n∈N↔(lu L n).isSome):iu N=ni (L.map (·.labels)):=by
 apply CU (Uo hN) (ox _);intro n;rw[(rh N).mem_iff,r,(h.cnt n).1];show _↔n∈Go.Proofs.ni _;rw[Sc];constructor
 ·rintro⟨x,c,u⟩;obtain⟨y,q,rfl⟩:=dt.1 u;exact⟨_,dt.2 ⟨x,c,rfl⟩,y.2,q⟩
 ·rintro⟨x,c,v,w⟩;obtain⟨y,q,rfl⟩:=dt.1 c;exact⟨y,q,dt.2 ⟨_,w,rfl⟩⟩
def DP(L:List bI)(R:List Nat)(n v:Wd):List Nat:=yR L R (n,v,0)
theorem dE.hN(h:dE S L):∀n,(lu L n).isSome->0<(lu L n).getD 0/\(lu L n).getD 0<=L.length/\n∈S/\n.length<=1000/\(∃v,fC S (bo S n) v (eB S) L≠[])/\
   (∀v,fC S (bo S n) v (eB S) L≠[]->v<S.length/\DP L (eC S (eB S) L) n (S.getD v [])=fC S (bo S n) v (eB S) L/\(fC S (bo S n) v (eB S) L).length<=1000/\(∀x∈fC S (bo S n) v (eB S) L,x<4294967296)/\(S.getD v []).length<=1000)/\
   ∀V:List Nat,V.Nodup->(∀v∈V,fC S (bo S n) v (eB S) L≠[])->V.length<=20:=by
 intro n K;obtain⟨N,Q,R⟩:=h.cnt n;obtain⟨x,u,H⟩:=N.1 K;obtain⟨y,I,rfl⟩:=dt.1 H;have c:=h.sym x u y I;have G:=((h.fQ x u).2.2.1.1 y I).1;refine⟨R K,Q,c.1,by have:=h.sw _ c.1;omega,⟨bo S y.2,(h.vt c.1).2 ⟨oH c.2,x,u,by rw[vr c.2];exact I⟩⟩,λ v Z=> ?_,λ V W w=>h.ajr c.1 W w⟩;have q:=((h.vt c.1).1 Z).1;have J:S.getD v []∈S:=by
  rw[l8,gH q];simp
 have e:fC S (bo S y.1) v (eB S) L=sN L (eC S (eB S) L) y.1 (S.getD v []):=by
  rw[<-UW c.1 J h.sym (λ x u=>h.names u),DN (ow h.ws) q]
 have r:∀k∈sN L (eC S (eB S) L) y.1 (S.getD v []),k∈eC S (eB S) L:=by
  intro k E;obtain⟨p,X,rfl⟩:=dt.1 E;exact(List.of_mem_zip (oN.1 X).1).2
 refine⟨q, ?_, ?_, ?_,by have:=h.sw _ J;omega⟩
 ·rw[e];unfold DP yR;rw[if_neg G]
 ·rw[e];unfold sN;rw[fu];have U:=List.length_filter_le (λ p:bI×Nat=>decide ((y.1,S.getD v [])∈p.1.labels)) (L.zip (eC S (eB S) L));rw[List.length_zip] at U;have:=h.ll;omega
 ·rw[e];exact λ k E=>(h.refs k (r k E)).2
end
theorem ajz{S:List Wd}{L:List bI}(h:dE S L){y X pd P X2 B:Wd}{a b c d pt k:Nat}{T:List (Wd×Wd×Nat)}(hF:y=eH S (eB S) L)
  (E:B=y++(X++(pd++(P++(X2++(dh (eP (T.map (fm k)))++(eu 5 a b c d pt++be 4 (cI 0 (eu 5 a b c d pt)))))))))
  (hk:k=(y++(X++pd)).length)(H:pt=(y++(X++(pd++(P++X2)))).length)(hl:B.length<=67108864)
  (ha:a<18446744073709551616)(hb:b<18446744073709551616)(hc:c<18446744073709551616)(hd:d<18446744073709551616)
  (hT:T.map (λ t=>(t.1,t.2.1))=([],[])::kr L)
  (hP:∀t∈T,t.2.2<=P.length/\∃r,P.drop t.2.2=dh (fM (DP L (eC S (eB S) L) t.1 t.2.1))++r):
  jV S L B (eC S (eB S) L) (T.map (fm k)):=by
 have G:∃r,y=eZ++(dh (cY S)++r):=⟨ee S (eB S) L,by rw[hF,pX,eB,dx]⟩;refine⟨hl, ?_, ?_, ?_, ?_,vj S L _,h.refs,ajx, ?_, ?_⟩
 ·obtain⟨r,N⟩:=G;obtain⟨q,hq⟩:∃q,B=eZ++q:=by
   rw[E,N];exact⟨_,dx _ _ _⟩
  exact⟨q,by rw[hq,eZ,dx];rfl⟩
 ·refine⟨y++(X++(pd++(P++(X2++dh (eP (T.map (fm k))))))),a,b,c,d,pt, ?_,hb,ha,hc,hd,by rw[E];simp only[dx], ?_⟩
  ·rw[E,H];have Q:∀p,(eu 5 a b c d p).length=48:=λ p=>by unfold eu;simp only[aY,cH]
   simp only[aY,cH,Q];omega
  ·rw[E,show y++(X++(pd++(P++(X2++(dh (eP (T.map (fm k)))++(eu 5 a b c d pt++be 4 (cI 0 (eu 5 a b c d pt))))))))=(y++(X++(pd++(P++X2))))++(dh (eP (T.map (fm k)))++(eu 5 a b c d pt++be 4 (cI 0 (eu 5 a b c d pt)))) by simp only[dx]];generalize eu 5 a b c d pt++be 4 (cI 0 (eu 5 a b c d pt))=tl;rw[H,iz];exact⟨_,rfl⟩
 ·obtain⟨r,N⟩:=G;refine⟨_,by rw[E,N,dx,show 5=eZ.length by rw[qZ],iz,dx]⟩
 ·intro i I K;obtain⟨A,x,C,hL,U⟩:∃A x C,L=A++x::C/\A.length=i:=⟨L.take i,L[i],L.drop (i+1),by rw[<-gS I,kC],by rw[fS];omega⟩;obtain⟨J,r,R,g3⟩:=ajw (S:=S) (A:=A) (B:=C) (x:=x) (F:=eB S);rw[<-hL] at J R g3;rw[U,gH K,Option.some.injEq] at J;have hx:L[i]=x:=by
   have:L[i]? =some x:=by rw[hL,rE (by omega),U,Nat.sub_self];rfl
   rw[gH I] at this;exact iW this
  rw[J,hx,E,hF];refine⟨_,by rw[List.drop_append_of_le_length (by omega),R,dx],by rw[aY];omega⟩
 ·intro t ht;obtain⟨u,hu,rfl⟩:=dt.1 ht;obtain⟨I,r,K⟩:=hP u hu;show u.2.2+k<=B.length/\∃r,B.drop (u.2.2+k)=dh (fM (yR L (eC S (eB S) L) (u.1,u.2.1,u.2.2+k)))++r;have e:B=(y++(X++pd))++(P++(X2++(dh (eP (T.map (fm k)))++(eu 5 a b c d pt++be 4 (cI 0 (eu 5 a b c d pt)))))):=by rw[E];simp only[dx]
  refine⟨by rw[e,aY,@aY _ P,<-hk];omega, ?_⟩;rw[e,Nat.add_comm,<-List.drop_drop,hk,iz,List.drop_append_of_le_length I,K,dx];exact⟨_,rfl⟩
 ·rw[List.map_map,<-hT];rfl
section
variable{c:WC}[RF c][RL c][RO c]{tag:Nat->Nat}{g:WV}{w0:ak}{Z Y:Nat->Prop}{w w':ak}{W d:kd}{s s':cF}{l:Wd}
structure Ki(S:List Wd)(L:List bI)(s:cF):Prop where
 F:s.F=eH S (eB S) L
 P:s.P=[]
 O:s.O=[]
 hP:s.fN=true
 hO:s.eR=true
 cnt:s.cnt=0
 t0:s.t0=5
 t1:s.t1=(eB S).length
 stage:s.stage=2
 m1:s.m1=ic S
 m2:s.m2=lu L
 li:s.li=[]
 sym:s.sym=some S
theorem C1.st2(h:C1 c w0 Z w W s)(n:Nat):C1 c w0 Z (w.setCell (W.add 6) (ah aj (n:Int))) W {s with t2:=n}:=h.lR (hP:=s.fN) (hO:=s.eR) (cnt:=s.cnt) (t0:=s.t0) (t1:=s.t1) (t2:=n) (t3:=s.t3) (t4:=s.t4) (t5:=s.t5) (stage:=s.stage) (pst:=s.pst) (by omega) rfl
theorem C1.st3(h:C1 c w0 Z w W s)(n:Nat):C1 c w0 Z (w.setCell (W.add 7) (ah aj (n:Int))) W {s with t3:=n}:=h.lR (hP:=s.fN) (hO:=s.eR) (cnt:=s.cnt) (t0:=s.t0) (t1:=s.t1) (t2:=s.t2) (t3:=n) (t4:=s.t4) (t5:=s.t5) (stage:=s.stage) (pst:=s.pst) (by omega) rfl
theorem C1.st4(h:C1 c w0 Z w W s)(n:Nat):C1 c w0 Z (w.setCell (W.add 8) (ah aj (n:Int))) W {s with t4:=n}:=h.lR (hP:=s.fN) (hO:=s.eR) (cnt:=s.cnt) (t0:=s.t0) (t1:=s.t1) (t2:=s.t2) (t3:=s.t3) (t4:=n) (t5:=s.t5) (stage:=s.stage) (pst:=s.pst) (by omega) rfl
theorem C1.st5(h:C1 c w0 Z w W s)(n:Nat):C1 c w0 Z (w.setCell (W.add 9) (ah aj (n:Int))) W {s with t5:=n}:=h.lR (hP:=s.fN) (hO:=s.eR) (cnt:=s.cnt) (t0:=s.t0) (t1:=s.t1) (t2:=s.t2) (t3:=s.t3) (t4:=s.t4) (t5:=n) (stage:=s.stage) (pst:=s.pst) (by omega) rfl
theorem U1{K:ay->ak->Prop}{S:List Wd}{L:List bI}(hi:dE S L)(h:C1 c w0 Z w W s)(q:Ki S L s)
  (hK:∀w' s' T,C1 c w0 Z w' W s'->s'.fN=false->s'.eR=false->s'.sym=some S->jV S L s'.F (eC S (eB S) L) T->K aA w'):pe K W 3 w:=by
 have J5:=hi.UY;have iP:=hi.Kg;have hS:=hi.sl;have Co:=hi.ll;unfold pe;have ha:∀{w:ak} {s':cF} (k:Nat) {v:ay},C1 c w0 Z w W s'->(gm c s')[k+4]? =some v->at_ w ((W.add 4).add k) v:=by
  intro w s' k v h hv;rw[add_add _ _ _ h.sp,Nat.add_comm 4 k];exact h.dP (k+4) hv
 refine⟨_,h.dP 10 rfl, ?_⟩;refine aT (by rw[q.stage];decide) (aT (by decide) (aT (by decide) (cJ (by decide) ?_)));refine⟨_,h.eM,_,h.pos, ?_⟩;rw[add_add _ _ _ h.sp];refine⟨⟨trivial,h.s7 6 (by omega)⟩, ?_⟩;have h1:=h.st2 s.F.length;dsimp only;generalize (w.setCell (W.add (4+2)) (ah aj (s.F.length:Int)))=w1 at h1;have y':s.F.length<=64000:=by rw[q.F];exact J5
 refine aF (ajk (S:=S) (F0:=eB S) (L:=L) (G:=DP L (eC S (eB S) L)) h1 q.P q.O q.cnt q.F q.t1 rfl (by show s.F.length<=_;omega) q.hP q.hO q.sym q.m1 (by omega) (by omega) (λ x hx=>by have:=hi.Kh hx;omega) (λ n U=>(hi.refs n U).2) rfl hi.sym (λ x hx=>by have:=(hi.fQ x hx).2.1;omega) (λ n U=>by
   have e:s.m2=lu L:=q.m2;dsimp only at U⊢;rw[e] at U⊢;exact hi.hN n U) (λ l hl I=>hi.ajy hl (λ k hk=>by
   have:=(I k).1 hk;dsimp only at this;rw[q.m2] at this;exact this))) ?_
 rintro _ w2⟨rfl,N,s2,k,T',hNd,U2,hT,DL,h2⟩;have hNS:∀n∈iu N,n∈S:=λ n U=>by
  have:=(U2 n).1 ((rh N).mem_iff.1 U);dsimp only at this;rw[q.m2] at this;exact((hi.hN n this).2.2).1
 have u:=hi.lines hNS DL;rw[hi.ni hNd (λ n=>by rw[U2 n];dsimp only;rw[q.m2])] at u;have R:(([],[],k)::T').map (λ t:Wd×Wd×Nat=>(t.1,t.2.1))=([],[])::kr L:=by
  rw[hW,u];rfl
 have Q:T'.length<=200:=by
  have:=hi.U0;rw[show kr L=T'.map (λ t=>(t.1,t.2.1)) from u.symm,fu] at this;exact this
 generalize U3:(([],[],k)::T':List (Wd×Wd×Nat))=T at hT R;have oD:T.length<=201:=by rw[<-U3];simp;omega
 clear U3 u Q;obtain⟨P,b1,b2,dig,rfl,C0,H⟩:=hT;dsimp only at h2;refine⟨_,rfl,_,λ w=>cE _ w,_,rfl,aT rfl ?_⟩;have hTv:∀t∈T,t.1≠[]->t.2.1∈S:=by
  intro t E eY;have:(t.1,t.2.1)∈([],[])::kr L:=by rw[<-R];exact dt.2 ⟨t,E,rfl⟩
  rcases dX.1 this with e|I
  ·exact absurd (congrArg Prod.fst e) eY
  ·obtain⟨n,_,I⟩:=jJ.1 I;obtain⟨v,hv,e⟩:=dt.1 I;rw[CV (λ x hx=>by
    obtain⟨y,hy,rfl⟩:=dt.1 hx;exact⟨hi.names hy,λ z hz=>((hi.fQ y hy).2.2.1.1 z hz).2⟩)] at hv
   obtain⟨x,hx,hxv⟩:=hv;obtain⟨y,hy,rfl⟩:=dt.1 hx;have:=(hi.sym y hy _ hxv).2;rw[show t.2.1=v from(congrArg Prod.snd e).symm];exact this
 refine aF (ahh (T:=T) h2 q.hO rfl rfl q.li (λ t E=> ?_) (by omega) (by show s.F.length<=_;omega)) ?_
 ·obtain⟨p1,p2,p3,_⟩:=H t E;refine⟨p1,by omega,λ eY=> ?_⟩;have I:=hTv t E eY;refine⟨S.idxOf t.2.1, ?_, ?_⟩
  ·show s.m1 t.2.1=_;rw[q.m1];unfold ic;rw[if_pos I]
  ·have:=oH I;unfold bo at this;omega
 rintro _ w3⟨rfl,s3,h3,X,li,Tw,apK,rfl,hXl,apL,ajJ⟩;dsimp only at h3 hXl;refine⟨_,rfl,_,λ w=>cE _ w,_,rfl,aT rfl ?_⟩;refine⟨_,h3.eM,_,h3.pos, ?_⟩;rw[add_add _ _ _ h3.sp];refine⟨⟨trivial,h3.s7 8 (by omega)⟩, ?_⟩;have h4:=h3.st4 (s.F++X).length;dsimp only at h4;generalize (w3.setCell (W.add (4+4)) (ah aj ((s.F++X).length:Int)))=w4 at h4⊢;have hXs:(s.F++X).length<=1100000:=by
  rw[aY];omega
 have apN:P.length<=2100000:=by omega
 refine aF (afW h4 q.hP (by show(s.F++X).length<=_;omega) (by show P.length<=_;omega)) ?_;rintro _ w5 ⟨rfl,J⟩;dsimp only at J;refine⟨_,rfl,_,λ w=>cE _ w,_,rfl,aT rfl ?_⟩;refine⟨_,J.eM,_,J.pos, ?_⟩;rw[add_add _ _ _ J.sp];refine⟨⟨trivial,J.s7 7 (by omega)⟩, ?_⟩;have y7:=sM (k:=4) (s.F++X).length (by omega);generalize hpd:pad 4 (s.F++X).length=pd at J y7⊢;have hA5:(s.F++X++(pd++P)).length<=3300000:=by
  rw[aY,@aY _ pd];omega
 have h6:=J.st3 (s.F++X++(pd++P)).length;dsimp only at h6;generalize (w5.setCell (W.add (4+3)) (ah aj ((s.F++X++(pd++P)).length:Int)))=w6 at h6⊢;refine aF (agX h6 (by show(s.F++X++(pd++P)).length<=_;omega) (by show li.length<=_;omega) ajJ) ?_;rintro _ w7 ⟨rfl,X2,b2',apR,hX2,h7⟩;dsimp only at h7 hX2;refine⟨_,rfl,_,λ w=>cE _ w,_,rfl,aT rfl ?_⟩;refine⟨_,h7.eM,_,h7.pos, ?_⟩;rw[add_add _ _ _ h7.sp];refine⟨⟨trivial,h7.s7 9 (by omega)⟩, ?_⟩;have hA7:(s.F++X++(pd++P)++X2).length<=3700000:=by
  rw[aY];omega
 have h8:=h7.st5 (s.F++X++(pd++P)++X2).length;dsimp only at h8;generalize (w7.setCell (W.add (4+5)) (ah aj ((s.F++X++(pd++P)++X2).length:Int)))=w8 at h8⊢;have qN:(s.F++X++pd).length<=1200000:=by
  rw[aY];omega
 refine aF (ag6 (T:=T) h8 q.hO rfl rfl (by omega) (λ t E=> ?_) (by show(s.F++X++(pd++P)++X2).length<=_;omega)) ?_
 ·obtain⟨p1,p2,p3,_⟩:=H t E;refine⟨p1,p2, ?_⟩;show t.2.2+(s.F++X++pd).length<_;omega
 rintro _ w9⟨rfl,b3,apT,h9⟩;dsimp only at h9;refine⟨_,rfl,_,λ w=>cE _ w,_,rfl,aT rfl ?_⟩;have ajL:(dh (eP (T.map (fm (s.F++X++pd).length)))).length<=500000:=by
  have h1:=Jo (s.F++X++pd).length T (λ t E=>by
   obtain⟨p1,p2,p3,_⟩:=H t E;exact⟨p1,p2,by omega⟩)
  rw[pJ];unfold eP;rw[aY,cH];omega
 generalize hTB:dh (eP (T.map (fm (s.F++X++pd).length)))=TB at h9 ajL;have hA9:(s.F++X++(pd++P)++X2++TB).length<=4300000:=by
  rw[aY];omega
 refine aF (afs h9 (by show(s.F++X++(pd++P)++X2++TB).length<=_;omega) (by show s.t0<_;rw[q.t0];omega) (by show s.t1<_;rw[q.t1];omega) (by show s.F.length<_;omega) (by show(s.F++X++(pd++P)).length<_;omega) (by show(s.F++X).length<_;omega) (by show(s.F++X++(pd++P)++X2).length<_;omega)) ?_;rintro _ jg ⟨rfl,b4,apV,qR⟩;dsimp only at qR;refine⟨_,rfl,_,λ w=>cE _ w,_,rfl,aT rfl ?_⟩;refine JB (n:=3) qR (λ w' h'=>hK w' _ (T.map (fm (s.F++X++pd).length)) h' rfl rfl q.sym ?_);show jV S L (s.F++X++(pd++P)++X2++TB++(eu s.t0 s.t1 s.F.length (s.F++X++(pd++P)).length (s.F++X).length (s.F++X++(pd++P)++X2).length++be 4 (cI 0 (eu s.t0 s.t1 s.F.length (s.F++X++(pd++P)).length (s.F++X).length (s.F++X++(pd++P)++X2).length)))) _ _;rw[q.t0];have ajN:∀a b c d e f,(eu a b c d e f).length=48:=λ a b c d e f=>by unfold eu;simp only[aY,cH]
 refine ajz hi (X:=X) (pd:=pd) (P:=P) (X2:=X2) (a:=s.t1) (b:=s.F.length) (c:=(s.F++X++(pd++P)).length) (d:=(s.F++X).length) (pt:=(s.F++X++(pd++P)++X2).length) (k:=(s.F++X++pd).length) (T:=T) q.F ?_ (by rw[dx]) (by simp only[dx]) ?_ (by rw[q.t1];omega) (by omega) (by omega) (by omega) R (λ t E=> ?_)
 ·rw[<-hTB];simp only[dx]
 ·rw[aY,@aY _ (eu _ _ _ _ _ _),ajN,cH];omega
 ·obtain⟨p1,p2,p3,r,p4⟩:=H t E;exact⟨p3,r,p4⟩
theorem ajO{S:List Wd}{L:List bI}(hi:dE S L)(h:C1 c w0 Z w W s)(q:Ki S L s):
  au ag 125 #[an (some W),ah aG 3] w λ r w'=>r=aA/\∃s' T,C1 c w0 Z w' W s'/\s'.fN=false/\s'.eR=false/\s'.sym=some S/\jV S L s'.F (eC S (eB S) L) T:=by
 apply tX;unfold r6;refine⟨_,h.dP 10 rfl,aT (by rw[q.stage];decide) ⟨_,h.dP 10 rfl,aT (by rw[q.stage];decide) ?_⟩⟩;exact U1 hi h q (λ w' s' T h' a b c d=>⟨rfl,s',T,h',a,b,c,d⟩)
end
def ba:ay:=aa none 0 0
theorem Kj{w:ak}{nm:ByteArray}:au ag 228 #[aC nm] w λ r w'=>r=aZ #[an (some ⟨w.heap.size,0,none⟩),aA]/\Fw w' ⟨w.heap.size,0,none⟩ ba []/\aS w w'/\w.heap.size<w'.heap.size:=by
 apply aaT;unfold v228;have c:=Ob.new w [ba,ah aj 0,aC nm] 229;exact⟨rfl,⟨⟨nm,c⟩,Own.nil _ 1,by simp[ba,aN],by simp⟩,bA _ _,c.lt (by simp)⟩
def eW(f p o d t:kd)(r1 r2:Nat):WC:={f:=f,p:=p,o:=o,d:=d,t:=t,r1:=r1,r2:=r2}
instance{f p o d t:kd}{r1 r2:Nat}:RF (eW f p o d t r1 r2):=⟨rfl⟩
instance{f p o d t:kd}{r1 r2:Nat}:RL (eW f p o d t r1 r2):=⟨rfl⟩
instance{f p o d t:kd}{r1 r2:Nat}:RO (eW f p o d t r1 r2):=⟨λ _ h=>h⟩
def ji:cF:=
 {F:=[],P:=[],O:=[],fN:=true,eR:=true,cnt:=0,t0:=0,t1:=0,t2:=0,t3:=0,t4:=0,t5:=0,stage:=0,pst:=0,b1:=[],b2:=[],nsym:=0,last:=[],m1:=λ _=>none,m2:=λ _=>none,li:=[],ls:=[],lref:=0,lcref:=0,dig:=[],sym:=none,ir:=[]}
def gN:WV:={fv:=ba,pv:=ba,ov:=ba,v1:=ba,v2:=ba,kN:=ba,sy:=none,sf:=none}
def jj(c:WC)(W:Nat)(b:Nat):Nat:=
 if b=W then 1 else if b=c.f.block then 4 else if b=c.p.block then 6 else if b=c.o.block then 8 else if b=c.d.block then 10 else if b=c.t.block then 11 else if b=c.r1 then 12 else if b=c.r2 then 13 else 0
theorem TG.nil(w:ak)(tag:Nat->Nat)(k:Nat):TG w tag ba k:=λ x c=>by cases c
theorem DQ{w:ak}{a:kd}{us vs ws:List ay}(h:Ob w a (us++(vs++ws))):Ob w (a.add us.length) vs:=by
 refine⟨rT _ _ h.1,λ i v hi=> ?_⟩;have c:=(oQ.1 hi).1;rw[add_add _ _ _ h.1];refine h.2 (us.length+i) v ?_;rw[rE (by omega),tz,oT c];exact hi
def jG:List ay:=jx 10 (ah aG 0)
theorem Kk{w:ak}{e:kd}(r:e.spot=none)(h:Ob w e (ba::jG)):dA w e ba []:=
 ⟨r,⟨jG,h,rfl,λ c q=>⟨0,(List.mem_replicate.1 q).2⟩⟩,Own.nil _ 1,by simp[ba,aN],by simp⟩
theorem mkW{w0 w:ak}{f p o d t:kd}{r1 r2 m:Nat}(u:aS w0 w)(R:Fw w f ba [])(hP:Fw w p ba [])(hO:Fw w o ba [])(G:fL w d t [])(N:dY dM dZ w r1 (λ _=>none))(Q:dY dM mo w r2 (λ _=>none))
  (b1:w0.heap.size<=f.block)(b2:f.block<p.block)(b3:p.block<o.block)(b4:o.block<m)(b5:m<=d.block/\m<=t.block/\m<=r1/\m<=r2)(b6:d.block<w.heap.size/\t.block<w.heap.size/\r1<w.heap.size/\r2<w.heap.size)
  (b7:d.block≠r1/\d.block≠r2/\t.block≠r1/\t.block≠r2/\r1≠r2):
  C1 (eW f p o d t r1 r2) w0 (λ b=>b<w0.heap.size)
   (w.alloc (.cells ⟨gm (eW f p o d t r1 r2) ji++((ba::jG)++((ba::jG)++gO (eW f p o d t r1 r2) gN ji))⟩ 224)) ⟨w.heap.size,0,none⟩ ji:=by
 have r:=Ob.new w (gm (eW f p o d t r1 r2) ji++((ba::jG)++((ba::jG)++gO (eW f p o d t r1 r2) gN ji))) 224;have c:=bA w (.cells ⟨gm (eW f p o d t r1 r2) ji++((ba::jG)++((ba::jG)++gO (eW f p o d t r1 r2) gN ji))⟩ 224);have W:w.heap.size<(w.alloc (.cells ⟨gm (eW f p o d t r1 r2) ji++((ba::jG)++((ba::jG)++gO (eW f p o d t r1 r2) gN ji))⟩ 224)).heap.size:=r.lt (by simp[gm]);generalize Z:(w.alloc (.cells ⟨gm (eW f p o d t r1 r2) ji++((ba::jG)++((ba::jG)++gO (eW f p o d t r1 r2) gN ji))⟩ 224))=w1 at*;clear Z;have E:t.block≠d.block:=G.2.2.1;have H:=DQ (us:=[]) (vs:=gm (eW f p o d t r1 r2) ji) (ws:=(ba::jG)++((ba::jG)++gO (eW f p o d t r1 r2) gN ji)) r;have I:=DQ r;have J:=DQ (us:=gm (eW f p o d t r1 r2) ji++(ba::jG)) (by rw[dx];exact r);have K:=DQ (us:=gm (eW f p o d t r1 r2) ji++((ba::jG)++(ba::jG))) (vs:=gO (eW f p o d t r1 r2) gN ji) (ws:=[]) (by rw[iA,dx,dx];exact r);have y:∀b,b<w0.heap.size->jj (eW f p o d t r1 r2) w.heap.size b=0:=by
  intro b q;have:=u.size;unfold jj eW;dsimp only;rw[if_neg (by omega),if_neg (by omega),if_neg (by omega),if_neg (by omega),if_neg (by omega),if_neg (by omega),if_neg (by omega),if_neg (by omega)]
 have X:∀b k,jj (eW f p o d t r1 r2) w.heap.size b=k->k≠0->b<w1.heap.size:=by
  intro b k q u;unfold jj eW at q;dsimp only at q;split at q<;>(try split at q)<;>(try split at q)<;>(try split at q)<;>(try split at q)<;>(try split at q)<;>(try split at q)<;>(try split at q)<;>omega
 refine⟨jj (eW f p o d t r1 r2) w.heap.size,gN,λ b h=>h,(u.trans c).mono (λ _ _ _ x=>x.elim),λ b q hz=>q (y b hz),λ b q=> ?_,rfl,by simp[jj],H,Kk rfl I,TG.nil _ _ _,Kk rfl J,TG.nil _ _ _,K,R.aH c, ?_,TG.nil _ _ _,hP.aH c, ?_,TG.nil _ _ _,hO.aH c, ?_,TG.nil _ _ _,G.aH c, ?_, ?_,N.aH c, ?_,Q.aH c, ?_,⟨⟨[],rfl,Own.nil _ 2,λ i h=>by simp at h⟩,TG.nil _ _ _⟩,trivial,by simp[ji],λ v h=>(by cases h),λ v h=>(by cases h),⟨λ b h=>h.elim,(u.trans c).mono (λ _ _ _ x=>x.elim)⟩⟩
 ·exact qq (λ U=>by have:=X b _ rfl U;omega)
 ·show jj (eW f p o d t r1 r2) w.heap.size f.block=4;unfold jj eW;dsimp only;rw[if_neg (by omega),if_pos rfl]
 ·show jj (eW f p o d t r1 r2) w.heap.size p.block=6;unfold jj eW;dsimp only;rw[if_neg (by omega),if_neg (by omega),if_pos rfl]
 ·show jj (eW f p o d t r1 r2) w.heap.size o.block=8;unfold jj eW;dsimp only;rw[if_neg (by omega),if_neg (by omega),if_neg (by omega),if_pos rfl]
 ·show jj (eW f p o d t r1 r2) w.heap.size d.block=10;unfold jj eW;dsimp only;rw[if_neg (by omega),if_neg (by omega),if_neg (by omega),if_neg (by omega),if_pos rfl]
 ·show jj (eW f p o d t r1 r2) w.heap.size t.block=11;unfold jj eW;dsimp only;rw[if_neg (by omega),if_neg (by omega),if_neg (by omega),if_neg (by omega),if_neg E,if_pos rfl]
 ·show jj (eW f p o d t r1 r2) w.heap.size r1=12;unfold jj eW;dsimp only;rw[if_neg (by omega),if_neg (by omega),if_neg (by omega),if_neg (by omega),if_neg (by omega),if_neg (by omega),if_pos rfl]
 ·show jj (eW f p o d t r1 r2) w.heap.size r2=13;unfold jj eW;dsimp only;rw[if_neg (by omega),if_neg (by omega),if_neg (by omega),if_neg (by omega),if_neg (by omega),if_neg (by omega),if_neg (by omega),if_pos rfl]
theorem zH{w:ak}{G:Option Nat->ak->Prop}(h:∀w' r,dY dM dZ w' r (λ _=>none)->aS w w'->w.heap.size<=r->r<w'.heap.size->G (some r) w'):aP ag (iM 216 none) w λ r x=>du (ax r) λ m=>G m x:=by
 obtain⟨u,q⟩:=uw (P:=ag) dM dZ 216 w;exact⟨_,_,u,_,rfl,h _ _ q (bA _ _) (bB _) (by simp)⟩
theorem zI{w:ak}{G:Option Nat->ak->Prop}(h:∀w' r,dY dM mo w' r (λ _=>none)->aS w w'->w.heap.size<=r->r<w'.heap.size->G (some r) w'):aP ag (iM 218 none) w λ r x=>du (ax r) λ m=>G m x:=by
 obtain⟨u,q⟩:=uw (P:=ag) dM mo 218 w;exact⟨_,_,u,_,rfl,h _ _ q (bA _ _) (bB _) (by simp)⟩
theorem zJ{w:ak}{G:ay->ak->Prop}(E:∀w' d t,fL w' d t []->aS w w'->w.heap.size<=d.block->w.heap.size<=t.block->d.block<w'.heap.size->t.block<w'.heap.size->G (cG 420 (an (some d))) w'):au ag 229 #[] w λ r u=>aM (ax r) λ v=>G v u:=by
 refine aF adx ?_;rintro _ u ⟨d,t,rfl,x,y,h,q⟩;exact⟨_,rfl,E _ d t h q x y (h.1.lt (by simp)) (iH h.2.1)⟩
structure N3(w0:ak)(f p o:kd)(m:Nat)(w:ak):Prop where
 k:aS w0 w
 F:Fw w f ba []
 P:Fw w p ba []
 O:Fw w o ba []
 b:w0.heap.size<=f.block/\f.block<p.block/\p.block<o.block/\o.block<m/\m<=w.heap.size
theorem N3.aH{w0 w w':ak}{f p o:kd}{m:Nat}(h:N3 w0 f p o m w)(q:aS w w'):N3 w0 f p o m w':=
 ⟨h.k.trans q,h.F.aH q,h.P.aH q,h.O.aH q,by have:=h.b;have:=q.size;omega⟩
theorem vw{w0 w:ak}{f p o d t:kd}{r1 r2 m n:Nat}{K:ay->ak->Prop}(h:N3 w0 f p o m w)(R:fL w d t [])(N:dY dM dZ w r1 (λ _=>none))(Q:dY dM mo w r2 (λ _=>none))
  (H:m<=d.block/\m<=t.block/\m<=r1/\m<=r2)(I:d.block<w.heap.size/\t.block<w.heap.size/\r1<w.heap.size/\r2<w.heap.size)(J:d.block≠r1/\d.block≠r2/\t.block≠r1/\t.block≠r2/\r1≠r2)
  (U:∀c W w',RF c->RL c->RO c->C1 c w0 (λ b=>b<w0.heap.size) w' W (jt eZ [])->K (aZ #[an (some W),aA]) w'):
  a_ w (.cells #[an (some f),an (some p),an (some o),ah aj 0,ah aj 0,ah aj 0,ah aj 0,ah aj 0,ah aj 0,ah aj 0,ah aG 0,ah aj 0,aa none 0 0,ah aG 0,ah aG 0,ah aG 0,ah aG 0,ah aG 0,ah aG 0,ah aG 0,ah aG 0,ah aG 0,ah aG 0,aa none 0 0,ah aG 0,ah aG 0,ah aG 0,ah aG 0,ah aG 0,ah aG 0,ah aG 0,ah aG 0,ah aG 0,ah aG 0,ah af 0,an none,an none,aC dk, .map (some r1),aa none 0 0, .map (some r2),aC dk,ah aj 0,ah aj 0,cG 420 (an (some d)),ah af 0, .func (.func 147) #[] #[]] 224) λ r G=>
  au ag 230 #[an (some ⟨r,0,none⟩)] G λ u y=>aM (ax u) λ v=>bb ag (C2 .neq 86 (br n) (bt aA) v aA) λ e=>aW (ax e) λ b=>aB b (K (aZ #[an none,v]) y) (K (aZ #[an (some ⟨r,0,none⟩),aA]) y):=by
 have E:=h.b;have q:=mkW h.k h.F h.P h.O R N Q E.1 E.2.1 E.2.2.1 E.2.2.2.1 H I J;change au _ _ _ _ _;refine aF (afr (c:=eW f p o d t r1 r2) q (by simp[ji])) ?_;rintro _ w1 ⟨rfl,q1⟩;refine⟨_,rfl,_,λ w=>cE _ w,_,rfl,aT rfl (U (eW f p o d t r1 r2) _ _ inferInstance inferInstance inferInstance ?_)⟩;have e:({ji with F:=ji.F++(be 4 3131758336++[2]),b1:=be 4 3131758336++[2]}:cF)=jt eZ []:=by
  have X:ic []=λ _=>none:=by
   funext x;simp[ic]
  unfold jt;rw[X];rfl
 rw[<-e];exact q1
theorem ajQ{w:ak}{nm:ByteArray}{K:ay->ak->Prop}(hn:nm.size<=100)(x:∀c W w',RF c->RL c->RO c->C1 c w (λ b=>b<w.heap.size) w' W (jt eZ [])->K (aZ #[an (some W),aA]) w'):Gm K nm (.func (.func 147) #[] #[]) w:=by
 unfold Gm;have k0:=bA w (.cells #[] 111);have s0:(w.alloc (.cells #[] 111)).heap.size=w.heap.size+1:=by simp
 dsimp only[a_];change au _ _ _ _ _;generalize w.alloc (.cells #[] 111)=w1 at*;refine aF Kj ?_;rintro _ w2 ⟨rfl,U,k2,s2⟩;refine⟨_,_,rfl,_,rfl,_,rfl,_,λ w=>cE _ w,_,rfl,aT rfl ⟨?_, ?_⟩⟩
 ·show nm.size+6<=_;omega
 refine aF Kj ?_;rintro _ w3 ⟨rfl,hP,X,s3⟩;refine⟨_,_,rfl,_,rfl,_,rfl,_,λ w=>cE _ w,_,rfl,aT rfl ⟨?_, ?_⟩⟩
 ·show nm.size+7<=_;omega
 refine aF Kj ?_;rintro _ y ⟨rfl,hO,k4,s4⟩;refine⟨_,_,rfl,_,rfl,_,rfl,_,λ w=>cE _ w,_,rfl,aT rfl ?_⟩;have R:N3 w ⟨w1.heap.size,0,none⟩ ⟨w2.heap.size,0,none⟩ ⟨w3.heap.size,0,none⟩ y.heap.size y:=⟨((k0.trans k2).trans X).trans k4,(U.aH X).aH k4,hP.aH k4,hO,by simp only;omega⟩;have hd:=R.aH (cu y);have sd:y.drew.heap.size=y.heap.size:=rfl;generalize y.drew=wd at*;generalize (⟨w1.heap.size,0,none⟩:kd)=f at*;generalize (⟨w2.heap.size,0,none⟩:kd)=p at*;generalize (⟨w3.heap.size,0,none⟩:kd)=o at*;clear R U hP hO;refine⟨?_, ?_, ?_⟩
 ·refine zH (λ w5 r1 m1 h l5 E=>⟨?_, ?_⟩)
  ·refine zI (λ I r2 m2 k6 G q=> ?_);refine zJ (λ J d t u k7 H m7 r Q=> ?_);have:=h.size;have:=k6.size;have:=k7.size;exact vw (((hd.aH h).aH k6).aH k7) u ((m1.aH k6).aH k7) (m2.aH k7) (by omega) (by omega) (by omega) x
  ·refine zJ (λ I d t u k6 G m6 q N=> ?_);refine zI (λ J r2 m2 k7 H r=> ?_);have:=h.size;have:=k6.size;have:=k7.size;exact vw (((hd.aH h).aH k6).aH k7) (u.aH k7) ((m1.aH k6).aH k7) m2 (by omega) (by omega) (by omega) x
 ·refine zI (λ w5 r2 m2 h l5 E=>⟨?_, ?_⟩)
  ·refine zH (λ I r1 m1 k6 G q=> ?_);refine zJ (λ J d t u k7 H m7 r Q=> ?_);have:=h.size;have:=k6.size;have:=k7.size;exact vw (((hd.aH h).aH k6).aH k7) u (m1.aH k7) ((m2.aH k6).aH k7) (by omega) (by omega) (by omega) x
  ·refine zJ (λ I d t u k6 G m6 q N=> ?_);refine zH (λ J r1 m1 k7 H r=> ?_);have:=h.size;have:=k6.size;have:=k7.size;exact vw (((hd.aH h).aH k6).aH k7) (u.aH k7) m1 ((m2.aH k6).aH k7) (by omega) (by omega) (by omega) x
 ·refine zJ (λ w5 d t u h l5 m5 E m5'=>⟨?_, ?_⟩)
  ·refine zH (λ I r1 m1 k6 G q=> ?_);refine zI (λ J r2 m2 k7 H r=> ?_);have:=h.size;have:=k6.size;have:=k7.size;exact vw (((hd.aH h).aH k6).aH k7) ((u.aH k6).aH k7) (m1.aH k7) m2 (by omega) (by omega) (by omega) x
  ·refine zI (λ I r2 m2 k6 G q=> ?_);refine zH (λ J r1 m1 k7 H r=> ?_);have:=h.size;have:=k6.size;have:=k7.size;exact vw (((hd.aH h).aH k6).aH k7) ((u.aH k6).aH k7) m1 (m2.aH k7) (by omega) (by omega) (by omega) x
theorem ajR{w:ak}{nm:ByteArray}(q:nm.size<=100):au ag 177 #[aV #[],aC nm, .func (.func 147) #[] #[]] w λ r w'=>∃c W,r=aZ #[an (some W),aA]/\RF c/\RL c/\RO c/\C1 c w (λ b=>b<w.heap.size) w' W (jt eZ []):=by
 apply aaQ;exact ajQ q (λ c W w' a b d h=>⟨c,W,rfl,a,b,d,h⟩)
theorem ajS{w:ak}{nm:ByteArray}(u:nm.size<=100):au ag 124 #[aV #[],aC nm] w λ r w'=>∃c W q,r=aZ #[an (some W),aA]/\RF c/\RL c/\RO c/\aS w q/\C1 c q (λ b=>b<q.heap.size) w' W (jt eZ []):=by
 apply aaL;unfold v124;have x:=bA w (.cells #[] 111);dsimp only[a_];change au _ _ _ _ _;refine aF (ajR u) ?_;rintro _ y ⟨c,W,rfl,a,b,d,h⟩;exact⟨_,_,rfl,_,rfl,_,rfl,c,W,_,rfl,a,b,d,x,h⟩
theorem U4{w:ak}:au ag 117 #[] w λ r w'=>r=aV #[]/\aS w w':=by
 apply abK;exact⟨rfl,bA _ _⟩
theorem k60{w:ak}:au ag 60 #[] w λ r w'=>∃c W q,r=aZ #[an (some W),aA]/\RF c/\RL c/\RO c/\aS w q/\C1 c q (λ b=>b<q.heap.size) w' W (jt eZ []):=by
 apply c60;unfold OO;refine aF U4 ?_;rintro _ w0 ⟨rfl,u⟩;refine⟨rfl, ?_⟩;refine aF (ajS (by decide)) ?_;rintro _ y ⟨c,W,q,rfl,a,b,d,x,h⟩;exact⟨_,_,rfl,_,rfl,_,rfl,c,W,q,rfl,a,b,d,u.trans x,h⟩
section
variable{c:WC}[RF c][RL c][RO c]{w0:ak}{Z:Nat->Prop}{w w':ak}{W:kd}{s:cF}
theorem U5{t:cK}(h:t=214\/t=215)(n:Nat)(w:ak):(C2 .neq t (br n) (bt (an none)) (an none) (an none)).run ag w= .ok (aQ false) w:=by
 rcases h with rfl|rfl<;>kernel_rfl
theorem ajU{t:cK}(h:t=214\/t=215)(n:Nat)(a:kd)(w:ak):(C2 .neq t (br n) (bt (an none)) (an (some a)) (an none)).run ag w= .ok (aQ true) w:=by
 rcases h with rfl|rfl<;>kernel_rfl
theorem k64{S:List Wd}{L:List bI}{R:List Nat}
  (x:au ag 125 #[an (some W),ah aG 3] w λ r w'=>r=aA/\∃s' T,C1 c w0 Z w' W s'/\s'.fN=false/\s'.eR=false/\s'.sym=some S/\jV S L s'.F R T):
  au ag 64 #[an (some W)] w λ r w'=>r=aA/\∃s' T,C1 c w0 Z w' W s'/\jV S L s'.F R T:=by
 apply c64;unfold OU;refine aF x ?_;rintro _ E ⟨rfl,s',T,h,hP,hO,K,J⟩;refine⟨_,rfl, ?_⟩;have u:∃z,at_ E (W.add 36) (an (some z)):=by
  obtain⟨tag,g,q⟩:=h;have G:=q.S;unfold qO at G;rw[K] at G;obtain⟨y,b,n,cc,ov,_,⟨z,N⟩,_⟩:=G;have:=q.eI 2 rfl;rw[N] at this;exact⟨z,this⟩
 obtain⟨z,u⟩:=u;have H:at_ E (W.add 1) (an none):=by
  have:=h.dP 1 rfl;rwa[hP] at this
 have I:at_ E (W.add 2) (an none):=by
  have:=h.dP 2 rfl;rwa[hO] at this
 refine⟨_,u,_,λ w=>ajU (.inr rfl) _ _ w,_,rfl,cJ rfl ⟨_,u, ?_⟩⟩;refine aF Sp ?_;rintro _ E ⟨rfl,rfl⟩;refine⟨_,rfl,_,λ w=>cE _ w,_,rfl,aT rfl ?_⟩;unfold Bv;refine⟨_,H,_,λ w=>U5 (.inl rfl) _ w,_,rfl,aT rfl ?_⟩;unfold Bu;refine⟨_,I,_,λ w=>U5 (.inl rfl) _ w,_,rfl,aT rfl ?_⟩;unfold Bt;refine⟨_,h.eM, ?_⟩;refine aF IA ?_;rintro _ E ⟨rfl,rfl⟩;exact⟨_,rfl,_,λ w=>cE _ w,_,rfl,aT rfl ⟨rfl,s',T,h,J⟩⟩
theorem k65(h:C1 c w0 Z w W s):au ag 65 #[an (some W)] w λ r w'=>(cz w r s.F/\∀b,aN r=some b->¬Z b)/\w'=w:=by
 apply c65;unfold OV;obtain⟨tag,g,q⟩:=h;obtain⟨⟨nm,y⟩,x,_,_⟩:=q.F;obtain⟨p,cc,e,_⟩:=x.ex;refine⟨_,q.eM, ?_⟩;refine⟨_,_,_,by rw[<-e];simpa using y.at 0 rfl,⟨?_,λ b u=>q.own b ?_⟩,rfl⟩
 ·have:=x.cV;rw[e] at this;exact this
 ·rw[<-e] at u;rw[(q.fg b u).2];decide
end
theorem ajX:∀{l:List iq} {t0:Int},yI l->(∀c∈l,c.1<18446744073709551616)->(∀h:0<l.length,t0<(l[0]).2.1)->ju t0 l:=by
 intro l;induction l with
 |nil=>intro t0 _ _ _;trivial
 |cons c cs K=>
  intro t0 h q H;obtain⟨r,u,y,_⟩:=h 0 (by simp);refine⟨H (by simp),r,u,y,q c (by simp),K (λ i hi=> ?_) (λ x J=>q x (by simp[J])) (λ I=> ?_)⟩
  ·obtain⟨b1,b2,E,G⟩:=h (i+1) (by simpa using hi);refine⟨by simpa using b1,by simpa using b2,by simpa using E,λ N Q=> ?_⟩;have R:i-1+1=i:=by omega
   have:=G (by omega) (by simp;omega);obtain⟨j,rfl⟩:∃j,i=j+1:=⟨i-1,by omega⟩;simpa using this
  ·have:=(h 1 (by simpa using I)).2.2.2 (by omega) (by simp);simpa using this
def DR(L:List bI):Prop:=∀x∈L,x.ref<18446744073709551616/\∀c∈x.chunks,c.1<18446744073709551616
theorem ajY{S:List Wd}{L:List bI}(y:ng L)(J:pG S L)(K:S.length<=200/\∀s∈S,s.length<=200)(U:DR L):dE S L:=by
 have r:∀x∈L,∃i,∃h:i<L.length,L[i]=x:=λ x q=>List.mem_iff_getElem.1 q
 refine⟨Sa J.1,K.1,K.2,y.1,λ x q=> ?_,J.2.2,λ x q=> ?_⟩
 ·obtain⟨i,hi,rfl⟩:=r x q;obtain⟨N,Q,R,E,G,H,u,I⟩:=y.2.1 i hi;exact⟨by omega,E,H,G⟩
 ·obtain⟨i,hi,rfl⟩:=r x q;obtain⟨N,Q,R,E,G,H,u,I⟩:=y.2.1 i hi;refine⟨I,ajX u (U _ q).2 (λ h=> ?_)⟩;have:=(u 0 h).2.1;omega
theorem ajZ:∀{l m:List Nat} {a b:Nat},Up a (l++m) b->∃c,Up a l c/\Up c m b:=by
 intro l;induction l with
 |nil=>intro m a b h;exact⟨a,rfl,h⟩
 |cons x l u=>
  intro m a b h;obtain⟨c,q,r⟩:=u h.2;exact⟨c,⟨h.1,q⟩,r⟩
def rn(A:List bI):eh:=(A.getLast?.map (·.labels)).getD []
def DS(A:List bI):Nat:=(A.getLast?.map (·.ref)).getD 0
theorem U6(A:List bI)(x:bI):rn (A++[x])=x.labels:=by simp[rn]
theorem U7(A:List bI)(x:bI):DS (A++[x])=x.ref:=by simp[DS]
theorem aj0{S:List Wd}{L A B:List bI}{x:bI}(I:ng L)(hr:pG S L)(q:L=A++x::B):DS A<=x.ref/\CF (ib x.labels) (ib (rn A))/\ia (rn A)/\(rn A).length<=100:=by
 have hi:A.length<L.length:=by rw[q];simp
 have J:L[A.length]=x:=by simp[q]
 obtain⟨N,E,r,Q,R,U,X,a8⟩:=I.2.1 _ hi;rw[J] at N E r Q R U X a8;by_cases H:A=[]
 ·subst H;have u:x.labels≠[]:=by rintro e;rw[e] at r;exact r rfl
  obtain⟨y,l,e⟩:=List.exists_cons_of_ne_nil u;refine⟨dO _, .inl ⟨y.1,y.2::ib l,by rw[e];rfl⟩,λ z hz=>(by cases hz),by simp[rn]⟩
 ·obtain⟨h,y,rfl⟩:∃h y,A=h++[y]:=⟨_,_,(List.dropLast_concat_getLast H).symm⟩;rw[U6,U7];have hj:h.length<L.length:=by rw[q];simp
  have K:L[h.length]=y:=by simp[q]
  have e1:(h++[y]).length-1=h.length:=by simp
  have b1:=E (by simp) (by omega);have b2:=hr.2.1 (h++[y]).length (by simp) hi (by omega);simp only[e1,K,J] at b1 b2;obtain⟨c1,c2,c3,c4,G,c6,c7,c8⟩:=I.2.1 _ hj;rw[K] at c4 G;exact⟨Nat.le_of_lt b1.1,aeD (by omega),G,by omega⟩
section
variable{c:WC}[RF c][RL c][RO c]{w0:ak}{Z Zc:Nat->Prop}{w w':ak}{W:kd}{s s':cF}{S:List Wd}{L A:List bI}{lc:Nat}
def zK(S:List Wd)(A:List bI)(lc:Nat)(s:cF):Prop:=Ki S A s/\s.ls=bh (rn A)/\s.lref=DS A/\s.lcref=lc
def pZ(S:List Wd)(A:List bI)(lc:Nat)(s:cF):Prop:=zK S A lc s\/(A=[]/\lc=0/\∃b1 dig,s=kv S b1 dig\/(S=[]/\s=jt b1 dig))
theorem U8(S:List Wd)(b1 dig:Wd):zK S [] 0 (Dn S b1 dig):=
 ⟨⟨rfl,rfl,rfl,rfl,rfl,rfl,rfl,rfl,rfl,rfl,rfl,rfl,rfl⟩,rfl,rfl,rfl⟩
theorem U9(hi:dE S L)(q:pZ S A lc s)(h:C1 c w0 Z w W s):au ag 125 #[an (some W),ah aG 2] w λ r w'=>r=aA/\∃s',zK S A lc s'/\C1 c w0 Z w' W s':=by
 have x:=hi.sl;have y:=hi.syms;rcases q with q|⟨rfl,rfl,b1,dig,rfl|⟨rfl,rfl⟩⟩
 ·refine aF (TY (n:=2) h q.1.stage) ?_;rintro _ u ⟨rfl,rfl⟩;exact⟨rfl,s,q,h⟩
 ·refine aF (ahp h (by omega) (by omega)) ?_;rintro _ u ⟨rfl,b1,h⟩;exact⟨rfl,_,U8 S b1 dig,h⟩
 ·refine aF (ahq h) ?_;rintro _ u ⟨rfl,b1,h⟩;exact⟨rfl,_,U8 [] b1 dig,h⟩
theorem aj1(hi:dE S L)(q:pZ S L lc s)(h:C1 c w0 Z w W s):au ag 125 #[an (some W),ah aG 3] w λ r w'=>r=aA/\∃s' T,C1 c w0 Z w' W s'/\s'.fN=false/\s'.eR=false/\s'.sym=some S/\jV S L s'.F (eC S (eB S) L) T:=by
 by_cases x:zK S L lc s
 ·exact ajO hi h x.1
 ·apply tX;unfold r6;have y:s.stage<2:=by
   rcases q with q|⟨_,_,b1,dig,rfl|⟨_,rfl⟩⟩
   ·exact absurd q x
   ·show 1<2;omega
   ·show 0<2;omega
  refine⟨_,h.dP 10 rfl,aT (by simp;omega) ⟨_,h.dP 10 rfl,cJ (by
   rw[decide_eq_true_iff,show aq aG (3-1)=2 by decide];omega) ?_⟩⟩
  refine aF (U9 hi q h) ?_;rintro _ E ⟨rfl,s',u,h'⟩;refine⟨_,rfl,_,λ w=>cE _ w,_,rfl,aT rfl ?_⟩;exact U1 hi h' u.1 (λ w' s' T h' a b c d=>⟨rfl,s',T,h',a,b,c,d⟩)
theorem aj2{B:List bI}{x:bI}{lend:Nat}{p:OA}{cc:Nat}(hi:dE S L)(hf:ng L)(hr:pG S L)(E:L=A++x::B)(I:pZ S A lc s)(h:C1 c w0 Z w W s)
  (hx:aX w0 4 (aa p x.chunks.length cc) x.chunks.length (x.chunks.flatMap dN))(hZ:∀y,aN (aa p x.chunks.length cc)=some y->Z y)(J:Up lc (x.chunks.map (·.1)) lend):
  au ag 62 #[an (some W),ah aj (x.ref:Int),mX x.labels,aa p x.chunks.length cc] w λ r w'=>r=aA/\∃s',pZ S (A++[x]) lend s'/\C1 c w0 Z w' W s':=by
 have u:x∈L:=by rw[E];simp
 obtain⟨p1,p2,p3,p4⟩:=aj0 hf hr E;have H:=hi.fQ x u;have G:=hi.gk x u;refine aF (k62 (P:=zK S A lc) (S:=S) (prev:=rn A) (lend:=lend) h (λ{Z' w} h'=>U9 hi I h') (λ s I=> ?_) hx hZ G.2 (by omega) (Int.le_refl _) H.2.2.2 (by omega) p3 p4 p2 (by have:=hi.sl;omega) (hi.sym x u)) ?_
 ·obtain⟨q,N,U,Q⟩:=I;refine⟨q.m1,λ n=> ?_, ?_,N,by omega,by rw[Q];exact J⟩
  ·have X:∀y∈A,(y.labels.map (·.1)).Nodup:=λ y K=>hi.names (by rw[E];simp[K])
   have:=(UT A (λ _=>none) n X).2.1;rw[q.m2];unfold lu;have e:=congrArg fZ E;rw[aY] at e;have:=hi.ll;simp only[Option.getD_none,Nat.zero_add] at*;omega
  ·have h1:=UX (S:=S) (L:=A) (F:=eB S) (λ y K=>hi.Kh (by rw[E];simp[K]));have R:=hi.Kg;have e:=congrArg fZ E;rw[aY] at e;have:=hi.ll;rw[q.F];omega
 ·rintro _ w' ⟨rfl,s',b1,b2,dig,⟨q,N,U,Q⟩,h'⟩;refine⟨rfl,{s' with F:=dr S s'.F x,m2:=gZ s'.m2 x.labels,b1:=b1,b2:=b2,dig:=dig,ls:=bh x.labels,lref:=x.ref,lcref:=lend}, .inl ⟨⟨?_,q.P,q.O,q.hP,q.hO,q.cnt,q.t0,q.t1,q.stage,q.m1, ?_,q.li,q.sym⟩, ?_, ?_,rfl⟩,h'⟩
  ·show dr S s'.F x=_;rw[q.F,ta];rfl
  ·show gZ s'.m2 x.labels=_;rw[q.m2];unfold lu;rw[List.foldl_append];rfl
  ·show bh x.labels=_;rw[U6]
  ·show x.ref=_;rw[U7]
end
theorem vA{w:ak}{h q c0 a b c:ay}{ty:cK}{K:Nat->ak->Prop}(ha:gj a)(hb:gj b)(hc:gj c)
  (hk:∀w',Ob w' ⟨w.heap.size,0,none⟩ [a,b,c]->aS w w'->w.heap.size<w'.heap.size->K w.heap.size w'):
  a_ w (.cells #[h,q,c0] ty) λ r R=>wr R (aw ⟨r,0,none⟩ 0) a λ U=>wr U (aw ⟨r,0,none⟩ 1) b λ Q=>wr Q (aw ⟨r,0,none⟩ 2) c λ w5=>K r w5:=by
 have H:=Ob.new w [h,q,c0] ty;have x:=bA w (.cells ⟨[h,q,c0]⟩ ty);have y:w.heap.size<(w.alloc (.cells ⟨[h,q,c0]⟩ ty)).heap.size:=H.lt (by simp);dsimp only[a_];change wr (w.alloc (.cells ⟨[h,q,c0]⟩ ty)) _ _ _;generalize w.alloc (.cells ⟨[h,q,c0]⟩ ty)=w1 at H x y;refine dB (m:=3) H (Fr.refl _ _) 0 (by simp) (by omega) _ ha (λ R I E=> ?_);refine dB I E 1 (by simp) (by omega) _ hb (λ U J G=> ?_);refine dB J G 2 (by simp) (by omega) _ hc (λ Q N u=> ?_);exact hk Q (by simpa using N) (Fr.new x u (λ b o X=>by rw[X.1];exact bB _)) (dR y u.size)
theorem Kl:gW ag 128 133 dN 4 40 [ah aj 0,aA,ah af 0,ah af 0]:=
 ⟨⟨by kernel_rfl,by kernel_rfl,rfl,by decide⟩,λ _=>rfl,λ x u h=>by simp[dN] at h;rcases h with rfl|rfl|rfl|rfl<;>rfl⟩
theorem Km(x:iq)(w:ak):(bw 128 1 #[(0,aV #[ah aj (x.1:Int),aA,ah af x.2.1,ah af x.2.2])]).run ag w= .ok (aa (some ⟨w.heap.size,0,none⟩) 1 1) (w.alloc (.cells ⟨dN x⟩ 133)):=by kernel_rfl
def bZ(w1:ak)(c0 c2 c4:kd)(b:Nat):Prop:=b<w1.heap.size/\b≠c0.block/\b≠c2.block/\b≠c4.block
structure rq(wm w1:ak)(c0 c2 c3 c4:kd)(S:List Wd)(L:List bI)(sp lp:OA)(sc lc:Nat):Prop where
 k:aS wm w1
 sy:dK wm (aa sp S.length sc) S
 se:im wm (aa lp L.length lc) L
 b:wm.heap.size<=c0.block/\wm.heap.size<=c2.block/\wm.heap.size<=c4.block
 c3:at_ w1 c3 (aa lp L.length lc)/\c3.block≠c0.block/\c3.block≠c2.block/\c3.block≠c4.block
 fit:ng L/\pG S L/\dE S L
def bT(c0 c2 c4:kd)(x4:ay)(k:Nat):List LT:=[aJ c2 [ah af (k:Int)],aJ c4 [x4],aJ c0 [ah af (-1)]]
section
variable{c:WC}[RF c][RL c][RO c]{w0 wm w1 w w':ak}{W c0 c2 c3 c4:kd}{s s':cF}{S:List Wd}{L A:List bI}{sp lp:OA}{sc lc:Nat}{x4:ay}{ts:List LT}{Z:Nat->Prop}
theorem QJ.Kn(q:QJ c w0 Z W (aJ a [v]::ts) w s)(u:ay):at_ w a v/\V.can w a/\QJ c w0 Z W (aJ a [u]::ts) (w.setCell a u) s:=by
 have h:Ob w a [v]:=q.get (t:=aJ a [v]) (by simp);have r:=h.at 0 rfl;have x:=h.can 0 (by simp);have y:=h.set 0 (by simp) u;rw[add_zero] at r x y;exact⟨r,x,q.ey (t':=aJ a [u]) (Fr.set w a u) (λ b o E=>E.1) y (λ b G=> .inl G)⟩
theorem rq.aH(e:rq wm w1 c0 c2 c3 c4 S L sp lp sc lc)(q:QJ c w1 (bZ w1 c0 c2 c4) W ts w s):aS wm w:=by
 obtain⟨_,_,p⟩:=q.inv;refine Fr.new e.k p.kp (λ b o r=> ?_);have u:=e.b;have x:=e.k.size;refine qq (λ h=>r ⟨by omega, ?_, ?_, ?_⟩)<;>omega
theorem rq.at3(e:rq wm w1 c0 c2 c3 c4 S L sp lp sc lc)(q:QJ c w1 (bZ w1 c0 c2 c4) W ts w s):at_ w c3 (aa lp L.length lc):=by
 obtain⟨_,_,p⟩:=q.inv;exact p.kp.at e.c3.1 (λ h=>h ⟨iH e.c3.1,e.c3.2⟩)
theorem Sl.Ko{α:Type}{enc:α->List ay}{z:Nat}{v:ay}{l:List α}(h:Sl enc z w v l)(q:aS w w'):Sl enc z w' v l:=aX.aH h q
theorem aj4{K:ay->ak->Prop}{b1 dig:Wd}(e:rq wm w1 c0 c2 c3 c4 S L sp lp sc lc)(q:QJ c w1 (bZ w1 c0 c2 c4) W (bT c0 c2 c4 x4 0) w (jt b1 dig))
  (hK:∀w s,pZ S [] 0 s->QJ c w1 (bZ w1 c0 c2 c4) W (bT c0 c2 c4 x4 S.length) w s->Bq K c0 c2 c4 (some W) lp L.length lc (L.length:Int) 0 w):
  Gh K c0 c2 c3 c4 (some W) sp S.length sc (S.length:Int) 0 w:=by
 obtain⟨hf,hr,hi⟩:=e.fit;have lx:=hi.sl;refine aaD (λ t0 t2 t3 t4 W' p' X U n i w'=>c0=t0/\c2=t2/\c3=t3/\c4=t4/\some W=W'/\sp=p'/\S.length=X/\sc=U/\n=(S.length:Int)/\∃(k:Nat) (b1 dig:Wd) (s:cF),i=(k:Int)/\k<=S.length/\(s=kv (S.take k) b1 dig\/(k=0/\s=jt b1 dig))/\QJ c w1 (bZ w1 c0 c2 c4) W (bT c0 c2 c4 x4 k) w' s) (λ _ _ _ _ _ _ _ _ n i _=>(n-i).toNat) ?_ ?_
 ·exact⟨rfl,rfl,rfl,rfl,rfl,rfl,rfl,rfl,rfl,0,b1,dig,_,rfl,by omega, .inr ⟨rfl,rfl⟩,q⟩
 ·rintro _ _ _ _ _ _ _ _ _ _ w ⟨rfl,rfl,rfl,rfl,rfl,rfl,rfl,rfl,rfl,k,b1,dig,s,rfl,hk,R,q⟩;unfold Gg;refine bn (λ H=> ?_) (λ H=> ?_)
  ·have u:k<S.length:=by simpa using H
   have hS:=Sl.Ko (w':=w) e.sy (e.aH q);refine pH hS k u rfl (λ a ha=>⟨_,ha, ?_⟩);have J:S[k]∈S:=iy u;have x:S.take (k+1)=S.take k++[S[k]]:=by rw[jm u]
   have y:∀{E:Nat->Prop},C1 c w E w W s->au ag 61 #[an (some W),aC (bs S[k])] w λ r w'=>r=aA/\∃b1,C1 c w E w' W (kv (S.take (k+1)) b1 dig):=by
    intro E h;have hx:=hi.sw _ J;rcases R with rfl|⟨rfl,rfl⟩
    ·rw[x];refine k61 h ?_ ?_ (by omega) ?_
     ·rw[<-x];exact List.Pairwise.sublist (List.take_sublist _ _) hi.ws
     ·rw[fS];omega
     ·have h1:=hi.syms;have N:((S.take k).flatMap b8).length<=(S.flatMap b8).length:=by
       conv=>rhs;rw[<-kC k S,jK,aY]
       omega
      omega
    ·rw[x];exact aht h (by omega)
   obtain⟨E,Q⟩:=q;refine aF (y Q.1.1) ?_;rintro _ w2 ⟨rfl,G,N⟩;have q2:=Q.step N;refine⟨_,rfl,_,λ w=>cE _ w,_,rfl,aT rfl ?_⟩;obtain⟨g1,g2,q3⟩:=q2.Kn (ah af ((k+1:Nat):Int));refine⟨_,g1,⟨trivial,g2⟩, ?_⟩;rw[show aq af ((k:Int)+1)=((k+1:Nat):Int) by rw[bk (by omega) (by omega)];omega];exact⟨⟨rfl,rfl,rfl,rfl,rfl,rfl,rfl,rfl,rfl,k+1,G,dig,_,rfl,by omega, .inl rfl,q3⟩,by omega⟩
  ·have I:k=S.length:=by simp at H;omega
   subst I;refine⟨_,_,_,e.at3 q, ?_⟩;refine hK w s (.inr ⟨rfl,rfl,b1,dig, ?_⟩) q;rcases R with rfl|⟨h0,rfl⟩
   ·exact .inl (by rw[fY])
   ·exact .inr ⟨List.eq_nil_of_length_eq_zero h0,rfl⟩
theorem aj5{K:ay->ak->Prop}{R:kd->kd->kd->OA->OA->Nat->Nat->Int->Int->ak->Prop}{B:List bI}{x:bI}{lc0 lend g:Nat}{U H I:OA}{E r tL tC:Nat}{J:Int}
  (e:rq wm w1 c0 c2 c3 c4 S L sp lp sc lc)(hL:L=A++x::B)(hs:pZ S A lc0 s)(kJ:Up lc0 (x.chunks.map (·.1)) lend)
  (h1:Sl db 2 wm (aa U x.labels.length E) x.labels)(h2:Sl ff 3 wm (aa H x.chunks.length r) x.chunks)
  (q:QJ c w1 (bZ w1 c0 c2 c4) W (aJ ⟨g,0,none⟩ [ah aj (x.ref:Int),aa U x.labels.length E,aa H x.chunks.length r]::bT c0 c2 c4 x4 (S.length+A.length)) w s)
  (hK:∀w s,pZ S (A++[x]) lend s->QJ c w1 (bZ w1 c0 c2 c4) W (bT c0 c2 c4 x4 (S.length+(A++[x]).length)) w s->R c0 c2 c4 (some W) I tL tC J ((A.length+1:Nat):Int) w):
  Ge K R c0 c2 c4 (some W) ⟨g,0,none⟩ none 0 0 I tL tC J (A.length:Int) H x.chunks.length r (x.chunks.length:Int) 0 w:=by
 obtain⟨hf,hr,hi⟩:=e.fit;have U_:x∈L:=by rw[hL];simp
 have jW:=(hi.gk x U_).1;refine aaB (λ t0 t2 t4 W' s' Q cL N p3 l3 cc3 n3 i3 pp LL CC n i w'=>c0=t0/\c2=t2/\c4=t4/\some W=W'/\⟨g,0,none⟩=s'/\I=p3/\tL=l3/\tC=cc3/\J=n3/\(A.length:Int)=i3/\H=pp/\x.chunks.length=LL/\r=CC/\n=(x.chunks.length:Int)/\∃k:Nat,i=(k:Int)/\k<=x.chunks.length/\k=cL/\QJ c w1 (bZ w1 c0 c2 c4) W (aO dN 4 (aa Q (x.chunks.take k).length N) (x.chunks.take k)::aJ ⟨g,0,none⟩ [ah aj (x.ref:Int),aa U x.labels.length E,aa H x.chunks.length r]::bT c0 c2 c4 x4 (S.length+A.length)) w' s) (λ _ _ _ _ _ _ _ _ _ _ _ _ _ _ _ _ n i _=>(n-i).toNat) ?_ ?_
 ·refine⟨rfl,rfl,rfl,rfl,rfl,rfl,rfl,rfl,rfl,rfl,rfl,rfl,rfl,rfl,0,rfl,by omega,rfl, ?_⟩;exact q.new (t:=aO dN 4 (aa none 0 0) ([]:List iq)) (aS.refl w) (Own.nil w 4) (λ b hb=>by cases hb)
 ·rintro _ _ _ _ _ Q _ N _ _ _ _ _ _ _ _ _ _ w ⟨rfl,rfl,rfl,rfl,rfl,rfl,rfl,rfl,rfl,rfl,rfl,rfl,rfl,rfl,k,rfl,hk,rfl,q⟩;have X:(x.chunks.take k).length=k:=by rw[fS];omega
  unfold Gd;refine bn (λ hc=> ?_) (λ hc=> ?_)
  ·have gU:k<x.chunks.length:=by simpa using hc
   have hC:=Sl.Ko (w':=w) h2 (e.aH q);refine yM hC k gU rfl (λ a a0 a1 a2=>⟨_,by simpa using a0,_,a1,_,a2, ?_⟩);refine vA trivial trivial trivial (λ w2 o2 k2 vg=> ?_);have q2:=q.aH k2;refine⟨_,by simpa using o2.at 0 rfl,_,o2.at 1 rfl,_,o2.at 2 rfl, ?_⟩;have hT:=X;rw[X] at q2;refine QJ.push (x:=x.chunks[k]) Kl (v:=aa Q k N) q2 (Km _ w2) (by rw[hT];omega) (by rw[hT];omega) (λ p cc w3 q3 _=> ?_);rw[show aq af ((k:Int)+1)=((k+1:Nat):Int) by rw[bk (by omega) (by omega)];omega];refine⟨⟨rfl,rfl,rfl,rfl,rfl,rfl,rfl,rfl,rfl,rfl,rfl,rfl,rfl,rfl,k+1,rfl,by omega,by rw[hT], ?_⟩,by omega⟩;rw[jm gU,aY,List.length_singleton];exact q3
  ·have gT:k=x.chunks.length:=by simp at hc;omega
   subst gT;have qd:=q.drew;have og:Ob w.drew ⟨g,0,none⟩ [ah aj (x.ref:Int),aa U x.labels.length E,aa H x.chunks.length r]:=qd.get (t:=aJ ⟨g,0,none⟩ _) (by simp);refine⟨_,by simpa using og.at 0 rfl,_,_,_,og.at 1 rfl, ?_⟩;have u:=hi.fQ x U_;have sJ:=Sl.Ko (w':=w.drew) h1 (e.aH qd);have hle:(bh x.labels).length<=1073741824:=by
    have:∀l:eh,ia l->(bh l).length<=402*l.length:=by
     intro l;induction l with
     |nil=>intro _;simp[bh]
     |cons y l ih=>
      intro h;have h1:=ih (λ z hz=>h z (by simp[hz]));have h2:=h y (by simp);rw[kK];simp only[aY,eK,dH];omega
    have:=this _ u.2.2.2;omega
   refine aF (k63 sJ u.1 u.2.2.1.2 u.2.2.2 (by omega) hle) ?_;rintro _ w3 ⟨rfl,k3⟩;have q3:=qd.aH k3;have og3:Ob w3 ⟨g,0,none⟩ [ah aj (x.ref:Int),aa U x.labels.length E,aa H x.chunks.length r]:=q3.get (t:=aJ ⟨g,0,none⟩ _) (by simp);refine⟨_,rfl,by simpa using og3.at 0 rfl, ?_⟩;have G:cP dN 4 w3 (aa Q (x.chunks.take x.chunks.length).length N) (x.chunks.take x.chunks.length):=q3.get (t:=aO dN 4 _ _) (by simp);rw[fY] at G;obtain⟨Zc,hq⟩:=q3;have hZ:∀y,aN (aa Q x.chunks.length N)=some y->Zc y:=λ y hy=>((hq.2.1 (aO dN 4 (aa Q (x.chunks.take x.chunks.length).length N) (x.chunks.take x.chunks.length)) (by simp)).2 y (by rw[fY];exact hy)).1
   refine aF (aj2 hi hf hr hL hs hq.1.1 G.cV hZ kJ) ?_;rintro _ w4 ⟨rfl,s',yj,h4⟩;have q4:=(hq.step h4).sub (us:=bT c0 c2 c4 x4 (S.length+A.length)) (by simp[bT]);refine⟨_,rfl,_,λ w=>cE _ w,_,rfl,aT rfl ?_⟩;obtain⟨g1,g2,q5⟩:=q4.Kn (ah af ((S.length+A.length+1:Nat):Int));have lx:=hi.sl;have Co:=hi.ll;have JR:=congrArg fZ hL;rw[aY,dH] at JR;refine⟨_,g1,⟨trivial,g2⟩, ?_⟩;rw[show aq af (((S.length+A.length:Nat):Int)+1)=((S.length+A.length+1:Nat):Int) by rw[bk (by omega) (by omega)];omega,
    show aq af ((A.length:Int)+1)=((A.length+1:Nat):Int) by rw[bk (by omega) (by omega)];omega]
   refine hK _ s' yj ?_;rw[aY,List.length_singleton];exact q5
end
section
variable{c:WC}[RF c][RL c][RO c]{w0 wm w1 w w':ak}{W c0 c1 c2 c3 c4:kd}{s s':cF}{S:List Wd}{L A:List bI}{sp lp:OA}{sc lc:Nat}{x4:ay}{ts:List LT}{Z:Nat->Prop}
def U'(w1:ak)(c0 c2 c4:kd)(S:List Wd)(L:List bI)(R:List Nat)(w':ak):Prop:=
 ∃v B T,Ob w' c0 [ah af (-1)]/\(∃k:Int,Ob w' c2 [ah af k])/\Ob w' c4 [v]/\cz w' v B/\(∀b,aN v=some b->w1.heap.size<=b)/\jV S L B R T/\Fr (λ b _=>¬bZ w1 c0 c2 c4 b) w1 w'
theorem aj8{K:ay->ak->Prop}(e:rq wm w1 c0 c2 c3 c4 S L sp lp sc lc)(R:pZ S [] 0 s)(q:QJ c w1 (bZ w1 c0 c2 c4) W (bT c0 c2 c4 x4 S.length) w s)
  (hK:∀w',U' w1 c0 c2 c4 S L (eC S (eB S) L) w'->K (aZ #[]) w'):
  Bq K c0 c2 c4 (some W) lp L.length lc (L.length:Int) 0 w:=by
 obtain⟨hf,hr,hi⟩:=e.fit;have Co:=hi.ll;obtain⟨H,J⟩:=hf.2.2;refine aaC (λ t0 t2 t4 W' p' L' C' n i w'=>c0=t0/\c2=t2/\c4=t4/\some W=W'/\lp=p'/\L.length=L'/\lc=C'/\n=(L.length:Int)/\∃(A B:List bI) (E:Nat) (s:cF),L=A++B/\i=(A.length:Int)/\pZ S A E s/\Up E (allRefs B) H/\QJ c w1 (bZ w1 c0 c2 c4) W (bT c0 c2 c4 x4 (S.length+A.length)) w' s) (λ _ _ _ _ _ _ _ n i _=>(n-i).toNat) ?_ ?_
 ·exact⟨rfl,rfl,rfl,rfl,rfl,rfl,rfl,rfl,[],L,0,s,rfl,rfl,R,J,q⟩
 ·rintro _ _ _ _ _ _ _ _ _ w ⟨rfl,rfl,rfl,rfl,rfl,rfl,rfl,rfl,A,B,E,s,G,rfl,R,kJ,q⟩;have I:=congrArg fZ G;rw[aY] at I;unfold Gf;cases B with
  |cons x B=>
   rw[dH] at I;refine cJ (by simp;omega) ?_;have vn:A.length<L.length:=by omega
   have hx:L[A.length]=x:=by simp[G]
   refine kq e.se A.length vn rfl (λ a P1 X P2 cc2 a0 a1 a2 h1 u=> ?_);rw[hx] at a0 a1 a2 h1 u;have hk:=e.aH q;refine⟨_,by simpa using hk.at a0,_,_,_,hk.at a1,_,_,_,hk.at a2, ?_⟩;refine vA trivial trivial trivial (λ w2 o2 k2 vg=> ?_);refine⟨_,_,_,o2.at 2 rfl, ?_⟩;have q2:=q.new (t:=aJ ⟨w.heap.size,0,none⟩ [ah aj (x.ref:Int),aa P1 x.labels.length X,aa P2 x.chunks.length cc2]) k2 o2 (λ b h=>by
    have gD:b=w.heap.size:=h;omega)
   obtain⟨lend,yL,uS⟩:=ajZ (l:=x.chunks.map (·.1)) (m:=allRefs B) kJ;refine aj5 e G R yL h1 u q2 (λ w s yj q'=>⟨⟨rfl,rfl,rfl,rfl,rfl,rfl,rfl,rfl,A++[x],B,lend,s,by rw[G,dx];rfl,by simp,yj,uS,q'⟩,by omega⟩)
  |nil=>
   rw[iA] at G;subst G;refine aT (by simp) ?_;obtain⟨Zc,hq⟩:=q;refine aF (k64 (aj1 hi R hq.1.1)) ?_;rintro _ w2 ⟨rfl,Q,T,u,hI⟩;have q2:=hq.step u;refine⟨_,rfl,_,λ w=>cE _ w,_,rfl,aT rfl ?_⟩;have q3:=q2.perm (us:=[aJ c4 [x4],aJ c2 [ah af ((S.length+L.length:Nat):Int)],aJ c0 [ah af (-1)]]) (d_ _ _ _);have hZc:∃r,C1 c w2 r w2 W Q/\(∀b,b<w1.heap.size->r b)/\r c4.block:=by
    obtain⟨r,hd⟩:=q3;refine⟨r,hd.1.1,λ b h=> ?_,((hd.2.1 (aJ c4 [x4]) (by simp)).2 _ rfl).1⟩;have hc:∀t∈[aJ c4 [x4],aJ c2 [ah af ((S.length+L.length:Nat):Int)],aJ c0 [ah af (-1)]],∀b,t.B b->r b:=λ t ht b h=>((hd.2.1 t ht).2 b h).1
    by_cases h0:b=c0.block
    ·exact hc (aJ c0 [ah af (-1)]) (by simp) b h0
    ·by_cases u:b=c2.block
     ·exact hc (aJ c2 [ah af ((S.length+L.length:Nat):Int)]) (by simp) b u
     ·by_cases h4:b=c4.block
      ·exact hc (aJ c4 [x4]) (by simp) b h4
      ·exact hd.1.2.1 b ⟨h,h0,u,h4⟩
   obtain⟨r,hd,hZd,hZ4⟩:=hZc;refine aF (k65 hd) ?_;rintro v _ ⟨⟨hv,N⟩,rfl⟩;obtain⟨p,cc,rfl,_⟩:=aX.ex hv;refine⟨_,_,_,rfl, ?_⟩;obtain⟨g1,g2,U⟩:=q3.Kn (aa p Q.F.length cc);refine⟨⟨trivial,g2⟩,hK _ ?_⟩;have nW:∀b,aN (aa p Q.F.length cc)=some b->w1.heap.size<=b:=λ b h=>Nat.le_of_not_lt (λ gU=>N b h (hZd b gU))
   have eY:aN (aa p Q.F.length cc)≠some c4.block:=λ h=>N _ h hZ4
   obtain⟨_,_,p4⟩:=U.inv;exact⟨_,_,T,U.get (t:=aJ c0 [ah af (-1)]) (by simp),⟨_,U.get (t:=aJ c2 [ah af ((S.length+L.length:Nat):Int)]) (by simp)⟩,U.get (t:=aJ c4 [aa p Q.F.length cc]) (by simp),aX.away hv (Fr.set _ _ _) (λ y hy o hS=>eY (by rw[hy,hS.1])),nW,hI,p4.kp⟩
theorem k59{x0:ay}(hk:aS wm w)(H:dK wm (aa sp S.length sc) S)(hL:im wm (aa lp L.length lc) L)(hf:ng L/\pG S L/\dE S L)
  (h0:Ob w c0 [x0])(h1:at_ w c1 (aa sp S.length sc))(h2:Ob w c2 [ah af 0])(h3:at_ w c3 (aa lp L.length lc))(h4:Ob w c4 [x4])
  (E:wm.heap.size<=c0.block/\wm.heap.size<=c2.block/\wm.heap.size<=c4.block)(hd:c0.block≠c2.block/\c0.block≠c4.block/\c2.block≠c4.block)
  (zl:c1.block≠c0.block)(Q:c3.block≠c0.block/\c3.block≠c2.block/\c3.block≠c4.block):
  au ag 59 #[an (some c0),an (some c1),an (some c2),an (some c3),an (some c4)] w λ r w'=>r=aZ #[]/\∃w1,w.heap.size<=w1.heap.size/\Fr (λ b _=>b=c0.block) w w1/\U' w1 c0 c2 c4 S L (eC S (eB S) L) w':=by
 apply c59;unfold v59;have s0:Ob (w.setCell c0 (ah af (-1))) c0 [ah af (-1)]:=by simpa using h0.set 0 (by simp) (ah af (-1))
 refine⟨⟨trivial,by simpa using h0.can 0 (by simp)⟩, ?_⟩;have f0:=Fr.set w c0 (ah af (-1));have y:Fr (λ b _=>b=c0.block) w (w.setCell c0 (ah af (-1))):=f0.mono (λ b o _ H=>H.1);have mY:aS wm (w.setCell c0 (ah af (-1))):=Fr.new hk y (λ b o H=>by rw[H];exact E.1);have a1:=y.at h1 zl;have a3:=y.at h3 Q.1;have a2:=h2.fr y (λ o _ _ H=>hd.1 H.symm);have a4:=h4.fr y (λ o _ _ H=>hd.2.1 H.symm);generalize w.setCell c0 (ah af (-1))=wa at*;refine aF k60 ?_;rintro _ w2 ⟨c,W,w1,rfl,i1,i2,i3,x,h⟩;refine⟨_,_,rfl,_,rfl,_,rfl,_,λ w=>cE _ w,_,rfl,aT rfl ?_⟩;obtain⟨_,_,p⟩:=id h;have tN:∀b,¬¬b<w1.heap.size↔b<w1.heap.size:=λ b=>Decidable.not_not
 have U:=(s0.aH x).lt (by simp);have X:=(a2.aH x).lt (by simp);have Kf:=(a4.aH x).lt (by simp);refine⟨_,_,_,p.kp.at (x.at a1) (λ J=>J (iH (x.at a1))), ?_⟩;have e:rq wm w1 c0 c2 c3 c4 S L sp lp sc lc:=⟨mY.trans x,H,hL,E,⟨x.at a3,Q⟩,hf⟩;have q:QJ c w1 (bZ w1 c0 c2 c4) W (bT c0 c2 c4 x4 0) w2 (jt eZ []):=by
  refine⟨λ b=>b<w1.heap.size,⟨h.ey,λ b E=>E.1,λ b E=>E.1,p.kp.mono (λ b o E J N=>J N.1)⟩, ?_, ?_⟩
  ·intro t ht;simp only[bT,dX,List.not_mem_nil,or_false] at ht;rcases ht with rfl|rfl|rfl
   ·exact⟨(a2.aH x).fr p.kp (λ o _ _ J=>J X),λ b E=>by have G:b=c2.block:=E;subst G;exact⟨X,λ N=>N.2.2.1 rfl⟩⟩
   ·exact⟨(a4.aH x).fr p.kp (λ o _ _ J=>J Kf),λ b E=>by have G:b=c4.block:=E;subst G;exact⟨Kf,λ N=>N.2.2.2 rfl⟩⟩
   ·exact⟨(s0.aH x).fr p.kp (λ o _ _ J=>J U),λ b E=>by have G:b=c0.block:=E;subst G;exact⟨U,λ N=>N.2.1 rfl⟩⟩
  ·unfold bT;refine iF.2 ⟨λ u R b K I=> ?_,iF.2 ⟨λ u R b K I=> ?_,List.pairwise_singleton _ _⟩⟩
   ·have e1:b=c2.block:=K;simp only[dX,List.not_mem_nil,or_false] at R;rcases R with rfl|rfl
    ·have e2:b=c4.block:=I;omega
    ·have e2:b=c0.block:=I;omega
   ·have e1:b=c4.block:=K;simp only[dX,List.not_mem_nil,or_false] at R;subst R;have e2:b=c0.block:=I;omega
 exact aj4 e q (λ w s hs q'=>aj8 e hs q' (λ w' ho=>⟨rfl,w1,eX y.size x.size,y.aH x,ho⟩))
end
theorem DT{f:ay}{w:ak}{K:ay->ak->Prop}(hd:∀w1 g,aS w w1->w.heap.size<=g->Ob w1 ⟨g,0,none⟩ [aQ false]->eJ ag f #[] w1 λ r q=>Ob q ⟨g,0,none⟩ [aQ false]/\∀u,Fr (λ b _=>b=g) q u->K (aQ true) u):
  au ag 35 #[f] w K:=by
 apply YI;unfold M5;have X:=Ob.new w [aQ false] 4;have h:=hd _ _ (bA w _) (bB _) X;dsimp only[a_];obtain⟨n,I,Q,R⟩:=h;refine⟨n,I,Q, ?_⟩;refine aF R ?_;rintro r q ⟨G,U⟩;have y:=G.set 0 (by simp) (aQ true);rw[add_zero] at y;have J:Fr (λ b _=>b=w.heap.size) q (q.setCell ⟨w.heap.size,0,none⟩ (aQ true)):=(Fr.set q ⟨w.heap.size,0,none⟩ _).mono (λ b o _ E=>E.1);refine⟨⟨trivial,by simpa using G.can 0 (by simp)⟩, ?_⟩;generalize q.setCell ⟨w.heap.size,0,none⟩ (aQ true)=u at*;refine agT (b:=true) (by simpa using y.at 0 rfl) (by simpa using y.can 0 (by simp)) ?_;have H:=y.set 0 (by simp) (aQ true);rw[add_zero] at H;have N:Fr (λ b _=>b=w.heap.size) u (u.setCell ⟨w.heap.size,0,none⟩ (aQ true)):=(Fr.set u ⟨w.heap.size,0,none⟩ _).mono (λ b o _ E=>E.1);exact⟨_,by simpa using H.at 0 rfl,U _ (J.step N (λ _ _ x _=>x))⟩
theorem ti{w:ak}{a:ay}{ty:cK}{K:Nat->ak->Prop}(h:∀w',Ob w' ⟨w.heap.size,0,none⟩ [a]->aS w w'->w'.heap.size=w.heap.size+1->K w.heap.size w'):a_ w (.cells #[a] ty) λ r q=>K r q:=
 h _ (Ob.new w [a] ty) (bA _ _) (by simp)
theorem akc{w:ak}{a b c d e:OA}{K:ay->ak->Prop}(h:au ag 59 #[an a,an b,an c,an d,an e] w K):eJ ag (.func (.func 59) #[] #[an a,an b,an c,an d,an e]) #[] w K:=⟨59,_,by kernel_rfl,h⟩
theorem k31{w:ak}{u v:ay}{S:List Wd}{L:List bI}(E:dK w u S)(hL:im w v L)(hf:ng L/\pG S L/\dE S L):
  au ag 31 #[u,v] w λ r w'=>∃x B T,r=aZ #[x,ah af (-1)]/\cz w' x B/\jV S L B (eC S (eB S) L) T/\aS w w':=by
 obtain⟨sp,sc,rfl,_⟩:=aX.ex E;obtain⟨lp,lc,rfl,_⟩:=hL.ex;apply c31;unfold v31;refine ti λ w1 o1 k1 z1=> ?_
 refine ti λ w2 o2 k2 z2=> ?_
 refine ti λ w3 o3 k3 z3=> ?_
 refine ti λ N o4 k4 z4=> ?_
 refine ti λ w5 o5 k5 z5=> ?_
 have Q:=Fr.set w5 ⟨N.heap.size,0,none⟩ (ah af 0);have o6:=o5.set 0 (by simp) (ah af 0);refine⟨⟨trivial,by simpa using o5.can 0 (by simp)⟩, ?_⟩;rw[add_zero] at o6;have k6:aS w (w5.setCell ⟨N.heap.size,0,none⟩ (ah af 0)):=Fr.new ((((k1.trans k2).trans k3).trans k4).trans k5) Q (λ b o E=>by rw[E.1];simp only;omega);have ne:∀{x:Nat},x≠N.heap.size->∀o,¬((x:Nat)=N.heap.size/\o=0):=λ h o E=>h E.1
 have o1:=((((o1.aH k2).aH k3).aH k4).aH k5).fr Q (λ o _ _ E=>by simp only at E;omega);have o2:=(((o2.aH k3).aH k4).aH k5).fr Q (λ o _ _ E=>by simp only at E;omega);have o3:=((o3.aH k4).aH k5).fr Q (λ o _ _ E=>by simp only at E;omega);have o4:=(o4.aH k5).fr Q (λ o _ _ E=>by simp only at E;omega);have z6:(w5.setCell ⟨N.heap.size,0,none⟩ (ah af 0)).heap.size=w5.heap.size:=by simp[nI]
 simp only[oU] at o6;generalize w5.setCell ⟨N.heap.size,0,none⟩ (ah af 0)=w6 at*;refine DT (λ w7 g k7 hg og=> ?_);apply akc;refine aF (k59 (wm:=w) (k6.trans k7) E hL hf (o4.aH k7) (by simpa using(o1.aH k7).at 0 rfl) (o6.aH k7) (by simpa using(o2.aH k7).at 0 rfl) (o3.aH k7) (by simp only;omega) (by simp only;omega) (by simp only;omega) (by simp only;omega)) ?_;rintro _ w8 ⟨rfl,wx,zL,K,v,B,T,p0,⟨k,p2⟩,p4,hv,lS,hI,X⟩;have lg:=og.lt (by simp);have k7s:=k7.size;have aq3:aS w w8:=by
  refine Fr.new (Fr.new (k6.trans k7) K (λ b o E=>by rw[E];simp only;omega)) X (λ b o hn=> ?_);refine qq (λ gU=>hn ⟨by have:=K.size;omega, ?_, ?_, ?_⟩)<;>simp only<;>omega
 have og8:Ob w8 ⟨g,0,none⟩ [aQ false]:=by
  have h1:=og.fr K (λ o _ _ E=>by simp only at E;omega);exact h1.fr X (λ o _ _ hn=>hn ⟨by simp only at lg⊢;omega,by simp only;omega,by simp only;omega,by simp only;omega⟩)
 refine⟨og8,λ I R=> ?_⟩;have J:∀b,aN v=some b->w7.heap.size<=b:=λ b hb=>eX zL (lS b hb)
 have G:=p0.fr R (λ o _ _ E=>by simp only at E;omega);have U:=p4.fr R (λ o _ _ E=>by simp only at E;omega);have H:cz I v B:=aX.away hv R (λ y hy o E=>by
  have:=J y hy;simp only at E lg;omega)
 have k9:aS w I:=Fr.new aq3 R (λ b o E=>by omega);have G:=G.aH (cu I);have U:=U.aH (cu I);have H:cz I.drew v B:=aX.aH H (cu I);have k9:=k9.trans (cu I);clear hv p0 p4 R;generalize I.drew=wd at*;obtain⟨q,cc,rfl,_⟩:=aX.ex H;refine⟨_,rfl,aT rfl ?_⟩;refine⟨_,_,_,by simpa using U.at 0 rfl,_,by simpa using G.at 0 rfl,⟨trivial,by simpa using U.can 0 (by simp)⟩, ?_⟩;have fa:=Fr.set wd ⟨w2.heap.size,0,none⟩ (aa q B.length cc);have ga:=U.set 0 (by simp) (aa q B.length cc);rw[add_zero] at ga;have G:=G.fr fa (λ o _ _ E=>by simp only at E;omega);have H:=aX.away H fa (λ y hy o E=>by
  have:=J y hy;have e:=E.1;simp only at e lg;omega)
 have k9:=Fr.new k9 fa (λ b o E=>by rw[E.1];simp only;omega);generalize wd.setCell ⟨w2.heap.size,0,none⟩ (aa q B.length cc)=we at*;refine⟨by simpa using G.at 0 rfl,⟨trivial,by simpa using G.can 0 (by simp)⟩, ?_⟩;have fb:=Fr.set we ⟨w3.heap.size,0,none⟩ (ah af (-1));have gb:=G.set 0 (by simp) (ah af (-1));rw[add_zero] at gb;have ga:=ga.fr fb (λ o _ _ E=>by simp only at E;omega);have H:=aX.away H fb (λ y hy o E=>by
  have:=J y hy;have e:=E.1;simp only at e lg;omega)
 have k9:=Fr.new k9 fb (λ b o E=>by rw[E.1];simp only;omega);generalize we.setCell ⟨w3.heap.size,0,none⟩ (ah af (-1))=wf at*;exact⟨_,_,_,by simpa using ga.at 0 rfl,_,by simpa using gb.at 0 rfl,_,B,T,rfl,H,hI,k9⟩
def TS(w0:ak)(ts:List LT)(w:ak):Prop:=aS w0 w/\(∀t∈ts,t.F w/\∀b,t.B b->w0.heap.size<=b/\b<w.heap.size)/\ts.Pairwise LT.ap
section
variable{w0 w w':ak}{ts:List LT}{t t':LT}
theorem TS.nil(h:aS w0 w):TS w0 [] w:=⟨h,by simp,List.Pairwise.nil⟩
theorem TS.aH(h:TS w0 ts w)(c:aS w w'):TS w0 ts w':=
 ⟨h.1.trans c,λ t q=>⟨t.st (h.2.1 t q).1 c (λ _ _ x=>x.elim),λ b r=>⟨((h.2.1 t q).2 b r).1,dR ((h.2.1 t q).2 b r).2 c.size⟩⟩,h.2.2⟩
theorem TS.drew(h:TS w0 ts w):TS w0 ts w.drew:=h.aH (cu w)
theorem TS.get(h:TS w0 ts w)(c:t∈ts):t.F w:=(h.2.1 t c).1
theorem TS.perm{us:List LT}(h:TS w0 ts w)(c:ts.Perm us):TS w0 us w:=
 ⟨h.1,λ t q=>h.2.1 t (c.mem_iff.2 q),(c.pairwise_iff (λ h=>LT.Uq h)).1 h.2.2⟩
theorem TS.sub{us:List LT}(h:TS w0 ts w)(c:us.Sublist ts):TS w0 us w:=
 ⟨h.1,λ t q=>h.2.1 t (c.subset q),h.2.2.sublist c⟩
theorem TS.tail(h:TS w0 (t::ts) w):TS w0 ts w:=h.sub (List.sublist_cons_self _ _)
theorem TS.ey{S:Nat->Nat->Prop}(h:TS w0 (t::ts) w)(E:Fr S w w')(K:∀b o,S b o->t.B b)(Q:t'.F w')(J:∀b,t'.B b->t.B b\/(w.heap.size<=b/\b<w'.heap.size)):TS w0 (t'::ts) w':=by
 obtain⟨N,I,hd⟩:=h;have G:=I t (by simp);have q:=iF.1 hd;have R:=N.size;refine⟨Fr.new N E (λ b o H=>(G.2 b (K b o H)).1),λ u r=> ?_,iF.2 ⟨λ u r b c y=> ?_,q.2⟩⟩
 ·rcases dX.1 r with rfl|r
  ·refine⟨Q,λ b c=> ?_⟩;rcases J b c with c|c
   ·exact⟨(G.2 b c).1,dR (G.2 b c).2 E.size⟩
   ·exact⟨by omega,c.2⟩
  ·have x:=I u (by simp[r]);exact⟨u.st x.1 E (λ b o H c=>q.1 u r b (K b o H) c),λ b c=>⟨(x.2 b c).1,dR (x.2 b c).2 E.size⟩⟩
 ·rcases J b c with c|c
  ·exact q.1 u r b c y
  ·have:=((I u (by simp[r])).2 b y).2;omega
theorem TS.new(h:TS w0 ts w)(J:aS w w')(I:t.F w')(H:∀b,t.B b->w.heap.size<=b/\b<w'.heap.size):TS w0 (t::ts) w':=by
 have r:TS w0 (⟨λ _=>False,λ _=>True,λ _ _ _=>trivial⟩::ts) w:=by
  obtain⟨y,E,G⟩:=h;refine⟨y,λ u q=> ?_,iF.2 ⟨λ u _ b c=>c.elim,G⟩⟩;rcases dX.1 q with rfl|q
  ·exact⟨trivial,λ b c=>c.elim⟩
  ·exact E u q
 exact r.ey J (λ b o x=>x.elim) I (λ b c=> .inr (H b c))
theorem TS.wr{a:kd}{cs:List ay}(q:TS w0 (aJ a cs::ts) w)(i:Nat)(hi:i<cs.length)(u:ay):V.can w (a.add i)/\TS w0 (aJ a (cs.set i u)::ts) (w.setCell (a.add i) u):=by
 have c:Ob w a cs:=q.get (t:=aJ a cs) (by simp);exact⟨c.can i hi,q.ey (t':=aJ a (cs.set i u)) (Fr.set w (a.add i) u) (λ b o h=>by rw[h.1,cT];rfl) (c.set i hi u) (λ b r=> .inl r)⟩
theorem TS.at{a:kd}{cs:List ay}(q:TS w0 ts w)(c:aJ a cs∈ts)(i:Nat){v:ay}(h:cs[i]? =some v):at_ w (a.add i) v:=(q.get c).at i h
theorem TS.ob{n:Nat}{cs:List ay}(q:TS w0 ts w)(x:Ob w' ⟨n,0,none⟩ cs)(r:aS w w')(y:n=w.heap.size)(u:w.heap.size<w'.heap.size):TS w0 (aJ ⟨n,0,none⟩ cs::ts) w':=
 q.new r x (λ b c=>by
  have h:b=n:=c;omega)
end
theorem akf{w w':ak}{b o:Nat}(h:view w' b o=view w b o){a:kd}{v:ay}(c:a.block=b)(q:a.off=o):at_ w' a v->at_ w a v:=by
 subst c;subst q;rw[v_,v_,h];exact id
theorem akg{w0 w:ak}{z n:Nat}{v:ay}{vs:List ay}(I:aS w0 w)(h:aX w z v n vs)(G:∀b,aN v=some b->b<w0.heap.size):aX w0 z v n vs:=by
 obtain⟨p,c,rfl,r,y,E⟩:=h;refine⟨p,c,rfl,r,y,λ j u H=> ?_⟩;obtain⟨a,rfl,J,q⟩:=E j u H;refine⟨a,rfl,J,akf (I.cell (a.add j).block (a.add j).off ?_ (λ x=>x)) rfl rfl q⟩;rw[cT];exact G a.block rfl
structure Bz(w0:ak)(b0:Option Nat)(v:ay)(l:Wd):Prop where
 eD:cz w0 v l
 aN:aN v=b0
 lt:∀b,b0=some b->b<w0.heap.size
 len:l.length<=1073741824
section
variable{w0 w w':ak}{b0:Option Nat}{v:ay}{l:Wd}{ts:List LT}{d:kd}
theorem Bz.now(h:Bz w0 b0 v l)(c:aS w0 w):cz w v l:=aX.aH h.eD c
theorem Bz.of(r:aS w0 w){v':ay}{l':Wd}(h:cz w v' l')(q:V.aN v'=b0)(c:∀b,b0=some b->b<w0.heap.size)(u:l'.length<=1073741824):Bz w0 b0 v' l':=
 ⟨akg r h (λ b e=>c b (by rw[<-q];exact e)),q,c,u⟩
def dF(d:kd)(v:ay):LT:=aJ d [v,aA]
theorem TS.zM(q:TS w0 (dF d v::ts) w)(h:Bz w0 b0 v l):dT w d v l:=by
 refine⟨q.get (t:=dF d v) (by simp),h.now q.1,λ e=> ?_,h.len⟩;have:=(q.2.1 (dF d v) (by simp)).2 d.block rfl;have:=h.lt d.block (by rw[<-h.aN];exact e);omega
theorem TS.dec{N:fz}{args:Array ay}{Q:ay->ak->Prop}{l':Wd}(q:TS w0 (dF d v::ts) w)(h:Bz w0 b0 v l)(I:l'.length<=l.length)
  (H:dT w d v l->au ag N args w λ r w'=>Q r w'/\gE w d v w' l'):
  au ag N args w λ r w'=>∃v',Bz w0 b0 v' l'/\TS w0 (dF d v'::ts) w'/\Q r w':=by
 refine aF (H (q.zM h)) ?_;rintro r w' ⟨J,v',c,x,y⟩;have u:=q.ey (t':=dF d v') x (λ b o E=>E.1) c.1 (λ b G=> .inl G);exact⟨v',Bz.of u.1 c.2.1 (y.trans h.aN) h.lt (eX I h.len),u,J⟩
theorem TS.fU(q:TS w0 (dF d v::ts) w)(h:Bz w0 b0 v l):au ag 105 #[an (some d)] w λ r w'=>r=aA/\w'=w:=Go.Proofs.fU (q.zM h)
theorem TS.jC(q:TS w0 (dF d v::ts) w)(h:Bz w0 b0 v l):au ag 107 #[an (some d)] w λ r w'=>r=ah af (l.length:Int)/\w'=w:=Go.Proofs.jC (q.zM h)
theorem TS.Cx(q:TS w0 (dF d v::ts) w)(h:Bz w0 b0 v l):au ag 115 #[an (some d)] w λ r w'=>r=v/\w'=w:=Go.Proofs.Cx (q.zM h)
theorem TS.kI{n:Nat}{l':Wd}(q:TS w0 (dF d v::ts) w)(h:Bz w0 b0 v (bm n++l'))(c:n<9223372036854775808):
  au ag 109 #[an (some d)] w λ r w'=>∃v',Bz w0 b0 v' l'/\TS w0 (dF d v'::ts) w'/\r=ah af (n:Int):=q.dec (l':=l') h (by simp) (λ hd=>Go.Proofs.kI iO hd c)
theorem TS.mh{n:Nat}{l':Wd}(q:TS w0 (dF d v::ts) w)(h:Bz w0 b0 v (bm n++l'))(c:n<18446744073709551616):
  au ag 111 #[an (some d)] w λ r w'=>∃v',Bz w0 b0 v' l'/\TS w0 (dF d v'::ts) w'/\r=ah aj (n:Int):=q.dec (l':=l') h (by simp) (λ hd=>Go.Proofs.mh iO hd c)
theorem TS.Cz{x:Int}{l':Wd}(q:TS w0 (dF d v::ts) w)(h:Bz w0 b0 v (bm (eO x)++l'))(c: -9223372036854775808<=x)(u:x<9223372036854775808):
  au ag 253 #[an (some d)] w λ r w'=>∃v',Bz w0 b0 v' l'/\TS w0 (dF d v'::ts) w'/\r=ah af x:=q.dec (l':=l') h (by simp) (λ hd=>Go.Proofs.Cz iO hd c u)
theorem TS.Cy{n:Nat}{l':Wd}(q:TS w0 (dF d v::ts) w)(h:Bz w0 b0 v (be 4 n++l'))(c:n<4294967296):
  au ag 108 #[an (some d)] w λ r w'=>∃v',Bz w0 b0 v' l'/\TS w0 (dF d v'::ts) w'/\r=ah aL (n:Int):=q.dec (l':=l') h (by simp) (λ hd=>Go.Proofs.Cy hd c)
theorem TS.yo{n:Nat}{l':Wd}(q:TS w0 (dF d v::ts) w)(h:Bz w0 b0 v (be 4 n++l'))(c:n<4294967296):
  au ag 160 #[an (some d)] w λ r w'=>∃v',Bz w0 b0 v' l'/\TS w0 (dF d v'::ts) w'/\r=ah af (n:Int):=q.dec (l':=l') h (by simp) (λ hd=>Go.Proofs.yo hd c)
theorem TS.qK{n:Nat}{l':Wd}(q:TS w0 (dF d v::ts) w)(h:Bz w0 b0 v (be 8 n++l'))(c:n<18446744073709551616):
  au ag 104 #[an (some d)] w λ r w'=>∃v',Bz w0 b0 v' l'/\TS w0 (dF d v'::ts) w'/\r=ah aj (n:Int):=q.dec (l':=l') h (by simp) (λ hd=>Go.Proofs.qK hd c)
theorem TS.mT{n:Nat}(q:TS w0 (dF d v::ts) w)(h:Bz w0 b0 v l)(c:n<=l.length):
  au ag 208 #[an (some d),ah af (n:Int)] w λ r w'=>∃v',Bz w0 b0 v' (l.drop n)/\TS w0 (dF d v'::ts) w':=by
 refine aF (q.dec (l':=l.drop n) (Q:=λ _ _=>True) h (by simp) (λ hd=>aF (Go.Proofs.mT hd c) (λ _ _ h=>⟨trivial,h⟩))) ?_;rintro _ w' ⟨v',a,b,_⟩;exact⟨v',a,b⟩
theorem TS.jD{s l':Wd}(q:TS w0 (dF d v::ts) w)(h:Bz w0 b0 v (b8 s++l')):
  au ag 110 #[an (some d)] w λ r w'=>∃v',Bz w0 b0 v' l'/\TS w0 (dF d v'::ts) w'/\Bz w0 b0 r s:=by
 refine aF (q.dec (l':=l') (Q:=λ r w'=>cz w' r s/\aN r=aN v) h (by simp) (λ hd=>aF (Go.Proofs.jD iO hd) (λ _ _ h=>⟨⟨h.1,h.2.1⟩,h.2.2⟩))) ?_;rintro r w' ⟨v',a,b,c,e⟩;have:=h.len;unfold b8 at this;simp only[aY] at this;exact⟨v',a,b,Bz.of b.1 c (e.trans h.aN) h.lt (by omega)⟩
theorem Bz.conv(h:Bz w0 b0 v l)(r:aS w0 w):(dq 26 9 v).run ag w= .ok (aC (bs l)) w:=by
 have q:=h.now r;obtain⟨p,c,rfl,_⟩:=aX.ex q;exact mU q
end
section
variable{w0 w w':ak}{b0:Option Nat}{v:ay}{l:Wd}{ts:List LT}{d:kd}
theorem Kp{x c:ay}{ty:cK}{K:Nat->ak->Prop}(q:TS w0 ts w)(G:gj v)(y:∀w',TS w0 (dF ⟨w.heap.size,0,none⟩ v::ts) w'->K w.heap.size w'):
  a_ w (.cells #[x,c] ty) λ r H=>wr H (aw ⟨r,0,none⟩ 0) v λ I=>wr I (aw ⟨r,0,none⟩ 1) aA λ J=>K r J:=
 Ji G trivial (λ w' E h u=>y w' (q.ob E h rfl u))
theorem k42{pre:Wd}{a b c e f g:Nat}{B:Wd}{p:OA}{cc:Nat}(q:TS w0 ts w)(h:Bz w0 b0 (aa p B.length cc) B)
  (hB:B=pre++(eu a b c e f g++be 4 (cI 0 (eu a b c e f g))))(hl:a<18446744073709551616/\b<18446744073709551616/\c<18446744073709551616/\e<18446744073709551616/\f<18446744073709551616/\g<18446744073709551616):
  au ag 42 #[cW (aa p B.length cc)] w λ r w'=>∃n,r=aZ #[an (some ⟨n,0,none⟩),aA]/\TS w0 (aJ ⟨n,0,none⟩ [ah aj (a:Int),ah aj (b:Int),ah aj (c:Int),ah aj (e:Int),ah aj (f:Int),ah aj (g:Int)]::ts) w':=by
 have u:(eu a b c e f g).length=48:=by unfold eu;simp only[aY,cH]
 have I:B.length=pre.length+52:=by rw[hB];simp only[aY,u,cH]
 have gQ:=h.len;have H:=uz (eu a b c e f g) (c:=0) (by omega);apply c42;unfold Pq;refine kU ⟨_,rfl,aT (by rw[decide_eq_false_iff_not];omega) ⟨⟨162,_,rfl,λ w=>by kernel_rfl⟩, ?_⟩⟩;refine kU ⟨_,rfl, ?_⟩;refine kU ⟨_,rfl, ?_⟩;have qd:=q.drew;rw[show aq af ((B.length:Int)-52)=((pre.length:Nat):Int) by rw[bk (by omega) (by omega)];omega];refine mi (h.now qd.1) (by omega) (by omega) (λ v1 G x=> ?_);have X:(eu a b c e f g++be 4 (cI 0 (eu a b c e f g))).length=52:=by rw[aY,u,cH]
 have e1:(B.drop pre.length).take (B.length-pre.length)=eu a b c e f g++be 4 (cI 0 (eu a b c e f g)):=by
  rw[I,hB,iz,lD];rw[X];omega
 rw[e1] at x;have y:(eu a b c e f g++be 4 (cI 0 (eu a b c e f g))).length=52:=by rw[aY,u,cH]
 obtain⟨p1,c1,rfl,Z⟩:=aX.ex (x _ (h.now qd.1));refine⟨_,_,_,rfl, ?_⟩;rw[y] at Z;dsimp only;rw[y,show aq af (((52:Nat):Int)-4)=((48:Nat):Int) by decide];refine⟨_,λ w=>gV (e:=5) (by kernel_rfl) (z:=1) (by kernel_rfl) p1 _ c1 48 _ (by omega) (by omega) _ none (.inr ⟨_,rfl⟩) (.inl ⟨rfl,rfl⟩) w,_,_,_,rfl, ?_⟩;have R:=qd.drew;have K:=x _ (h.now R.1);rw[y] at K;have J:=Cw K 48 (by rw[y];omega);rw[y,<-u,iz,<-iA (be 4 (cI 0 (eu a b c e f g))),u] at J;refine aF (sz J H) ?_;rintro _ w2 ⟨rfl,k2⟩;have q2:=R.aH k2;refine⟨_,rfl, ?_⟩;refine⟨_,λ w=>gV (e:=5) (by kernel_rfl) (z:=1) (by kernel_rfl) p1 _ c1 0 48 (dO _) (by omega) none _ (.inl ⟨rfl,rfl⟩) (.inr ⟨_,rfl⟩) w,_,_,_,rfl, ?_⟩;have E:Bz w0 b0 (aa (C4 p1 0 c1 1) (48-0) (c1-0)) (eu a b c e f g):=by
  have N:=x _ (h.now q2.1);rw[y] at N;have:=qJ N 0 48 (dO _) (by rw[y];omega);rw[nJ,T2,<-u,E2] at this;rw[u] at this;rw[y] at G;exact Bz.of q2.1 this ((mg _ _ _ _ _ _ _).trans (G.trans h.aN)) h.lt (by rw[u];omega)
 refine Kp q2 trivial (λ w3 q3=> ?_);refine aF sq ?_;rintro _ w4 ⟨t,rfl,jP,i_,ht,k4⟩;refine⟨_,rfl, ?_⟩;have q4:=q3.aH k4;refine aF (HV (q4.zM E) ht) ?_;rintro _ w4 ⟨rfl,rfl⟩;refine⟨_,rfl,aT (by simp) ?_⟩;unfold eu at E;obtain⟨l1,l2,l3,l4,l5,l6⟩:=hl;refine aF (q4.qK E l1) ?_;rintro _ w5 ⟨v5,h5,q5,rfl⟩;refine⟨_,rfl,aF (q5.qK h5 l2) ?_⟩;rintro _ w6 ⟨v6,h6,q6,rfl⟩;refine⟨_,rfl,aF (q6.qK h6 l3) ?_⟩;rintro _ w7 ⟨v7,h7,q7,rfl⟩;refine⟨_,rfl,aF (q7.qK h7 l4) ?_⟩;rintro _ w8 ⟨v8,h8,q8,rfl⟩;refine⟨_,rfl,aF (q8.qK h8 l5) ?_⟩;rintro _ w9 ⟨v9,h9,q9,rfl⟩;rw[<-iA (be 8 g)] at h9;refine⟨_,rfl,aF (q9.qK h9 l6) ?_⟩;rintro _ U ⟨v10,W,Jd,rfl⟩;refine⟨_,rfl, ?_⟩;have ho:=Ob.new U [ah aj (a:Int),ah aj (b:Int),ah aj (c:Int),ah aj (e:Int),ah aj (f:Int),ah aj (g:Int)] 103;have Q:=Jd.ob ho (bA _ _) rfl (ho.lt (by simp));dsimp only[a_];change au _ _ _ _ _;refine aF ((Q.perm (d_ _ _ _)).fU W) ?_;rintro _ gn ⟨rfl,rfl⟩;exact⟨_,rfl,U.heap.size,rfl,Q.sub (by simp)⟩
def iw(T:List (Wd×Wd×Nat))(i:Nat):Nat:=4+((T.take i).flatMap cX).length
theorem k43{B:Wd}{p:OA}{cc off:Nat}{rest:Wd}{T:List (Wd×Wd×Nat)}{f:ay}{J:Nat->List LT->Prop}{us ts:List LT}(h:Bz w0 b0 (aa p B.length cc) B)(hd:B.drop off=dh (eP T)++rest)(hT:T.length<=100000)
  (Dk:∀t∈T,t.1.length<=1000/\t.2.1.length<=1000/\t.2.2<4611686018427387904)
  (hf:∀(i:Nat) (hi:i<T.length) (us ts:List LT) (x y:ay) (w:ak),Bz w0 b0 x (T[i]).1->Bz w0 b0 y (T[i]).2.1->J i us->TS w0 (us++ts) w->eJ ag f #[x,y,ah aj ((T[i]).2.2:Int),ah af (iw T i:Int)] w λ r w'=>r=aA/\∃c,J (i+1) c/\TS w0 (c++ts) w')
  (W:J 0 us)(q:TS w0 (us++ts) w)(JO:off<=B.length):
  au ag 43 #[cW (aa p B.length cc),ah aj (off:Int),f] w λ r w'=>r=aA/\∃c,J T.length c/\TS w0 (c++ts) w':=by
 have U:=h.len;have jN:(eP T).length<=B.length:=by
  have:=congrArg fZ hd;rw[aY,pJ,hY] at this;omega
 have Kr:B.drop off=be 4 (eP T).length++(eP T++(be 4 (cI 0 (eP T))++rest)):=by
  rw[hd,dh];simp only[dx]
 apply c43;unfold Ps;refine aF sq ?_;rintro _ w1 ⟨t,rfl,jP,i_,ht,k1⟩;refine⟨_,rfl, ?_⟩;have R:=q.aH k1;rw[bk (by omega) (by omega)];refine aF (CD (h.now R.1) ht U Kr) ?_;rintro _ w2 ⟨v2,rfl,N,je,k2⟩;have q2:=R.aH k2;have G:Bz w0 b0 v2 (eP T):=Bz.of q2.1 N (je.trans h.aN) h.lt (by omega);obtain⟨p2,c2,rfl,_⟩:=aX.ex N;refine⟨_,_,_,_,rfl, ?_⟩;refine Kp q2 trivial (λ w3 q3=> ?_);refine aF (q3.jC G) ?_;rintro _ w3 ⟨rfl,rfl⟩;refine⟨_,rfl, ?_⟩;unfold eP at G;refine aF (q3.Cy G (by omega)) ?_;rintro _ w4 ⟨v4,hz4,q4,rfl⟩;refine⟨_,rfl, ?_⟩;have hlen:(eP T).length=4+(T.flatMap cX).length:=by unfold eP;rw[aY,cH]
 refine abO (λ f' d' sl cnt w'=>f=f'/\⟨w2.heap.size,0,none⟩=d'/\sl=((eP T).length:Int)/\∃(k:Nat) (v:ay) (us:List LT),k<=T.length/\cnt=((T.length-k:Nat):Int)/\J k us/\Bz w0 b0 v ((T.drop k).flatMap cX)/\TS w0 (dF ⟨w2.heap.size,0,none⟩ v::(us++ts)) w') (λ _ _ _ cnt _=>cnt.toNat) ?_ ?_
 ·exact⟨rfl,rfl,rfl,0,v4,us,by omega,by simp,W,hz4,q4⟩
 ·rintro _ _ _ _ w ⟨rfl,rfl,rfl,k,v,us,hk,rfl,hJ,H,q⟩;unfold GZ;refine aF (q.fU H) ?_;rintro _ w ⟨rfl,rfl⟩;refine⟨_,rfl,_,λ w=>pK _ w,_,rfl,cJ rfl ?_⟩;refine aF (q.jC H) ?_;rintro _ w ⟨rfl,rfl⟩;refine⟨_,rfl, ?_⟩;have u:k=T.length->sh (λ r w'=>r=aA/\∃c,J T.length c/\TS w0 (c++ts) w') ⟨w2.heap.size,0,none⟩ w:=by
   rintro rfl;unfold sh;refine aF (q.fU H) ?_;rintro _ w' ⟨rfl,rfl⟩;exact⟨_,rfl,rfl,us,hJ,q.tail⟩
  refine bn (λ _=>bn (λ I=> ?_) (λ I=>u (by simp at I;omega))) (λ I=>u ?_)
  ·have E:k<T.length:=by simp at I;omega
   obtain⟨t1,t2,t3⟩:=Dk _ (iy E);have hdk:(T.drop k).flatMap cX=cX (T[k])++(T.drop (k+1)).flatMap cX:=by rw[gS E,fG]
   unfold GY;refine aF (q.jC H) ?_;rintro _ w ⟨rfl,rfl⟩;refine⟨_,rfl, ?_⟩;have K:aq af (((eP T).length:Int)-(((T.drop k).flatMap cX).length:Int))=(iw T k:Int):=by
    have e:=congrArg (λ l=>(l.flatMap cX).length) (kC k T);simp only[jK,aY] at e;unfold iw;rw[bk (by omega) (by omega)];omega
   dsimp only;rw[K];have hte:∀X:Wd,cX (T[k])++X=bm 2++(b8 (T[k]).1++(b8 (T[k]).2.1++(bm (T[k]).2.2++X))):=λ X=>by
    unfold cX;simp only[dx]
   rw[hdk,hte] at H;refine aF (q.kI H (by omega)) ?_;rintro _ w1 ⟨v1,hz1,R,rfl⟩;refine⟨_,rfl,aT rfl ?_⟩;refine aF (R.jD hz1) ?_;rintro x wx ⟨vx,hzx,qx,hx⟩;obtain⟨xp,xc,rfl,_⟩:=aX.ex hx.eD;refine⟨_,_,_,rfl, ?_⟩;refine aF (qx.jD hzx) ?_;rintro y wy ⟨vy,hzy,qy,hy⟩;obtain⟨yp,yc,rfl,_⟩:=aX.ex hy.eD;refine⟨_,_,_,rfl, ?_⟩;refine aF (qy.mh hzy (by omega)) ?_;rintro _ wz ⟨vz,Q,qz,rfl⟩;refine⟨_,rfl, ?_⟩;refine aF (qz.fU Q) ?_;rintro _ wz ⟨rfl,rfl⟩;refine⟨_,rfl,_,λ w=>cE _ w,_,rfl,aT rfl ?_⟩;obtain⟨n,ar,e1,e2⟩:=hf k E us _ _ _ _ hx hy hJ (qz.perm gI.symm);refine⟨n,ar,e1,aF e2 ?_⟩;rintro _ w5 ⟨rfl,DU,Z,q5⟩;refine⟨_,rfl,_,λ w=>cE _ w,_,rfl,aT rfl ?_⟩;rw[show aq aL (((T.length-k:Nat):Int)-1)=((T.length-(k+1):Nat):Int) by rw[iY (by omega) (by omega)];omega];exact⟨⟨rfl,rfl,rfl,k+1,vz,DU,by omega,rfl,Z,Q,q5.perm gI⟩,by omega⟩
  ·have h0:((T.drop k).flatMap cX).length=0:=by rw[decide_eq_false_iff_not] at I;omega
   cases eZ:T.drop k with
   |nil=>
    have:=congrArg fZ eZ;rw[hY] at this;simp at this;omega
   |cons t r=>
    rw[eZ,fG,aY] at h0;have:0<(cX t).length:=by
     unfold cX;rw[aY];have:=jB 2;omega
    omega
end
abbrev cQ:=Wd×Nat
def gr(x:cQ):List ay:=[aC (bs x.1),ah af (x.2:Int)]
theorem Ks:gW ag 268 271 gr 2 24 [aC ⟨#[]⟩,ah af 0]:=
 ⟨⟨by kernel_rfl,by kernel_rfl,rfl,by decide⟩,λ _=>rfl,λ x u c=>by simp[gr] at c;rcases c with rfl|rfl<;>rfl⟩
theorem ako(x:cQ)(w:ak):(bw 268 1 #[(0,aV #[aC (bs x.1),ah af (x.2:Int)])]).run ag w= .ok (aa (some ⟨w.heap.size,0,none⟩) 1 1) (w.alloc (.cells ⟨gr x⟩ 271)):=by kernel_rfl
theorem akp(w:ak):(bw 268 0 #[]).run ag w= .ok (aa (some ⟨w.heap.size,0,none⟩) 0 0) (w.alloc (.cells #[] 271)):=by kernel_rfl
theorem ru:mS ag 192 9 268 .string:=⟨by kernel_rfl,by kernel_rfl⟩
structure PO(w:ak)(r:Nat)(h:Wd->Option dg)(m:Wd->Option (List cQ)):Prop where
 M:dY dM b9 w r h
 own:∀k t,h k=some t->∃l,m k=some l/\cP gr 2 w (b9 t) l
 kR:∀k,h k=none->m k=none
 ne:∀k t b,h k=some t->aN (b9 t)=some b->b≠r
 ap:∀k t c t' b,h k=some t->h c=some t'->aN (b9 t)=some b->aN (b9 t')=some b->k=c
def Kt(r:Nat)(h:Wd->Option dg)(b:Nat):Prop:=b=r\/∃k t,h k=some t/\aN (b9 t)=some b
def dI(r:Nat)(h:Wd->Option dg)(m:Wd->Option (List cQ)):LT:=
 ⟨Kt r h,λ w=>PO w r h m,λ p q u=>⟨p.M.fr q 0 (λ c=>u r 0 c (.inl rfl)),λ k t x=>by
  obtain⟨l,y,E⟩:=p.own k t x;exact⟨l,y,E.fr q (λ b G o c=>u b o c (.inr ⟨k,t,x,G⟩))⟩,p.kR,p.ne,p.ap⟩⟩
structure PX(w:ak)(r:Nat)(h:Wd->Option dg)(m:Wd->Option (List cQ))(k:Wd)(v:dg)(l:List cQ):Prop where
 M:dY dM b9 w r h
 own:∀c t,c≠k->h c=some t->∃l,m c=some l/\cP gr 2 w (b9 t) l
 kR:∀k,h k=none->m k=none
 ne:∀k t b,h k=some t->aN (b9 t)=some b->b≠r
 ap:∀k t c t' b,h k=some t->h c=some t'->aN (b9 t)=some b->aN (b9 t')=some b->k=c
 vo:cP gr 2 w (b9 v) l
 vb:∀b,aN (b9 v)=some b->b≠r/\∀c t,c≠k->h c=some t->aN (b9 t)≠some b
def tj(r:Nat)(h:Wd->Option dg)(m:Wd->Option (List cQ))(k:Wd)(v:dg)(l:List cQ):LT:=
 ⟨λ b=>Kt r h b\/aN (b9 v)=some b,λ w=>PX w r h m k v l,λ p u x=>⟨p.M.fr u 0 (λ c=>x r 0 c (.inl (.inl rfl))),λ k t H y=>by
  obtain⟨l,E,G⟩:=p.own k t H y;exact⟨l,E,G.fr u (λ b q o c=>x b o c (.inl (.inr ⟨k,t,y,q⟩)))⟩,p.kR,p.ne,p.ap,p.vo.fr u (λ b q o c=>x b o c (.inr q)),p.vb⟩⟩
section
variable{w0 w w':ak}{r:Nat}{h:Wd->Option dg}{m:Wd->Option (List cQ)}{ts:List LT}{k:Wd}{v:dg}{l:List cQ}
theorem nx{k:Wd}{b:Nat}(c:aN (b9 (iv (h k)))=some b):∃v,h k=some v/\aN (b9 v)=some b:=by
 cases q:h k with
 |none=>rw[q] at c;cases c
 |some v=>rw[q] at c;exact⟨v,rfl,c⟩
theorem PO.DF(p:PO w r h m)(k:Wd):cP gr 2 w (b9 (iv (h k))) ((m k).getD []):=by
 cases c:h k with
 |none=>
  rw[p.kR k c];exact Own.nil _ _
 |some v=>
  obtain⟨l,q,u⟩:=p.own k v c;rw[q];exact u
theorem p9(c:dY dM b9 w r h)(k:Wd):(dJ 192 (.map (some r)) (aC (bs k)) true).run ag w= .ok (aZ #[b9 (iv (h k)),aQ (h k).isSome]) w/\(dJ 192 (.map (some r)) (aC (bs k)) false).run ag w= .ok (b9 (iv (h k))) w:=by
 have:=pg ru sZ (z:=aa none 0 0) (λ w=>by kernel_rfl) c k;have e:(Option.map b9 (h k)).getD (aa none 0 0)=b9 (iv (h k)):=by
  unfold iv;cases h k<;>rfl
 rw[e] at this;exact this
theorem TS.po(q:TS w0 (dI r h m::ts) w):PO w r h m:=q.get (t:=dI r h m) (by simp)
theorem TS.px(q:TS w0 (tj r h m k v l::ts) w):PX w r h m k v l:=q.get (t:=tj r h m k v l) (by simp)
theorem TS.row{S:Nat->Nat->Prop}(q:TS w0 (dI r h m::ts) w)(R:Fr S w w')(W:∀b o,S b o->aN (b9 (iv (h k)))=some b)(X:cP gr 2 w' (b9 v) l)(J:aN (b9 v)=aN (b9 (iv (h k)))\/∃g,aN (b9 v)=some g/\w.heap.size<=g):
  TS w0 (tj r h m k v l::ts) w':=by
 have p:=q.po;have N:∀b,Kt r h b->b<w.heap.size:=λ b c=>((q.2.1 (dI r h m) (by simp)).2 b c).2
 have I:∀b o,S b o->b≠r/\∀x t,x≠k->h x=some t->aN (b9 t)≠some b:=λ b o H=>by
  obtain⟨v0,E,u⟩:=nx (W b o H);exact⟨p.ne k v0 b E u,λ x t y G c=>y (p.ap x t k v0 b G E c u)⟩
 have U:∀b,aN (b9 v)=some b->b≠r/\∀x t,x≠k->h x=some t->aN (b9 t)≠some b:=by
  intro b c;rcases J with e|⟨g,e,K⟩
  ·rw[e] at c;obtain⟨v0,E,u⟩:=nx c;exact⟨p.ne k v0 b E u,λ x t y G c=>y (p.ap x t k v0 b G E c u)⟩
  ·rw[e] at c;cases c;refine⟨λ e=> ?_,λ x t _ G Q=> ?_⟩
   ·have:=N r (.inl rfl);omega
   ·have:=N b (.inr ⟨x,t,G,Q⟩);omega
 refine q.ey (t':=tj r h m k v l) R (λ b o H=> ?_) ⟨p.M.fr R 0 (λ H=>(I r 0 H).1 rfl),λ x t y G=> ?_,p.kR,p.ne,p.ap,X,U⟩ (λ b c=> ?_)
 ·obtain⟨v0,E,u⟩:=nx (W b o H);exact .inr ⟨k,v0,E,u⟩
 ·obtain⟨l',Z,h2⟩:=p.own x t G;exact⟨l',Z,h2.fr R (λ b c o H=>(I b o H).2 x t y G c)⟩
 ·rcases c with c|c
  ·exact .inl c
  ·rcases J with e|⟨g,e,K⟩
   ·rw[e] at c;obtain⟨v0,E,u⟩:=nx c;exact .inl (.inr ⟨k,v0,E,u⟩)
   ·exact .inr ⟨by rw[e] at c;cases c;exact K,X.lt c⟩
theorem TS.putRow{K:ak->Prop}(q:TS w0 (tj r h m k v l::ts) w)(W:∀w',TS w0 (dI r (cU h k v) (cU m k l)::ts) w'->K w'):
  aP ag (do fF 192 (.map (some r)) (aC (bs k)) (b9 v);pure dU) w λ _ w'=>K w':=by
 have p:=q.px;obtain⟨w',Z,X,N⟩:=sn ru sZ p.M k v;have Q:(fF 192 (.map (some r)) (aC (bs k)) (b9 v)).run ag w= .ok () w':=Z;refine⟨dU,w',by simp[go_sem,Q,iV],W w' ?_⟩;refine q.ey (t':=dI r (cU h k v) (cU m k l)) N (λ b o J=>by rw[J];exact .inl (.inl rfl)) ⟨X,λ x t c=> ?_,λ x y=> ?_,λ x t b c u=> ?_,λ R t1 U t2 b E G b1 b2=> ?_⟩ (λ b u=> ?_)
 ·unfold cU at c⊢;by_cases e:x=k
  ·subst e;rw[if_pos rfl] at c⊢;cases c;exact⟨l,rfl,p.vo.fr N (λ b u o J=>(p.vb b u).1 J)⟩
  ·rw[if_neg e] at c⊢;obtain⟨l',E,G⟩:=p.own x t e c;exact⟨l',E,G.fr N (λ b u o J=>p.ne x t b c u J)⟩
 ·unfold cU at y⊢;by_cases e:x=k
  ·subst e;rw[if_pos rfl] at y;cases y
  ·rw[if_neg e] at y⊢;exact p.kR x y
 ·unfold cU at c;by_cases e:x=k
  ·rw[if_pos e] at c;cases c;exact(p.vb b u).1
  ·rw[if_neg e] at c;exact p.ne x t b c u
 ·unfold cU at E G;by_cases H:R=k<;>by_cases I:U=k
  ·rw[H,I]
  ·rw[if_pos H] at E;rw[if_neg I] at G;cases E;exact absurd b2 ((p.vb b b1).2 U t2 I G)
  ·rw[if_neg H] at E;rw[if_pos I] at G;cases G;exact absurd b1 ((p.vb b b2).2 R t1 H E)
  ·rw[if_neg H] at E;rw[if_neg I] at G;exact p.ap R t1 U t2 b E G b1 b2
 ·rcases u with u|⟨x,t,c,u⟩
  ·exact .inl (.inl (.inl u))
  ·unfold cU at c;by_cases e:x=k
   ·rw[if_pos e] at c;cases c;exact .inl (.inr u)
   ·rw[if_neg e] at c;exact .inl (.inl (.inr ⟨x,t,c,u⟩))
theorem TS.push{K:OA->Nat->Nat->ak->Prop}{x:cQ}(q:TS w0 (dI r h m::ts) w)(E:((m k).getD []).length<=1000)
  (u:∀w' p,p=some (⟨w.heap.size,0,none⟩:kd)->TS w0 (dI r h m::ts) w'->Sl gr 2 w' (aa p 1 1) [x]->K p 1 1 w'):
  aP ag (bw 268 1 #[(0,aV #[aC (bs x.1),ah af (x.2:Int)])]) w λ r y=>az (ax r) λ p n c=>K p n c y:=
 ⟨_,_,ako x w,_,_,_,rfl,u _ _ rfl (q.aH (bA _ _)) (aX.new w 2 (gr x) 271 1 1 rfl (bB _))⟩
theorem TS.app{K:OA->Nat->Nat->ak->Prop}{x:cQ}{p:OA}(q:TS w0 (dI r h m::ts) w)(Q:((m k).getD []).length<=1000)(I:Sl gr 2 w (aa p 1 1) [x])
  (G:∀p n c w',TS w0 (tj r h m k (p,n,c) ((m k).getD []++[x])::ts) w'->K p n c w'):
  aP ag (cM #[268,268] 268 #[b9 (iv (h k)),aa p 1 1]) w λ r N=>az (ax r) λ p n c=>K p n c N:=
 oi (enc:=gr) (l:=(m k).getD []) (m:=[x]) Ks (q.po.DF k) I (by simp;omega) (by simp;omega) (λ J cc R H E y=>
  G _ _ _ _ (q.row (v:=(J,((m k).getD []).length+[x].length,cc)) (E.mono (λ b o _ u=>u.1)) (λ b o u=>u) (by
   have e:((m k).getD []++[x]).length=((m k).getD []).length+[x].length:=by simp
   exact H) y))
end
abbrev kz:=(Wd->Option (List cQ))×Option (Wd×cQ)×Nat
def p_(m:Wd->Option (List cQ))(n:Wd)(x:cQ):Wd->Option (List cQ):=cU m n ((m n).getD []++[x])
def ly(m:Wd->Option (List cQ)):Option (Wd×cQ)->Wd->Option (List cQ)
 |none=>m
 |some y=>p_ m y.1 y.2
def jk(s:kz)(n:Wd):kz:=if(s.1 n).isSome then s else(ly (cU s.1 n []) s.2.1,s.2.1,0)
def iC(s:kz)(y:Wd×cQ):kz:=
 if(jk s y.1).2.2 % 32=0 then(p_ (jk s y.1).1 y.1 y.2,none,(jk s y.1).2.2+1) else((jk s y.1).1,some y,(jk s y.1).2.2+1)
section
variable{w0 w w':ak}{r:Nat}{h:Wd->Option dg}{m:Wd->Option (List cQ)}{ts:List LT}{k:Wd}{v:dg}{l:List cQ}{b0:Option Nat}
theorem TS.fq{pre post:List LT}{a:kd}{cs:List ay}(q:TS w0 (pre++aJ a cs::post) w)(i:Nat)(hi:i<cs.length)(u:ay):V.can w (a.add i)/\TS w0 (pre++aJ a (cs.set i u)::post) (w.setCell (a.add i) u):=by
 obtain⟨c,x⟩:=(q.perm gI).wr i hi u;exact⟨c,x.perm gI.symm⟩
def zN(w0:ak)(b0:Option Nat)(x5 x6:ay)(lo:Int):Option (Wd×cQ)->Prop
 |none=>x5=ba/\∃p n c,x6=aa p n c
 |some y=>y.1≠[]/\Bz w0 b0 x5 y.1/\Bz w0 b0 x6 y.2.1/\lo=(y.2.2:Int)
def uT(R c4 c5 c6 c7 c8:kd)(rc:List ay)(x5 x6:ay)(lo cnt:Int):List LT:=
 [aJ c4 [an (some R)],aJ R rc,aJ c5 [x5],aJ c6 [x6],aJ c7 [ah af lo],aJ c8 [ah af cnt]]
variable{R c4 c5 c6 c7 c8:kd}{rc:List ay}{x5 x6:ay}{lo cnt:Int}{last:Option (Wd×cQ)}
theorem Vb(t:cK)(c:t=26)(n:Nat)(x:ay)(w:ak)(q:x=ba):(C2 .neq t (br n) (bt (aa none 0 0)) x (aa none 0 0)).run ag w= .ok (aQ false) w:=by
 subst q;subst c;kernel_rfl
theorem Vc(n:Nat)(a:kd)(l c:Nat)(w:ak):(C2 .neq 26 (br n) (bt (aa none 0 0)) (aa (some a) l c) (aa none 0 0)).run ag w= .ok (aQ true) w:=by
 kernel_rfl
theorem Bz.some{v:ay}{l:Wd}(u:Bz w0 b0 v l)(y:l≠[]):∃a c,v=aa (some a) l.length c:=by
 obtain⟨p,c,rfl,E,G,q⟩:=u.eD;obtain⟨x,l',rfl⟩:=List.exists_cons_of_ne_nil y;obtain⟨a,rfl,_⟩:=q 0 (ah aG (x.toNat:Int)) rfl;exact⟨a,c,rfl⟩
theorem Vd{K:ay->ak->Prop}{cnt:Nat}(y:cnt<1000000)(q:TS w0 (dI r h m::(uT R c4 c5 c6 c7 c8 rc x5 x6 lo (cnt:Int)++ts)) w)
  (x:∀w',TS w0 (dI r h m::(uT R c4 c5 c6 c7 c8 rc x5 x6 lo ((cnt+1:Nat):Int)++ts)) w'->K aA w'):xP K c8 w:=by
 unfold xP;have e:=q.at (a:=c8) (cs:=[ah af (cnt:Int)]) (by simp[uT]) 0 rfl;rw[add_zero] at e;obtain⟨c,u⟩:=q.fq (pre:=[dI r h m,aJ c4 [an (some R)],aJ R rc,aJ c5 [x5],aJ c6 [x6],aJ c7 [ah af lo]]) (a:=c8) (cs:=[ah af (cnt:Int)]) 0 (by simp) (ah af ((cnt+1:Nat):Int));rw[add_zero] at c u;refine⟨_,e,⟨trivial,c⟩, ?_⟩;rw[show aq af ((cnt:Int)+1)=((cnt+1:Nat):Int) by rw[bk (by omega) (by omega)];omega];exact x _ u
theorem TS.gB(q:TS w0 (t::(uT R c4 c5 c6 c7 c8 rc x5 x6 lo cnt++ts)) w):at_ w c4 (an (some R)):=by
 have e:=q.at (a:=c4) (cs:=[an (some R)]) (by simp[uT]) 0 rfl;rwa[add_zero] at e
theorem TS.atR(q:TS w0 (t::(uT R c4 c5 c6 c7 c8 rc x5 x6 lo cnt++ts)) w){i:Nat}{v:ay}(c:rc[i]? =some v):at_ w (R.add i) v:=q.at (a:=R) (cs:=rc) (by simp[uT]) i c
theorem TS.nw(q:TS w0 (t::(uT R c4 c5 c6 c7 c8 rc x5 x6 lo cnt++ts)) w):at_ w c5 x5:=by
 have e:=q.at (a:=c5) (cs:=[x5]) (by simp[uT]) 0 rfl;rwa[add_zero] at e
theorem TS.mA(q:TS w0 (t::(uT R c4 c5 c6 c7 c8 rc x5 x6 lo cnt++ts)) w):at_ w c6 x6:=by
 have e:=q.at (a:=c6) (cs:=[x6]) (by simp[uT]) 0 rfl;rwa[add_zero] at e
theorem TS.vB(q:TS w0 (t::(uT R c4 c5 c6 c7 c8 rc x5 x6 lo cnt++ts)) w):at_ w c7 (ah af lo):=by
 have e:=q.at (a:=c7) (cs:=[ah af lo]) (by simp[uT]) 0 rfl;rwa[add_zero] at e
theorem TS.at8(q:TS w0 (t::(uT R c4 c5 c6 c7 c8 rc x5 x6 lo cnt++ts)) w):at_ w c8 (ah af cnt):=by
 have e:=q.at (a:=c8) (cs:=[ah af cnt]) (by simp[uT]) 0 rfl;rwa[add_zero] at e
theorem akq{K:ay->ak->Prop}{cnt off:Nat}{y:Wd×cQ}{nv vv:ay}{nP vP:OA}{nL nC vL vC:Nat}(G:nv=aa nP nL nC)(H:vv=aa vP vL vC)(U:rc[3]? =some (.map (some r)))(hc:cnt<1000000)(hm:((m y.1).getD []).length<=1000)
  (hn:Bz w0 b0 nv y.1)(hv:Bz w0 b0 vv y.2.1)(Z:off=y.2.2)(eY:y.1≠[]\/cnt % 32=0)(hx6:∃p n c,x6=aa p n c)
  (q:TS w0 (dI r h m::(uT R c4 c5 c6 c7 c8 rc x5 x6 lo (cnt:Int)++ts)) w)
  (hK:∀w' h' zO zP zQ (m':Wd->Option (List cQ)) (E:Option (Wd×cQ)),zN w0 b0 zO zP zQ E->(m',E)=(if cnt % 32=0 then(p_ m y.1 y.2,none) else(m,some y))->TS w0 (dI r h' m'::(uT R c4 c5 c6 c7 c8 rc zO zP zQ ((cnt+1:Nat):Int)++ts)) w'->K aA w'):
  uu K nP nL nC vP vL vC (off:Int) c4 c5 c6 c7 c8 w:=by
 subst Z;unfold uu;refine⟨_,q.at8, ?_⟩;have I:Int.tmod (cnt:Int) 32=((cnt % 32:Nat):Int):=by
  rw[Int.tmod_eq_emod_of_nonneg (by omega)];omega
 refine bn (λ u=> ?_) (λ u=> ?_)
 ·have h0:cnt % 32=0:=by
   rw[I] at u;simp at u;omega
  have N:=q.drew;have n0:=hn.conv N.1;have v0:=hv.conv N.1;rw[G] at n0;rw[H] at v0;refine⟨_,N.gB,_,N.atR U,_,n0,_,rfl,_,N.gB,_,N.atR U,_,n0,_,rfl,_,(p9 N.po.M y.1).2,_,_,_,rfl,_,v0,_,rfl, ?_⟩;refine N.push (x:=y.2) hm (λ w1 p _ J zL=> ?_);have n1:=hn.conv J.1;have v1:=hv.conv J.1;rw[G] at n1;rw[H] at v1;refine⟨v1,(p9 J.po.M y.1).2,n1,J.atR U,J.gB,n1,J.atR U,J.gB, ?_⟩;refine J.app (k:=y.1) hm zL (λ p' n' c' w2 Q=> ?_);have n2:=hn.conv Q.1;have v2:=hv.conv Q.1;rw[G] at n2;rw[H] at v2;refine⟨v2,n2,Q.atR U,Q.gB,n2,Q.atR U,Q.gB, ?_⟩;refine Q.putRow (λ w3 q3=> ?_);obtain⟨W,q4⟩:=q3.fq (pre:=[dI r _ _,aJ c4 [an (some R)],aJ R rc]) (a:=c5) (cs:=[x5]) 0 (by simp) ba;rw[add_zero] at W q4;refine⟨⟨trivial,W⟩, ?_⟩;obtain⟨X,q5⟩:=q4.fq (pre:=[dI r _ _,aJ c4 [an (some R)],aJ R rc,aJ c5 [ba]]) (a:=c6) (cs:=[x6]) 0 (by simp) ba;rw[add_zero] at X q5;refine⟨⟨trivial,X⟩, ?_⟩;exact Vd hc q5 (λ w' q6=>hK w' _ _ _ _ _ none ⟨rfl,_,_,_,rfl⟩ (by rw[if_pos h0];rfl) q6)
 ·have h0:cnt % 32≠0:=by
   rw[I] at u;simp at u;omega
  obtain⟨W,q4⟩:=q.fq (pre:=[dI r h m,aJ c4 [an (some R)],aJ R rc]) (a:=c5) (cs:=[x5]) 0 (by simp) nv;rw[add_zero] at W q4;refine⟨⟨trivial,W⟩, ?_⟩;rw[<-G];obtain⟨X,q5⟩:=q4.fq (pre:=[dI r h m,aJ c4 [an (some R)],aJ R rc,aJ c5 [nv]]) (a:=c6) (cs:=[x6]) 0 (by simp) vv;rw[add_zero] at X q5;refine⟨⟨trivial,X⟩, ?_⟩;rw[<-H];obtain⟨g3,q6⟩:=q5.fq (pre:=[dI r h m,aJ c4 [an (some R)],aJ R rc,aJ c5 [nv],aJ c6 [vv]]) (a:=c7) (cs:=[ah af lo]) 0 (by simp) (ah af (y.2.2:Int));rw[add_zero] at g3 q6;refine⟨⟨trivial,g3⟩, ?_⟩;exact Vd hc q6 (λ w' q7=>hK w' _ _ _ _ m (some y) ⟨eY.resolve_right h0,hn,hv,rfl⟩ (by rw[if_neg h0]) q7)
end
section
variable{w0 w w':ak}{r:Nat}{h:Wd->Option dg}{m:Wd->Option (List cQ)}{ts:List LT}{k:Wd}{v:dg}{l:List cQ}{b0:Option Nat}
variable{R c4 c5 c6 c7 c8:kd}{rc:List ay}{x5 x6:ay}{lo cnt:Int}{last:Option (Wd×cQ)}
def JT(w0:ak)(b0:Option Nat)(R c4 c5 c6 c7 c8:kd)(rc:List ay)(r:Nat)(s:kz)(us:List LT):Prop:=
 ∃h x5 x6 lo,zN w0 b0 x5 x6 lo s.2.1/\us=dI r h s.1::uT R c4 c5 c6 c7 c8 rc x5 x6 lo (s.2.2:Int)
theorem zN.sl{o:Option (Wd×cQ)}(h:zN w0 b0 x5 x6 lo o):(∃p n c,x5=aa p n c)/\∃p n c,x6=aa p n c:=by
 cases o with
 |none=>exact⟨⟨_,_,_,h.1⟩,h.2⟩
 |some y=>
  obtain⟨_,x,E,_⟩:=h;obtain⟨p,c,e,_⟩:=aX.ex x.eD;obtain⟨q,d,u,_⟩:=aX.ex E.eD;exact⟨⟨_,_,_,e⟩,_,_,_,u⟩
theorem PO.Ve(p:PO w r h m)(k:Wd):(h k).isSome=(m k).isSome:=by
 cases c:h k with
 |none=>rw[p.kR k c];rfl
 |some t=>
  obtain⟨l,q,_⟩:=p.own k t c;rw[q];rfl
theorem akr{s:kz}{y:Wd×cQ}{nv vv:ay}{po:Int}{us:List LT}(hn:Bz w0 b0 nv y.1)(hv:Bz w0 b0 vv y.2.1)(U:rc[3]? =some (.map (some r)))(hc:s.2.2<900000)(hm:∀k,((s.1 k).getD []).length<=900)(eY:y.1≠[]\/(jk s y.1).2.2 % 32=0)
  (hJ:JT w0 b0 R c4 c5 c6 c7 c8 rc r s us)(q:TS w0 (us++ts) w):
  au ag 206 #[nv,vv,ah aj po,ah af (y.2.2:Int),an (some c4),an (some c5),an (some c6),an (some c7),an (some c8)] w λ rr w'=>rr=aA/\∃G,JT w0 b0 R c4 c5 c6 c7 c8 rc r (iC s y) G/\TS w0 (G++ts) w':=by
 obtain⟨h,x5,x6,lo,hL,rfl⟩:=hJ;obtain⟨m,last,cnt⟩:=s;dsimp only at hc hm hL q;obtain⟨nP,nC,hnv,_⟩:=aX.ex hn.eD;obtain⟨vP,vC,DM,_⟩:=aX.ex hv.eD;subst hnv;subst DM;apply acm;unfold v206;have q:TS w0 (dI r h m::(uT R c4 c5 c6 c7 c8 rc x5 x6 lo (cnt:Int)++ts)) w:=q;have qd:=q.drew;refine⟨_,qd.gB,_,qd.atR U,_,hn.conv qd.1,_,rfl,_,(p9 qd.po.M y.1).1,_,_,rfl,_,_,_,rfl,_,rfl, ?_⟩;have Z:∀{w:ak} {h:Wd->Option dg} {m':Wd->Option (List cQ)} {E:Nat},(∃p n c,x6=aa p n c)->jk (m,last,cnt) y.1=(m',last,E)->E<1000000->((m' y.1).getD []).length<=1000->TS w0 (dI r h m'::(uT R c4 c5 c6 c7 c8 rc x5 x6 lo (E:Int)++ts)) w->
   uu (λ rr w'=>rr=aA/\∃G,JT w0 b0 R c4 c5 c6 c7 c8 rc r (iC (m,last,cnt) y) G/\TS w0 (G++ts) w') nP y.1.length nC vP y.2.1.length vC (y.2.2:Int) c4 c5 c6 c7 c8 w:=by
  intro w h m' E h6 K CI hm' q;rw[K] at eY;refine akq (y:=y) rfl rfl U CI hm' hn hv rfl eY h6 q (λ w' h' zO zP zQ m2 apZ vq he q'=> ?_);refine⟨rfl,dI r h' m2::uT R c4 c5 c6 c7 c8 rc zO zP zQ ((E+1:Nat):Int),⟨h',zO,zP,zQ, ?_, ?_⟩,q'⟩
  ·unfold iC;rw[K];dsimp only;have h2:=congrArg Prod.snd he;dsimp only at h2;split at he<;>rename_i u<;>(first|rw[if_pos u]|rw[if_neg u])<;>simp at he<;>(rw[he.2] at vq;exact vq)
  ·unfold iC;rw[K];dsimp only;split at he<;>rename_i u<;>(first|rw[if_pos u]|rw[if_neg u])<;>simp at he<;>rw[he.1]
 have yU:=q.po.Ve y.1;refine bn (λ u=> ?_) (λ u=> ?_)
 ·have N:(m y.1).isSome=false:=by
   rw[yU] at u;simpa using u
  have K:jk (m,last,cnt) y.1=(ly (cU m y.1 []) last,last,0):=by
   unfold jk;rw[if_neg (by rw[N];decide)]
  have hhn:h y.1=none:=by
   rw[<-Option.not_isSome_iff_eq_none,yU,N];decide
  have W:=qd.drew;refine⟨_,W.gB,_,W.atR U,_,hn.conv W.1,_,rfl,_,_,akp _,_,_,_,rfl, ?_⟩;have ka:=bA w.drew.drew (.cells #[] 271);have oa:=va w.drew.drew 2 271;have q1:=W.row (k:=y.1) (v:=(some ⟨w.drew.drew.heap.size,0,none⟩,0,0)) (l:=[]) ka (λ b o x=>x.elim) oa (.inr ⟨_,rfl,bB _⟩);generalize w.drew.drew.alloc (.cells #[] 271)=w1 at q1;refine⟨hn.conv q1.1,q1.atR U,q1.gB, ?_⟩;refine q1.putRow (λ w2 q2=> ?_);generalize cU h y.1 (some (⟨w.drew.drew.heap.size,0,none⟩:kd),0,0)=h2 at q2;have h6:∀{w:ak} {h:Wd->Option dg},TS w0 (dI r h (ly (cU m y.1 []) last)::(uT R c4 c5 c6 c7 c8 rc x5 x6 lo (cnt:Int)++ts)) w->
    xQ (λ rr w'=>rr=aA/\∃G,JT w0 b0 R c4 c5 c6 c7 c8 rc r (iC (m,last,cnt) y) G/\TS w0 (G++ts) w') nP y.1.length nC vP y.2.1.length vC (y.2.2:Int) c4 c5 c6 c7 c8 w:=by
   intro w h q;unfold xQ;obtain⟨g1,q'⟩:=q.fq (pre:=[dI r h (ly (cU m y.1 []) last),aJ c4 [an (some R)],aJ R rc,aJ c5 [x5],aJ c6 [x6],aJ c7 [ah af lo]]) (a:=c8) (cs:=[ah af (cnt:Int)]) 0 (by simp) (ah af ((0:Nat):Int));rw[add_zero] at g1 q';refine⟨⟨trivial,g1⟩,Z hL.sl.2 K (by omega) ?_ q'⟩;cases last with
   |none=>simp[ly,cU]
   |some z=>
    unfold ly p_ cU;dsimp only;split
    ·rename_i e;rw[if_pos e.symm];simp
    ·simp
  obtain⟨⟨p5,n5,Ku,e5⟩,p6,n6,c6',e6⟩:=hL.sl;have a5:=q2.nw;rw[e5] at a5;refine⟨_,_,_,a5, ?_⟩;cases last with
  |none=>
   have e:x5=ba:=hL.1;rw[e5] at e;refine⟨_,λ w=>Vb 26 rfl _ _ w e,_,rfl,aT rfl (h6 q2)⟩
  |some z=>
   obtain⟨z1,z2,z3,rfl⟩:=hL;obtain⟨za,zc,ez⟩:=z2.some z1;rw[e5] at ez;cases ez;refine⟨_,λ w=>Vc _ _ _ _ w,_,rfl,cJ rfl ?_⟩;have H:=q2.drew;have J:=H.nw;have X:=H.mA;rw[e5] at J z2;rw[e6] at X z3;have en:n6=z.2.1.length:=by
    obtain⟨_,_,e,_⟩:=aX.ex z3.eD;cases e;rfl
   subst en;refine⟨_,H.gB,_,H.atR U,_,_,_,J,_,z2.conv H.1,_,rfl,_,H.gB,_,H.atR U,_,_,_,J,_,z2.conv H.1,_,rfl,_,(p9 H.po.M z.1).2,_,_,_,rfl,_,_,_,X,_,z3.conv H.1,_,rfl,_,H.vB, ?_⟩;have lI:((cU m y.1 [] z.1).getD []).length<=900:=by
    unfold cU;split
    ·simp
    ·exact hm z.1
   refine H.push (k:=z.1) (x:=z.2) (by omega) (λ w4 p _ I zR=> ?_);have J:=I.nw;have X:=I.mA;rw[e5] at J;rw[e6] at X;refine⟨I.vB,z3.conv I.1,X,(p9 I.po.M z.1).2,z2.conv I.1,J,I.atR U,I.gB,z2.conv I.1,J,I.atR U,I.gB, ?_⟩;refine I.app (k:=z.1) (by omega) zR (λ p' n' c' w5 Q=> ?_);have J:=Q.nw;have X:=Q.mA;rw[e5] at J;rw[e6] at X;refine⟨Q.vB,z3.conv Q.1,X,z2.conv Q.1,J,Q.atR U,Q.gB,z2.conv Q.1,J,Q.atR U,Q.gB, ?_⟩;refine Q.putRow (λ w6 q6=> ?_);exact h6 q6
 ·have akv:(m y.1).isSome=true:=by
   rw[yU] at u;simpa using u
  exact Z hL.sl.2 (by unfold jk;rw[if_pos akv]) (by omega) (by have:=hm y.1;omega) qd
end
theorem Vg{i j:Nat}(h:i+j<=100000):aq af (cZ aj (aq aj (aq af ((i:Int)+(j:Int)))) 1)=(((i+j)/2:Nat):Int):=by
 rw[bk (x:=(i:Int)+(j:Int)) (by omega) (by omega),dV (by omega) (by omega)];have e:cZ aj ((i:Int)+(j:Int)) 1=((i:Int)+(j:Int)).fdiv 2:=rfl;rw[e,Int.fdiv_eq_ediv_of_nonneg _ (by omega),bk (by omega) (by omega)];omega
theorem Vh{w0 w:ak}{ts:List LT}{f:ay}{n:Nat}{pr:Nat->Bool}(U:n<=40000)(N:∀k,k<n->∀w,TS w0 ts w->eJ ag f #[ah af (k:Int)] w λ r w'=>r=aQ (pr k)/\TS w0 ts w')(q:TS w0 ts w):
  au ag 148 #[ah af (n:Int),f] w λ r w'=>(∃i:Nat,r=ah af (i:Int)/\i<=n/\(0<i->pr (i-1)=false))/\TS w0 ts w':=by
 apply Nd;unfold v148;refine Nc (λ J i j w'=>f=J/\∃a b:Nat,i=(a:Int)/\j=(b:Int)/\a<=b/\b<=n/\(0<a->pr (a-1)=false)/\TS w0 ts w') (λ _ i j _=>(j-i).toNat) ?_ ?_
 ·exact⟨rfl,0,n,rfl,rfl,by omega,by omega,by omega,q⟩
 ·rintro _ _ _ w ⟨rfl,a,b,rfl,rfl,R,K,h,q⟩;unfold A8;refine bn (λ u=> ?_) (λ u=>⟨⟨a,rfl,by omega,h⟩,q⟩);have Q:a<b:=by simp at u;omega
  rw[Vg (by omega)];obtain⟨g,G,H,I⟩:=N ((a+b)/2) (by omega) w q;refine⟨g,G,H,aF I ?_⟩;rintro _ w' ⟨rfl,E⟩;refine⟨_,rfl,bn (λ y=> ?_) (λ y=> ?_)⟩
  ·rw[show aq af ((((a+b)/2:Nat):Int)+1)=(((a+b)/2+1:Nat):Int) by rw[bk (by omega) (by omega)];omega];exact⟨⟨rfl,(a+b)/2+1,b,rfl,rfl,by omega,K,λ _=>by simpa using y,E⟩,by omega⟩
  ·exact⟨⟨rfl,a,(a+b)/2,rfl,rfl,by omega,by omega,h,E⟩,by omega⟩
section
variable{w0 w w':ak}{ts:List LT}{b0:Option Nat}{B:Wd}{p:OA}{cc:Nat}{c:kd}{cs:List ay}
theorem Vi{TAIL:Nat->ak->Prop}(q:TS w0 ts w)(hm:aJ c (cW (aa p B.length cc)::cs)∈ts)(h:Bz w0 b0 (aa p B.length cc) B)
  (hT:∀n v w',Bz w0 b0 v B->TS w0 (dF ⟨n,0,none⟩ v::ts) w'->TAIL n w'):
  aM (at_ w.drew c) λ v=>aM (at_ w.drew c) λ N=>gk ag v λ _=>
   (cS ag N "Len" #[] w.drew λ vm w9=>aD af (ax vm) λ W=>aK w9 c [v] 0 ((cS ag v "Range" #[ah af 0,ah af W] w9 λ X qU=>az (ax X) λ akw aq4 akx=>aK qU c [v] 0 (a_ qU (.cells #[aa none 0 0,aA] 182) λ E SN=>aK SN c [v] 0 (wr SN (aw ⟨E,0,none⟩ 0) (aa akw aq4 akx) λ zf=>wr zf (aw ⟨E,0,none⟩ 1) aA λ zg=>TAIL E zg)))/\(a_ w9 (.cells #[aa none 0 0,aA] 182) λ I jg=>aK jg c [v] 0 (cS ag v "Range" #[ah af 0,ah af W] jg λ vD gA=>az (ax vD) λ sV IT Z=>aK gA c [v] 0 (wr gA (aw ⟨I,0,none⟩ 0) (aa sV IT Z) λ Q=>wr Q (aw ⟨I,0,none⟩ 1) aA λ R=>TAIL I R)))))/\
   (a_ w.drew (.cells #[aa none 0 0,aA] 182) λ r w1=>aK w1 c [N] 0 (aK w1 c [v] 0 (cS ag N "Len" #[] w1 λ y8 w2=>aD af (ax y8) λ n=>aK w2 c [v] 0 (cS ag v "Range" #[ah af 0,ah af n] w2 λ IP w3=>az (ax IP) λ sP sL sC=>aK w3 c [v] 0 (wr w3 (aw ⟨r,0,none⟩ 0) (aa sP sL sC) λ w4=>wr w4 (aw ⟨r,0,none⟩ 1) aA λ w5=>TAIL r w5))))):=by
 have G:=q.drew;have U:∀{w},TS w0 ts w->at_ w c (cW (aa p B.length cc)):=λ q=>by
  have:=q.at hm 0 rfl;rwa[add_zero] at this
 have hz:(ah af 0)=ah af ((0:Nat):Int):=rfl;refine⟨_,U G,_,U G, ?_⟩;show(_:Prop)/\_;have J:∀{w:ak} {K:ay->ak->Prop},TS w0 ts w->(∀q c,Bz w0 b0 (aa q B.length c) B->K (aa q B.length c) w)->cS ag (cW (aa p B.length cc)) "Range" #[ah af 0,ah af (B.length:Int)] w K:=by
  intro w K q hk;refine mi (lo:=0) (hi:=B.length) (h.now q.1) (by omega) (by omega) (λ v Kv pW=> ?_);have hv:=pW _ (h.now q.1);rw[T2,nJ,fY] at hv;obtain⟨pq,cq,rfl,_⟩:=aX.ex hv;exact hk pq cq (Bz.of q.1 hv (Kv.trans h.aN) h.lt h.len)
 have fin:∀{w:ak} {n:Nat} {v:ay},gj v->TS w0 (aJ ⟨n,0,none⟩ [ba,aA]::ts) w->Bz w0 b0 v B->wr w (aw ⟨n,0,none⟩ 0) v λ Q=>wr Q (aw ⟨n,0,none⟩ 1) aA λ R=>TAIL n R:=by
  intro w n v h1 q H;obtain⟨g1,u⟩:=q.wr 0 (by simp) v;refine⟨⟨h1,g1⟩, ?_⟩;obtain⟨g2,q2⟩:=u.wr 1 (by simp) aA;exact⟨⟨trivial,g2⟩,hT n v _ H q2⟩
 have new:∀{w:ak},TS w0 ts w->TS w0 (aJ ⟨w.heap.size,0,none⟩ [ba,aA]::ts) (w.alloc (.cells ⟨[ba,aA]⟩ 182)):=λ{w} q=>
  q.ob (Ob.new w [ba,aA] 182) (bA _ _) rfl (by simp)
 have y:∀{w} {t:LT},TS w0 (t::ts) w->at_ w c (cW (aa p B.length cc)):=λ q=>U (q.sub (by simp))
 refine⟨?_, ?_⟩
 ·refine kU ⟨_,rfl,U G, ?_, ?_⟩
  ·refine J G (λ pq cq H=>⟨_,_,_,rfl,U G, ?_⟩);have u:=new G;refine⟨y u, ?_⟩;exact fin trivial u H
  ·have u:=new G;refine⟨y u, ?_⟩;refine J (u.sub (by simp)) (λ pq cq H=>⟨_,_,_,rfl,y u, ?_⟩);exact fin trivial u H
 ·have u:=new G;refine⟨y u,y u, ?_⟩;refine kU ⟨_,rfl,y u, ?_⟩;refine J (u.sub (by simp)) (λ pq cq H=>⟨_,_,_,rfl,y u, ?_⟩);exact fin trivial u H
variable{S:List Wd}{off:Nat}{x:Wd}{c1 c2:kd}{ov:ay}{po:OA}{lo co:Nat}
def ke(v:ay)(off:Nat)(po:OA)(lo co:Nat)(S:List Wd):List ay:=[cW v,ah af 2,ah af (off:Int),aa po lo co,ah af (S.length:Int)]
def zS(S:List Wd)(x:Wd)(k:Nat):Bool:=!(ds (S.getD (32*k) []) x||(S.getD (32*k) []==x))
theorem Vk(E:Sl kM 1 w0 (aa po lo co) (eQ S off))(y:aS w0 w){k:Nat}(h:32*k<S.length){K:kd->Prop}(r:∀a,at_ w a (ah af ((off+8+eV (S.take (32*k)):Nat):Int))->K a):aU po lo (k:Int) 1 K:=by
 have q:(eQ S off).length=(S.length+31)/32:=I0 S off;refine Sl.ix (enc:=kM) (z:=1) (l:=eQ S off) (λ _=>rfl) (by omega) (Sl.aH E y) (by omega) (by omega) (λ a _ u=>r a ?_);have:=u 0 _ rfl;rw[add_zero] at this;have e:(eQ S off)[((k:Nat):Int).toNat]'(by simp;omega)=off+8+eV (S.take (32*k)):=by
  simp only[fH];unfold eQ eV;simp
 rw[e] at this;exact this
theorem aky{rest:Wd}(q:TS w0 ts w)(h:Bz w0 b0 (aa p B.length cc) B)(hd:B.drop off=dh (cY S)++rest)(hs:Sl kM 1 w0 (aa po lo co) (eQ S off))(h1:aJ c1 (ke (aa p B.length cc) off po lo co S)∈ts)(h2:aJ c2 [aC (bs x)]∈ts){k:Nat}(W:32*k<S.length):
  au ag 249 #[ah af (k:Int),an (some c1),an (some c2)] w λ r w'=>r=aQ (zS S x k)/\TS w0 ts w':=by
 have hx:∀{w},TS w0 ts w->at_ w c2 (aC (bs x)):=λ q=>by
  have:=q.at h2 0 rfl;rwa[add_zero] at this
 have gQ:=h.len;apply acv;unfold Qj;refine Vi q h1 h (TAIL:=λ n Q=>az (at_ Q (aw c1 3)) λ J H C9=>aU J H (k:Int) 1 λ a=>aD af (at_ Q a) λ zT=>
  au ag 208 #[an (some ⟨n,0,none⟩),ah af zT] Q λ C_ w6=>bg (at_ w6.drew c2) λ s=>au ag 110 #[an (some ⟨n,0,none⟩)] w6.drew λ tk w7=>az (ax tk) λ K I G=>aK w7 c2 [aC s] 0 (au ag 209 #[aa K I G] w7 λ zU w8=>bg (ax zU) λ N=>aK w8 c2 [aC s] 0 (aQ (!((ds N.toList s.toList)||(N.toList==s.toList)))=aQ (zS S x k)/\TS w0 ts w8))) (λ n v Q hb q5=> ?_)
 have hq5:TS w0 ts Q:=q5.sub (by simp);refine⟨_,_,_,hq5.at h1 3 rfl,Vk hs q5.1 W (λ a ha=>⟨_,ha, ?_⟩)⟩;obtain⟨r,R⟩:=I' hd (32*k) (by omega);have Z:(S.drop (32*k))=S[32*k]::S.drop (32*k+1):=gS W;rw[Z,fG,dx] at R;have X:off+8+eV (S.take (32*k))<=B.length:=by
  by_cases hc:off+8+eV (S.take (32*k))<=B.length
  ·exact hc
  ·rw[List.drop_eq_nil_of_le (by omega)] at R;have:=congrArg fZ R;simp only[aY,b8,List.length_nil] at this;have:=jB (S[32*k]).length;omega
 refine aF (q5.mT hb X) ?_;rintro _ w6 ⟨v6,u,q6⟩;rw[R] at u;have E:=q6.drew;refine⟨_,hx (E.sub (by simp)), ?_⟩;refine aF (E.jD u) ?_;rintro y w7 ⟨v7,I5,U,hy⟩;obtain⟨yp,yc,rfl,_⟩:=aX.ex hy.eD;refine⟨_,_,_,rfl,hx (U.sub (by simp)), ?_⟩;obtain⟨_,_,_,Kx⟩:=u9 (hy.now U.1);refine aF Kx ?_;rintro _ w8 ⟨rfl,rfl⟩;refine⟨_,rfl,hx (U.sub (by simp)), ?_,U.sub (by simp)⟩;unfold zS;have e:S.getD (32*k) []=S[32*k]:=by rw[l8,gH W];rfl
 rw[e,eG,eG]
theorem Vl(G:WS S)(J:x∈S){j:Nat}(H:j<S.length):ds S[j] x=true↔j<bo S x:=by
 have E:=oH J;have r:S[bo S x]=x:=List.getElem_idxOf _;constructor
 ·intro h;rcases Nat.lt_trichotomy j (bo S x) with y|I|u
  ·exact y
  ·subst I;rw[r,nf] at h;cases h
  ·have q:=qt.1 G _ _ E H u;rw[r] at q;have:=uO h q;rw[nf] at this;cases this
 ·intro h;have q:=qt.1 G _ _ H E h;rwa[r] at q
theorem akA{w:ak}{i:Int}{a b:OA}{K:ay->ak->Prop}(h:au ag 249 #[ah af i,an a,an b] w K):eJ ag (.func (.func 249) #[] #[an a,an b]) #[ah af i] w K:=⟨249,_,by kernel_rfl,h⟩
theorem akB{rest:Wd}(q:TS w0 ts w)(h:Bz w0 b0 (aa p B.length cc) B)(hd:B.drop off=dh (cY S)++rest)(hs:Sl kM 1 w0 (aa po lo co) (eQ S off))(hlo:lo=(eQ S off).length)(hS:WS S)(lx:S.length<=100000)(hx:x∈S):
  au ag 207 #[aV #[cW (aa p B.length cc),ah af 2,ah af (off:Int),aa po lo co,ah af (S.length:Int)],aC (bs x)] w λ r w'=>r=aZ #[ah aL (bo S x:Int),aA]/\TS w0 ts w':=by
 subst hlo;have gQ:=h.len;have hix:=oH hx;have hlen:(eQ S off).length=(S.length+31)/32:=I0 S off;apply aco;unfold Qg;have o1:=Ob.new w (ke (aa p B.length cc) off po (eQ S off).length co S) 338;have q1:=q.ob o1 (bA _ _) rfl (o1.lt (by simp[ke]));dsimp only[a_];change az _ _;have o2:=Ob.new (w.alloc (.cells ⟨ke (aa p B.length cc) off po (eQ S off).length co S⟩ 338)) [aC (bs x)] 9;have q2:=q1.ob o2 (bA _ _) rfl (o2.lt (by simp));generalize DV:(w.alloc (.cells ⟨ke (aa p B.length cc) off po (eQ S off).length co S⟩ 338)).alloc (.cells ⟨[aC (bs x)]⟩ 9)=w2 at q2;generalize Di:(w.alloc (.cells ⟨ke (aa p B.length cc) off po (eQ S off).length co S⟩ 338)).heap.size=n2 at q2;have N:(w.alloc (.cells #[cW (aa p B.length cc),ah af 2,ah af (off:Int),(aa po (eQ S off).length co),ah af (S.length:Int)] 338)).alloc (.cells #[aC (bs x)] 9)=w2:=DV;have J:(w.alloc (.cells #[cW (aa p B.length cc),ah af 2,ah af (off:Int),(aa po (eQ S off).length co),ah af (S.length:Int)] 338)).heap.size=n2:=Di;rw[N,J];generalize fj:(⟨w.heap.size,0,none⟩:kd)=c1 at*;generalize kL:(⟨n2,0,none⟩:kd)=c2 at*;clear DV Di N J o1 o2 q1;have m1:aJ c1 (ke (aa p B.length cc) off po (eQ S off).length co S)∈aJ c2 [aC (bs x)]::aJ c1 (ke (aa p B.length cc) off po (eQ S off).length co S)::ts:=by simp
 have m2:aJ c2 [aC (bs x)]∈aJ c2 [aC (bs x)]::aJ c1 (ke (aa p B.length cc) off po (eQ S off).length co S)::ts:=by simp
 have e1:∀{w},TS w0 (aJ c2 [aC (bs x)]::aJ c1 (ke (aa p B.length cc) off po (eQ S off).length co S)::ts) w->at_ w (c1.add 3) (aa po (eQ S off).length co):=λ q=>q.at m1 3 rfl
 refine⟨_,_,_,e1 q2,aT (by rw[beq_eq_false_iff_ne];omega) ⟨_,_,_,e1 q2, ?_⟩⟩;have mW:(eQ S off).length<=40000:=by omega
 have rS:∀k,k<(eQ S off).length->32*k<S.length:=λ k H=>by omega
 refine aF (Vh (n:=(eQ S off).length) (pr:=zS S x) mW (λ k H w q=>akA (aky q h hd hs m1 m2 (rS k H))) q2) ?_;rintro _ w3 ⟨⟨i,rfl,hi,Kw⟩,q3⟩;refine⟨_,rfl, ?_⟩;refine Vi q3 m1 h (TAIL:=λ n w=>aB (decide ((i:Int)>0)) (mQ _ c1 c2 (aq af ((i:Int)-1)) ⟨n,0,none⟩ w) (mQ _ c1 c2 (i:Int) ⟨n,0,none⟩ w)) (λ n v w hb q=> ?_);have G:∀k:Nat,32*k<S.length->32*k<=bo S x->mQ (λ r w'=>r=aZ #[ah aL (bo S x:Int),aA]/\TS w0 ts w') c1 c2 (k:Int) ⟨n,0,none⟩ w:=by
  intro k H hkx;unfold mQ;refine⟨_,_,_,q.at (jI _ m1) 3 rfl,Vk hs q.1 H (λ a ha=>⟨_,ha, ?_⟩)⟩;obtain⟨r,hr⟩:=I' hd (32*k) (by omega);have hle:off+8+eV (S.take (32*k))<=B.length:=by
   by_cases u:off+8+eV (S.take (32*k))<=B.length
   ·exact u
   ·rw[List.drop_eq_nil_of_le (by omega),gS H,fG] at hr;have:=congrArg fZ hr;simp only[aY,b8,List.length_nil] at this;have:=jB (S[32*k]).length;omega
  refine aF (q.mT hb hle) ?_;rintro _ w4 ⟨v4,U,q4⟩;rw[hr] at U;rw[show aq af ((k:Int)*32)=((32*k:Nat):Int) by rw[bk (by omega) (by omega)];omega];refine acn (λ c1' Sk d Q ll ls w'=>c1=c1'/\c2=Sk/\⟨n,0,none⟩=d/\∃(j:Nat) (v:ay),Q=(j:Int)/\j<=bo S x/\Bz w0 b0 v ((S.drop j).flatMap b8++r)/\TS w0 (dF ⟨n,0,none⟩ v::aJ c2 [aC (bs x)]::aJ c1 (ke (aa p B.length cc) off po (eQ S off).length co S)::ts) w') (λ _ _ _ Q _ _ _=>(S.length-Q).toNat) ⟨rfl,rfl,rfl,32*k,v4,rfl,hkx,U,q4⟩ ?_;rintro _ _ _ _ ll ls w5 ⟨rfl,rfl,rfl,j,v5,rfl,hj,I,q5⟩;unfold Hc;refine aF (q5.fU I) ?_;rintro _ w5 ⟨rfl,rfl⟩;refine⟨_,rfl,_,λ w=>pK _ w,_,rfl,cJ rfl ?_⟩;refine⟨_,q5.at (jI _ m1) 4 rfl,cJ (by rw[decide_eq_true_iff];omega) ?_⟩;unfold Hb;refine aF (q5.jC I) ?_;rintro _ w5 ⟨rfl,rfl⟩;refine⟨_,rfl, ?_⟩;have Z:j<S.length:=by omega
  rw[gS Z,fG,dx] at I;refine aF (q5.jD I) ?_;rintro y w6 ⟨v6,W,R,hy⟩;obtain⟨yp,yc,rfl,_⟩:=aX.ex hy.eD;refine⟨_,_,_,rfl, ?_⟩;obtain⟨_,_,_,Kx⟩:=u9 (hy.now R.1);refine aF Kx ?_;rintro _ w6 ⟨rfl,rfl⟩;have a2:at_ w6 c2 (aC (bs x)):=by
   have:=R.at (jI _ m2) 0 rfl;rwa[add_zero] at this
  refine⟨_,rfl,_,a2, ?_⟩;have E:=Vl hS hx Z;refine bn (λ u=> ?_) (λ u=> ?_)
  ·have nW:¬j<bo S x:=λ gU=>by
    rw[eG,eG,E.2 gU] at u;cases u
   have X:j=bo S x:=by omega
   have hsx:S[j]=x:=by subst X;exact List.getElem_idxOf _
   unfold xS;refine aF (R.fU W) ?_;rintro _ w6 ⟨rfl,rfl⟩;refine⟨_,rfl,_,λ w=>cE _ w,_,rfl,aT rfl ⟨_,a2,aT ?_ ⟨_,R.at (jI _ m1) 1 rfl,aT rfl ⟨?_,R.tail.tail.tail⟩⟩⟩⟩
   ·rw[hsx];simp
   ·rw[iY (by omega) (by omega),X]
  ·have gU:j<bo S x:=by
    refine E.1 ?_;rw[eG,eG] at u;simpa using u
   rw[show aq af ((j:Int)+1)=((j+1:Nat):Int) by rw[bk (by omega) (by omega)];omega];exact⟨⟨rfl,rfl,rfl,j+1,v6,rfl,by omega,W,R⟩,by omega⟩
 refine bn (λ u=> ?_) (λ u=> ?_)
 ·have h0:0<i:=by simp at u;omega
  rw[show aq af ((i:Int)-1)=((i-1:Nat):Int) by rw[bk (by omega) (by omega)];omega];have H:32*(i-1)<S.length:=by omega
  refine G (i-1) H ?_;have K:=Kw h0;unfold zS at K;have e:S.getD (32*(i-1)) []=S[32*(i-1)]:=by rw[l8,gH H];rfl
  rw[e] at K;rw[Bool.not_eq_false',Bool.or_eq_true,beq_iff_eq] at K;rcases K with K|K
  ·exact Nat.le_of_lt ((Vl hS hx H).1 K)
  ·refine qq (λ hgt=> ?_);have h2:S[bo S x]=x:=List.getElem_idxOf _;have:=qt.1 hS _ _ hix H (by omega);rw[h2,K,nf] at this;cases this
 ·have h0:i=0:=by simp at u;omega
  subst h0;exact G 0 (by omega) (by omega)
end
end Go.Proofs
namespace Go.Proofs
open Go Go.V
def FL(s:kz):Wd->Option (List cQ):=ly s.1 s.2.1
def DW:kz:=(λ _=>none,none,0)
def DX(s:kz):Prop:=∀z,s.2.1=some z->(s.1 z.1).isSome
def tm:List cQ->List cQ
 |[]=>[]
 |y::c=>y::c.getLast?.toList
theorem vE{α β:Type}[DecidableEq α](f:α->Option β)(k:α)(v:β):cU f k v k=some v:=by simp[cU]
theorem DY{α β:Type}[DecidableEq α](f:α->Option β){k c:α}(v:β)(h:c≠k):cU f k v c=f c:=by simp[cU,h]
theorem Vn{α β:Type}[DecidableEq α](f:α->Option β)(k:α)(u v:β):cU (cU f k u) k v=cU f k v:=by
 funext x;unfold cU;split<;>rfl
theorem akH{α β:Type}[DecidableEq α](f:α->Option β){k c:α}(u v:β)(h:k≠c):cU (cU f k u) c v=cU (cU f c v) k u:=by
 funext x;unfold cU;by_cases q:x=k<;>by_cases r:x=c<;>simp[q,r]
 ·exact absurd (q.symm.trans r) h
 ·intro e;exact absurd e h
 ·intro e;exact absurd e.symm h
theorem akI{s:kz}{n:Wd}(h:FL s n=none):s.1 n=none:=by
 unfold FL at h;cases c:s.2.1 with
 |none=>rw[c] at h;exact h
 |some z=>
  rw[c] at h;have h:cU s.1 z.1 ((s.1 z.1).getD []++[z.2]) n=none:=h;by_cases e:n=z.1
  ·rw[e,vE] at h;cases h
  ·rwa[DY _ _ e] at h
theorem akJ{s:kz}{n:Wd}{y:cQ}(u:DX s)(h:s.1 n=none):iC s (n,y)=(cU (FL s) n [y],none,1):=by
 have e:jk s n=(cU (FL s) n [],s.2.1,0):=by
  unfold jk;rw[if_neg (by rw[h];decide)];unfold FL;cases r:s.2.1 with
  |none=>rfl
  |some z=>
   have q:=u z r;have c:n≠z.1:=by rintro rfl;rw[h] at q;cases q
   unfold ly p_;dsimp only;rw[DY _ _ (Ne.symm c),akH _ _ _ c]
 unfold iC;dsimp only;rw[e];dsimp only;rw[if_pos rfl];unfold p_;rw[vE,Vn];rfl
theorem akK{m:Wd->Option (List cQ)}{last:Option (Wd×cQ)}{c:Nat}{n:Wd}{y:cQ}(h:(m n).isSome)(q:0<c)(r:c<32):iC (m,last,c) (n,y)=(m,some (n,y),c+1):=by
 have e:jk (m,last,c) n=(m,last,c):=by unfold jk;rw[if_pos h]
 unfold iC;dsimp only;rw[e];dsimp only;rw[if_neg (by omega)]
theorem akL{m:Wd->Option (List cQ)}{n:Wd}(w:(m n).isSome):∀(q:List cQ) {last:Option (Wd×cQ)} {c:Nat},0<c->c+q.length<=32->
  (q.map λ z=>(n,z)).foldl iC (m,last,c)=(m,(match q.getLast? with|some z=>some (n,z)|none=>last),c+q.length):=by
 intro q;induction q with
 |nil=>intro last c _ _;rfl
 |cons z q x=>
  intro last c r u;rw[dH] at u;rw[hW,qo,akK w r (by omega),x (by omega) (by omega)];cases q with
  |nil=>rfl
  |cons y q=>
   simp only[List.getLast?_cons_cons,dH];rw[show c+1+(q.length+1)=c+(q.length+1+1) by omega];cases h:(y::q).getLast? with
   |none=>simp at h
   |some _=>rfl
theorem akM{s:kz}{n:Wd}{ys:List cQ}(E:DX s)(x:s.1 n=none)(r:ys≠[])(w:ys.length<=32):
  DX ((ys.map λ y=>(n,y)).foldl iC s)/\FL ((ys.map λ y=>(n,y)).foldl iC s)=cU (FL s) n (tm ys):=by
 obtain⟨y,h,rfl⟩:=List.exists_cons_of_ne_nil r;rw[dH] at w;rw[hW,qo,akJ E x,akL (by rw[vE];rfl) h (by omega) (by omega)];constructor
 ·intro z c;dsimp only at c⊢;cases q:h.getLast? with
  |none=>rw[q] at c;cases c
  |some u=>rw[q] at c;cases c;rw[vE];rfl
 ·show ly (cU (FL s) n [y]) _=_;show ly (cU (FL s) n [y]) (match h.getLast? with|some z=>some (n,z)|none=>none)=cU (FL s) n (y::h.getLast?.toList);cases q:h.getLast? with
  |none=>rfl
  |some u=>
   show cU (cU (FL s) n [y]) n ((cU (FL s) n [y] n).getD []++[u])=_;rw[vE,Vn];rfl
abbrev ry:=List (Wd×List cQ)
def kA(bs:ry):List (Wd×cQ):=bs.flatMap λ b=>b.2.map λ y=>(b.1,y)
def tn(bs:ry)(f:Wd->Option (List cQ)):Wd->Option (List cQ):=bs.foldl (λ f b=>cU f b.1 (tm b.2)) f
theorem akN:∀(bs:ry) {s:kz},DX s->(∀b∈bs,b.2≠[]/\b.2.length<=32)->(bs.map (·.1)).Nodup->(∀b∈bs,FL s b.1=none)->FL ((kA bs).foldl iC s)=tn bs (FL s):=by
 intro bs;induction bs with
 |nil=>intro s _ _ _ _;rfl
 |cons b bs G=>
  intro s E r hd u;rw[hW,aq9] at hd;obtain⟨x,y⟩:=r b (by simp);obtain⟨w,q⟩:=akM E (akI (u b (by simp))) x y;show FL ((b.2.map _++kA bs).foldl iC s)=tn bs (cU (FL s) b.1 (tm b.2));rw[List.foldl_append,G w (λ c h=>r c (by simp[h])) hd.2 (λ c h=> ?_),q];rw[q,DY _ _ (λ e=>hd.1 (dt.2 ⟨c,h,e⟩))];exact u c (by simp[h])
theorem akO:∀(bs:ry) {f:Wd->Option (List cQ)},(bs.map (·.1)).Nodup->(∀b∈bs,tn bs f b.1=some (tm b.2))/\∀n,n∉bs.map (·.1)->tn bs f n=f n:=by
 intro bs;induction bs with
 |nil=>intro f _;exact⟨by simp,λ n _=>rfl⟩
 |cons b bs x=>
  intro f hd;rw[hW,aq9] at hd;obtain⟨w,u⟩:=x (f:=cU f b.1 (tm b.2)) hd.2;refine⟨λ c q=> ?_,λ n r=> ?_⟩
  ·rcases dX.1 q with rfl|q
   ·show tn bs _ _=_;rw[u _ hd.1,vE]
   ·exact w c q
  ·rw[hW,dX] at r;show tn bs _ _=_;rw[u n (λ h=>r (.inr h)),DY _ _ (λ e=>r (.inl e))]
def lz(T:List (Wd×Wd×Nat)):List (Wd×cQ):=(lZ T.length).map λ i=>((T.getD i ([],[],0)).1,(T.getD i ([],[],0)).2.1,iw T i)
theorem DZ(T:List (Wd×Wd×Nat)):(lz T).length=T.length:=by simp[lz]
theorem Ky{T:List (Wd×Wd×Nat)}{i:Nat}(hi:i<T.length):(lz T)[i]? =some ((T[i]).1,(T[i]).2.1,iw T i):=by
 unfold lz;rw[List.getElem?_map,List.getElem?_range hi];have e:T.getD i ([],[],0)=T[i]:=by rw[l8,gH hi];rfl
 show some ((T.getD i ([],[],0)).1,(T.getD i ([],[],0)).2.1,iw T i)=_;rw[e]
theorem akP(T:List (Wd×Wd×Nat)):(lz T).map (λ y=>(y.1,y.2.1))=T.map λ t=>(t.1,t.2.1):=by
 apply List.ext_getElem?;intro i;rw[List.getElem?_map,List.getElem?_map];by_cases hi:i<T.length
 ·rw[Ky hi,gH hi]
  try rfl
 ·rw[List.getElem?_eq_none (by rw[DZ];omega),List.getElem?_eq_none (by omega)]
  try rfl
theorem akQ:∀(c:List (Wd×List Wd)) {D:List (Wd×cQ)},D.map (λ y=>(y.1,y.2.1))=c.flatMap (λ b=>b.2.map λ v=>(b.1,v))->∃bs:ry,D=kA bs/\bs.map (λ b=>(b.1,b.2.map (·.1)))=c:=by
 intro c;induction c with
 |nil=>intro D h;exact⟨[],List.map_eq_nil_iff.1 h,rfl⟩
 |cons b c H=>
  intro D h;rw[fG,List.map_eq_append_iff] at h;obtain⟨q,I,rfl,r,w⟩:=h;obtain⟨bs,rfl,x⟩:=H w;refine⟨(b.1,q.map (·.2))::bs, ?_, ?_⟩
  ·show _=(q.map (·.2)).map _++kA bs;rw[List.map_map];congr 1;have:∀y∈q,(λ y=>(b.1,y)) (y.2)=y:=by
    intro y G;have E:(y.1,y.2.1)∈b.2.map λ v=>(b.1,v):=by rw[<-r];exact dt.2 ⟨y,G,rfl⟩
    obtain⟨v,_,e⟩:=dt.1 E;exact Prod.ext (congrArg Prod.fst e:b.1=y.1) rfl
   conv=>lhs;rw[<-List.map_id q]
   exact(List.map_congr_left this).symm
  ·rw[hW,x];congr 1;refine Prod.ext rfl ?_;show(q.map (·.2)).map (·.1)=b.2;have u:=congrArg (List.map Prod.snd) r;rw[List.map_map,List.map_map] at u;rw[List.map_map];simpa[Function.comp_def] using u
theorem akR(s:kz)(y:Wd×cQ):(iC s y).2.2<=s.2.2+1/\∀k,∀N,(∀k,((s.1 k).getD []).length<=N)->(((iC s y).1 k).getD []).length<=N+2:=by
 have c:∀(m:Wd->Option (List cQ)) n x N,(∀k,((m k).getD []).length<=N)->∀k,(((p_ m n x) k).getD []).length<=N+1:=by
  intro m n x N h k;unfold p_ cU;split
  ·have:=h n;simp;omega
  ·have:=h k;omega
 have q:∀(m:Wd->Option (List cQ)) o N,(∀k,((m k).getD []).length<=N)->∀k,(((ly m o) k).getD []).length<=N+1:=by
  intro m o N h k;cases o with
  |none=>exact Nat.le_succ_of_le (h k)
  |some z=>exact c _ _ _ _ h k
 have r:(jk s y.1).2.2<=s.2.2/\∀N,(∀k,((s.1 k).getD []).length<=N)->∀k,(((jk s y.1).1 k).getD []).length<=N+1:=by
  unfold jk;split
  ·exact⟨bB _,λ N h k=>by have:=h k;omega⟩
  ·refine⟨dO _,λ N h k=>q _ _ N (λ k=> ?_) k⟩;unfold cU;split
   ·simp
   ·exact h k
 refine⟨?_,λ k N h=> ?_⟩
 ·unfold iC;split<;>(show _+1<=_;omega)
 ·have u:=r.2 N h;unfold iC;split
  ·exact c _ _ _ _ u k
  ·have:=u k;show(((jk s y.1).1 k).getD []).length<=_;omega
theorem akS:∀(D:List (Wd×cQ)) (s:kz) (N c:Nat),s.2.2<=c->(∀k,((s.1 k).getD []).length<=N)->(D.foldl iC s).2.2<=c+D.length/\∀k,(((D.foldl iC s).1 k).getD []).length<=N+2*D.length:=by
 intro D;induction D with
 |nil=>intro s N c q h;exact⟨by simpa using q,by simpa using h⟩
 |cons y D u=>
  intro s N c q h;obtain⟨w,r⟩:=akR s y;obtain⟨b1,b2⟩:=u (iC s y) (N+2) (c+1) (by omega) (λ k=>r k N h);rw[qo,dH];exact⟨by omega,λ k=>by have:=b2 k;omega⟩
end Go.Proofs
namespace Go.Proofs
open Go Go.V
attribute [local irreducible]cI be
section
theorem akT{w:ak}{q:OA}{Q:Nat}{l:List cQ}{K:OA->Nat->Nat->ak->Prop}(hx:Sl gr 2 w (aa q l.length Q) l)(hl:l.length<=1000)
  (hk:∀p c w',aS w w'->cP gr 2 w' (aa p l.length c) l->(∃g,aN (aa p l.length c)=some g/\w.heap.size<=g)->K p l.length c w'):
  aP ag (kS 268 (ah af ((l.length:Nat):Int)) (ah af ((l.length:Nat):Int))) w λ r w3=>az (ax r) λ sP sL sC=>
   aP ag (mF #[268,268] 3 #[aa sP sL sC,aa q l.length Q]) w3 λ r4 w4=>aD af (ax r4) λ _=>K sP sL sC w4:=by
 obtain⟨W,i,zv,hi,hs,hb,hz,tN,lI,_⟩:=Ks.ty.ex;obtain⟨J,hr,ho,hg⟩:=run_make_full w 0 268 271 i zv 2 W hi hz hs af af l.length (by rw[hb];omega) (by simp only[maxLen];omega) (dO _);have k1:aS w J:=(wg hg).mono (λ b _ _ h=>by cases h);have Z:=Az ho;refine⟨_,J,hr,_,_,_,rfl, ?_⟩;have x:=Z.1;have X:=Sl.aH hx k1;have u:(l.flatMap gr).length=l.length*2:=kF (enc:=gr) (z:=2) (λ _=>rfl) l;obtain⟨w2,G,E,y⟩:=Ic (P:=ag) (l.flatMap gr) 0 0 J _ Z.ob (by rw[u,x];omega) (by
  intro v N;obtain⟨b,_,N⟩:=jJ.1 N;simp only[gr,dX,List.not_mem_nil,or_false] at N;rcases N with rfl|rfl<;>trivial)
 have I:=aX.src (P:=ag) (tx:=268) (d:=271) W X (Ks.QZ l);have U:=I.2.2.2.2 J rfl;have H:(mF #[268,268] 3 #[aa (some ⟨w.heap.size,0,none⟩) l.length l.length,aa q l.length Q]).run ag J= .ok (ah af (l.length:Int)) w2:=by
  rw[add_zero] at G;simp[mF,iN W,Builtin.lenOf,sizeOf,typeInfo,hi,hs,U,G,goInt]
 refine⟨_,w2,H,_,rfl, ?_⟩;refine hk _ _ w2 (Fr.new k1 y (λ b o R=>by rw[R.1];exact bB _)) ?_ ⟨_,rfl,bB _⟩;refine Own.Iy Z u ?_ y (λ o ho R=> ?_)
 ·have e:List.take (0+0) (madeCells zv.cells (l.length*2)).toList++l.flatMap gr++List.drop (0+0+(l.flatMap gr).length) (madeCells zv.cells (l.length*2)).toList=l.flatMap gr:=by
   rw[List.drop_eq_nil_of_le (by rw[u,x];omega)];simp
  rw[e] at E;exact E
 ·have h3:=R.2.2;rw[u] at h3;simp at h3;omega
variable{P:bU}{α β:Type}[DecidableEq α]
theorem gK.jL{kc:α->ay}{vc:β->ay}{d:TypeDesc}{t Z et:cK}(I:mS P t Z et d)(N:oe d kc){w:ak}{it r:Nat}{f:α->Option β}{rest:List α}(h:gK kc vc w it r f rest)(k:α)(v:β)(W:(f k).isSome):
  ∃w',(fF t (.map (some r)) (kc k) (vc v)).run P w= .ok () w'/\gK kc vc w' it r (cU f k v) rest/\Fr (λ b _=>b=r) w w':=by
 obtain⟨l,c,seen,x,y,hi,q⟩:=h;have H:it≠r:=by
  rintro rfl;rw[x.obj] at hi;cases hi
 rcases Cl l x.nodup k with⟨a,v0,b,E,rfl,J,R⟩|U
 ·have Q:=HJ (v:=vc v) I.1 I.2 (N.key k) x.obj (Ck N a 0 J) (by rw[Nat.zero_add];exact HK a E _) rfl;rw[Nat.zero_add,HI (kc:=kc) (vc:=vc) (a:=a) (c:=E) (k:=k) (v:=v0) (b:=b) (λ e=>{e with key:=kc k,val:=vc v}) v rfl] at Q;have K:=yg (o':=Obj.map ((a++(k,v,b)::E).map (me kc vc)).toArray c) x.obj;refine⟨_,Q,⟨_,c,seen,x.HH (u:=v),HG y J R, ?_, ?_⟩,K⟩
  ·exact K.obj hi (by intros;simp) 0 (λ e=>H e)
  ·rw[q];simp only[List.filter_append,iE,List.filter_cons];split<;>simp
 ·exfalso;obtain⟨v,X⟩:=Option.isSome_iff_exists.1 W;obtain⟨b,G⟩:=(y k v).1 X;exact U _ G rfl
end
def fR(q c:ay)(tc sy dc st:OA)(pm:Nat)(u:Option Nat)(n:Nat):List ay:=
 [q,an tc,c, .map (some pm), .map none,an sy, .map u,an st,an dc,ah af (n:Int)]
def PR(w:ak)(r:Nat)(m:Wd->Option (List cQ)):Prop:=
 ∃h,dY dM b9 w r h/\(∀k t,h k=some t->∃l,m k=some l/\Sl gr 2 w (b9 t) l)/\∀k,h k=none->m k=none
theorem PR.aH{w w':ak}{r:Nat}{m:Wd->Option (List cQ)}(h:PR w r m)(q:aS w w'):PR w' r m:=by
 obtain⟨h,u,x,y⟩:=h;exact⟨h,u.aH q,λ k t E=>by
  obtain⟨l,a,b⟩:=x k t E;exact⟨l,a,Sl.aH b q⟩,y⟩
theorem PO.pr{w:ak}{r:Nat}{h:Wd->Option dg}{m:Wd->Option (List cQ)}(p:PO w r h m):PR w r m:=
 ⟨h,p.M,λ k t q=>by
  obtain⟨l,a,b⟩:=p.own k t q;exact⟨l,a,b.cV⟩,p.kR⟩
def Kz(S:List Wd)(g:Nat->Option Wd):Prop:=∀i n,g i=some n->n∈S/\i=bo S n
structure gd(w:ak)(R:kd)(v:ay)(B:Wd)(S:List Wd)(m:Wd->Option (List cQ))(pt:Nat):Prop where
 ex:∃c tc sy dc st pm q po co g,Ob w R (fR (cW v) c (some tc) (some sy) (some dc) st pm (some q) 2)/\at_ w (tc.add 5) (ah aj (pt:Int))/\Ob w sy (ke v 5 po (eQ S 5).length co S)/\pM w v (aa po (eQ S 5).length co) S 5 B/\PR w pm m/\
  dY dZ dM w q g/\Kz S g/\Ob w dc [.func (.func 120) #[an (some R)] #[], .func (.func 89) #[] #[]]
theorem gd.aH{w w':ak}{R:kd}{v:ay}{B:Wd}{S:List Wd}{m:Wd->Option (List cQ)}{pt:Nat}(h:gd w R v B S m pt)(q:aS w w'):gd w' R v B S m pt:=by
 obtain⟨c,tc,sy,dc,st,pm,K,po,co,g,x,y,E,u,G,H,I,J⟩:=h.ex;exact⟨c,tc,sy,dc,st,pm,K,po,co,g,x.aH q,q.at y,E.aH q,⟨Sl.aH u.eD q,u.len,u.sym,Sl.aH u.gF q⟩,G.aH q,H.aH q,I,J.aH q⟩
def zV(w:ak)(it r:Nat):Nat:=
 match w.heap[r]?,w.heap[it]? with
 |some (.map q _),some (.mapIter _ _ seen _)=>(q.toList.filter λ e=>!seen.contains e.born).length
 |_,_=>0
section
variable{α β:Type}{B':Wd}{v:ay}
variable{w0 w w':ak}{ts:List LT}{b0:Option Nat}{B:Wd}{p po:OA}{cc co pm r:Nat}{R c4 tc sy:kd}{S:List Wd}{m:Wd->Option (List cQ)}{h:Wd->Option dg}{c:ay}{st:OA}{pt:Nat}
theorem TS.blt(q:TS w0 ts w){t:LT}(x:t∈ts){b:Nat}(u:t.B b):b<w.heap.size:=((q.2.1 t x).2 b u).2
theorem TS.ei{a:kd}{v:ay}(q:TS w0 ts w)(u:aJ a [v]∈ts):at_ w a v:=by
 have:=q.at u 0 rfl;rwa[add_zero] at this
theorem TE{kc:α->ay}{vc:β->ay}{w:ak}{it r:Nat}{f:α->Option β}{rest:List α}(h:gK kc vc w it r f rest):zV w it r=rest.length:=by
 obtain⟨l,c,seen,q,u,hi,rfl⟩:=h;unfold zV;rw[q.obj,hi];simp only[fu];rw[List.filter_map,fu];rfl
def mC(y:kd)(E:ay)(po:OA)(co:Nat)(S:List Wd):LT:=
 ⟨λ b=>b=y.block\/aN (aa po (eQ S 5).length co)=some b,λ w=>Ob w y (ke E 5 po (eQ S 5).length co S)/\Sl kM 1 w (aa po (eQ S 5).length co) (eQ S 5),λ h u x=>⟨h.1.fr u (λ o _ _ q=>x _ o q (.inl rfl)),h.2.fr u (λ a l c e o _ _ q=>x a.block o q (.inr (by rw[e];rfl)))⟩⟩
def qf(q:Nat)(g:Nat->Option Wd):LT:=⟨λ b=>b=q,λ w=>dY dZ dM w q g,λ h x y=>h.fr x 0 (λ u=>y q 0 u rfl)⟩
theorem Bz.up(h:Bz w0 b0 v B')(q:aS w0 w):Bz w b0 v B':=⟨h.now q,h.aN,λ b e=>dR (h.lt b e) q.size,h.len⟩
end
section
variable{w0 w w':ak}{ts:List LT}{b0:Option Nat}{B rest:Wd}{p po:OA}{cc co r:Nat}{R c4 tc sy:kd}{S:List Wd}{m:Wd->Option (List cQ)}{h:Wd->Option dg}{c:ay}{st:OA}{pt:Nat}
def oI:ay:= .func (.func 89) #[] #[]
def vF(R:kd):List ay:=[.func (.func 120) #[an (some R)] #[],oI]
theorem akU{K:ay->ak->Prop}(E:Bz w0 b0 (aa p B.length cc) B)(hd:B.drop 5=dh (cY S)++rest)(X:WS S)(lx:S.length<=100000)(hm:∀k,(m k).isSome->k=[]\/k∈S)
  (q:TS w0 (dI r h m::aJ c4 [an (some R)]::aJ R (fR (cW (aa p B.length cc)) c (some tc) (some sy) none st r none 2)::mC sy (aa p B.length cc) po co S::ts) w)
  (hK:∀w' x dc g,Kz S g->TS w0 (aJ dc (vF R)::qf x g::dI r h m::aJ c4 [an (some R)]::aJ R (fR (cW (aa p B.length cc)) c (some tc) (some sy) (some dc) st r (some x) 2)::mC sy (aa p B.length cc) po co S::ts) w'->K (aZ #[an (some R),aA]) w'):
  ui K oI c4 w:=by
 unfold ui;have Q:=q.drew;have H:∀{w:ak} {us:List LT},TS w0 us w->aJ c4 [an (some R)]∈us->at_ w c4 (an (some R)):=λ q hm=>q.ei hm
 refine⟨_,H Q (by simp),_,H Q (by simp),_,Q.at (a:=R) (cs:=fR (cW (aa p B.length cc)) c (some tc) (some sy) none st r none 2) (by simp) 3 rfl, ?_⟩;obtain⟨ks,_,_,hl⟩:=Cm (ty:=3) ru.1 Q.po.M;refine⟨_,_,hl,_,rfl,⟨Q.at (a:=c4) (cs:=[an (some R)]) (by simp) 0 rfl,⟨Q.at (a:=c4) (cs:=[an (some R)]) (by simp) 0 rfl, ?_⟩⟩⟩;obtain⟨lN,Dt⟩:=ac' (P:=ag) dZ dM zC.1 w.drew af (ks.length:Int);refine⟨_,_,lN,_,rfl, ?_⟩;have q1:=Q.new (t:=qf w.drew.heap.size (λ _=>none)) (bA _ _) Dt (λ b E=>by
  have Z:b=w.drew.heap.size:=E;rw[Z,World.alloc];simp)
 generalize w.drew.heap.size=x at q1⊢;generalize w.drew.alloc (.map #[] 0)=w1 at q1⊢;refine⟨q1.at (a:=c4) (cs:=[an (some R)]) (by simp) 0 rfl,⟨q1.at (a:=c4) (cs:=[an (some R)]) (by simp) 0 rfl, ?_⟩⟩;obtain⟨g1,N⟩:=q1.fq (pre:=[qf x _,dI r h m,aJ c4 _]) (a:=R) (cs:=fR (cW (aa p B.length cc)) c (some tc) (some sy) none st r none 2) 6 (by simp[fR]) (.map (some x));refine⟨⟨trivial,g1⟩, ?_⟩;generalize w1.setCell _ _=W at N⊢;have N:TS w0 (qf x (λ _=>none)::dI r h m::aJ c4 [an (some R)]::aJ R (fR (cW (aa p B.length cc)) c (some tc) (some sy) none st r (some x) 2)::mC sy (aa p B.length cc) po co S::ts) W:=N;have hpo:PO W r h m:=N.get (t:=dI r h m) (by simp);refine⟨_,H N (by simp),_,N.at (a:=R) (cs:=fR (cW (aa p B.length cc)) c (some tc) (some sy) none st r (some x) 2) (by simp) 3 rfl, ?_⟩;obtain⟨tq,w3,kn,kQ,lU,D0,ja,lJ⟩:=yh ru.1 hpo.M;refine⟨_,_,kn, ?_⟩;have q3:=N.new (t:=fE W.heap.size) ja (show W.heap.size<w3.heap.size by omega) (λ b E=>by
  have Z:b=W.heap.size:=E;omega)
 generalize W.heap.size=it at kQ q3;refine aca (λ KA c' t w'=>oI=KA/\c4=c'/\t=an (some ⟨it,0,none⟩)/\∃rest g,Kz S g/\gK dM b9 w' it r h rest/\TS w0 (fE it::qf x g::dI r h m::aJ c4 [an (some R)]::aJ R (fR (cW (aa p B.length cc)) c (some tc) (some sy) none st r (some x) 2)::mC sy (aa p B.length cc) po co S::ts) w')
  (λ _ _ _ w=>zV w it r) ⟨rfl,rfl,rfl,tq,_,(λ i n h=>by cases h),kQ,q3⟩ ?_
 rintro _ _ _ w4⟨rfl,rfl,rfl,rs,g,hg,I,U⟩;unfold G8;have KB:=TE I;have eY:it≠r:=λ e=>by
  have:=(iF.1 U.2.2).1 (dI r h m) (by simp) it rfl;exact this (.inl e)
 rcases yi (ty:=0) I with⟨rfl,hr⟩|⟨k,v,a,b,w5,rfl,hfk,hr,y,hf⟩
 ·refine⟨_,_,hr,false,_,_,rfl,aT rfl ⟨_,rfl, ?_⟩⟩;unfold BY;refine aT rfl ⟨_,H U (by simp),_,H U (by simp), ?_⟩;dsimp only[oI,fI];have o5:=Ob.new w4 (vF R) 276;have G:=U.ob o5 (bA _ _) rfl (o5.lt (by simp[vF]));dsimp only[a_];dsimp only[nn];change wr (w4.alloc (.cells ⟨vF R⟩ 276)) _ _ _;generalize w4.alloc (.cells ⟨vF R⟩ 276)=w5 at G⊢;obtain⟨g1,q6⟩:=G.fq (pre:=[aJ _ _,fE it,qf x _,dI r h m,aJ c4 _]) (a:=R) (cs:=fR (cW (aa p B.length cc)) c (some tc) (some sy) none st r (some x) 2) 8 (by simp[fR]) (an (some ⟨w4.heap.size,0,none⟩));refine⟨⟨trivial,g1⟩,_,H q6 (by simp),hK _ x ⟨w4.heap.size,0,none⟩ g hg (q6.sub ?_)⟩;exact .cons₂ _ (.cons _ (lE _))
 ·refine⟨_,_,hr,true,_,_,rfl,cJ rfl ⟨_,rfl, ?_⟩⟩;unfold BY;refine cJ rfl ?_;have G:=U.ey (t':=fE it) hf (λ b o X=>X) (show it<w5.heap.size from dR (U.get (t:=fE it) (by simp)) hf.size) (λ b E=> .inl E);obtain⟨v',_,he⟩:=yk y;refine⟨_,_,he,_,_,rfl,_,rfl, ?_⟩;have nD:=TE y.it;simp only[aY,dH] at KB nD;refine bn (λ hc=> ?_) (λ hc=> ?_)
  ·exact⟨⟨rfl,rfl,rfl,_,g,hg,y.it,G⟩,by omega⟩
  ·have hkS:k∈S:=by
    refine(hm k ?_).resolve_left (λ e=> ?_)
    ·rw[<-PO.Ve (G.get (t:=dI r h m) (by simp)) k,hfk];rfl
    ·subst e;simp[bs] at hc
   obtain⟨o6,s6⟩:=G.get (t:=mC sy (aa p B.length cc) po co S) (by simp);refine⟨_,H G (by simp),_,G.at (a:=R) (cs:=fR (cW (aa p B.length cc)) c (some tc) (some sy) none st r (some x) 2) (by simp) 5 rfl, ?_⟩;refine⟨_,o6.at 0 rfl,_,o6.at 1 rfl,_,o6.at 2 rfl,_,_,_,o6.at 3 rfl,_,o6.at 4 rfl, ?_⟩;refine aF (akB (w0:=w5) (ts:=[]) (TS.nil (Fr.refl _ _)) (E.up G.1) hd s6 rfl X lx hkS) ?_;rintro _ w6 ⟨rfl,q6⟩;have q7:=G.aH q6.1;have JQ:gK dM b9 w6 it r h (a++b):=y.it.fr q6.1 0 0 (λ h=>h) (λ h=>h);refine⟨_,_,rfl,_,rfl,_,rfl,_,λ w=>cE _ w,_,rfl,aT rfl ?_⟩;refine⟨_,H q7 (by simp),_,q7.at (a:=R) (cs:=fR (cW (aa p B.length cc)) c (some tc) (some sy) none st r (some x) 2) (by simp) 6 rfl, ?_⟩;have hmp:dY dZ dM w6 x g:=q7.get (t:=qf x g) (by simp);obtain⟨w8,I6,hm8,py⟩:=sn zC oG hmp (bo S k) k;have akY:(fF 195 (.map (some x)) (ah aL (bo S k:Int)) (aC (bs k))).run ag w6= .ok () w8:=I6;refine⟨dU,w8,by simp[go_sem,akY,iV], ?_⟩;have q8:=((q7.perm (d_ _ _ _)).ey (t':=qf x (cU g (bo S k) k)) py (λ b o X=>X) hm8 (λ b E=> .inl E)).perm (d_ _ _ _);have zl:∀u∈[fE it,dI r h m],∀b,u.B b->b≠x:=λ u hu b E e=>by
    subst e;have hpw:=((q7.perm (d_ _ _ _)).2.2);refine(iF.1 hpw).1 u ?_ b rfl E;simp at hu⊢;rcases hu with rfl|rfl<;>simp
   have J:=JQ.fr py 0 0 (zl (dI r h m) (by simp) r (.inl rfl)) (zl (fE it) (by simp) it rfl);refine⟨⟨rfl,rfl,rfl,_,_,λ i n hi=> ?_,J,q8⟩, ?_⟩
   ·unfold cU at hi;split at hi
    ·rename_i e;cases hi;exact⟨hkS,e⟩
    ·exact hg i n hi
   ·have KC:=TE J;simp only[aY] at KC;omega
end
section
variable{w0 w w':ak}{ts:List LT}{r:Nat}{R c4:kd}{m:Wd->Option (List cQ)}{h:Wd->Option dg}{rc:List ay}
theorem ak0{α β:Type}[DecidableEq α]{f:α->Option β}{k:α}{v:β}(h:f k=some v):cU f k v=f:=by
 funext x;unfold cU;split
 ·rename_i e;rw[e,h]
 ·rfl
theorem ak1{K:ay->ak->Prop}{pd:ay}(DG:∀k,((m k).getD []).length<=1000)(hr:rc[3]? =some (.map (some r)))(q:TS w0 (dI r h m::aJ c4 [an (some R)]::aJ R rc::ts) w)
  (hK:∀w' h',TS w0 (dI r h' m::aJ c4 [an (some R)]::aJ R rc::ts) w'->ui K pd c4 w'):uj K pd c4 w:=by
 unfold uj;refine⟨_,q.ei (a:=c4) (v:=an (some R)) (by simp),_,q.at (a:=R) (cs:=rc) (by simp) 3 hr, ?_⟩;obtain⟨tq,w3,kn,X,lU,D0,ja,lJ⟩:=yh ru.1 q.po.M;refine⟨_,_,kn, ?_⟩;have q3:=q.new (t:=fE w.heap.size) ja (show w.heap.size<w3.heap.size by omega) (λ b hb=>by
  have gD:b=w.heap.size:=hb;omega)
 generalize w.heap.size=it at X q3;refine acb (λ KA y t w'=>pd=KA/\c4=y/\t=an (some ⟨it,0,none⟩)/\∃rest h,gK dM b9 w' it r h rest/\TS w0 (fE it::dI r h m::aJ c4 [an (some R)]::aJ R rc::ts) w')
  (λ _ _ _ w=>zV w it r) ⟨rfl,rfl,rfl,tq,_,X,q3⟩ ?_
 rintro _ _ _ w4⟨rfl,rfl,rfl,rs,h,E,q4⟩;unfold G9;have KB:=TE E;have eY:it≠r:=λ e=>by
  have:=(iF.1 q4.2.2).1 (dI r h m) (by simp) it rfl;exact this (.inl e)
 rcases yi (ty:=0) E with⟨rfl,Q⟩|⟨k,v,a,b,w5,rfl,J,Q,c,hf⟩
 ·refine⟨_,_,Q,false,_,_,rfl,aT rfl ⟨_,rfl, ?_⟩⟩;unfold BZ;exact aT rfl (hK _ _ q4.tail)
 ·refine⟨_,_,Q,true,_,_,rfl,cJ rfl ⟨_,rfl, ?_⟩⟩;unfold BZ;refine cJ rfl ?_;have q5:=(q4.ey (t':=fE it) hf (λ b o hS=>hS) (show it<w5.heap.size from dR (q4.get (t:=fE it) (by simp)) hf.size) (λ b hb=> .inl hb)).perm (d_ _ _ _);obtain⟨v',lO,he⟩:=yk (P:=ag) c;rw[J] at lO;cases lO;obtain⟨l,I,pR⟩:=q5.po.own k v J;have N:=DG k;rw[I] at N;dsimp only[Option.getD_some] at N;obtain⟨vp,vc,ev,_⟩:=aX.ex pR.cV;obtain⟨v1,v2,v3⟩:=v;cases ev;refine⟨_,_,he,_,_,rfl,_,rfl,_,_,_,rfl, ?_⟩;have nD:=TE c.it;simp only[aY,dH] at KB nD;refine akT pR.cV N (λ W y w6 uE iJ lQ=> ?_);have q6:=q5.row (k:=k) (v:=(W,l.length,y)) (l:=l) uE (λ b o x=>x.elim) iJ (.inr lQ);have Z:=c.it.fr uE 0 0 (λ h=>h) (λ h=>h);have H:∀{w},TS w0 (tj r h m k (W,l.length,y) l::fE it::aJ c4 [an (some R)]::aJ R rc::ts) w->at_ w c4 (an (some R))/\at_ w (R.add 3) (.map (some r)):=λ q=>⟨q.ei (by simp),q.at (a:=R) (cs:=rc) (by simp) 3 hr⟩
  refine⟨_,(H q6).1,_,(H q6).2, ?_⟩;obtain⟨w7,hr7,G,_⟩:=gK.jL ru sZ Z k (W,l.length,y) (by rw[J];rfl);obtain⟨u,w8,U,q8⟩:=q6.putRow (K:=λ w'=>TS w0 (dI r (cU h k (W,l.length,y)) (cU m k l)::fE it::aJ c4 [an (some R)]::aJ R rc::ts) w') (λ w' h=>h);have ak3:(fF 192 (.map (some r)) (aC (bs k)) (b9 (W,l.length,y))).run ag w6= .ok () w7:=hr7;have e78:w7=w8:=by
   have h1:(do fF 192 (.map (some r)) (aC (bs k)) (b9 (W,l.length,y));pure dU:Sem ay).run ag w6= .ok dU w7:=by simp[go_sem,ak3,iV]
   rw[h1] at U;cases U;rfl
  subst e78;refine⟨u,w7,U, ?_⟩;rw[ak0 I] at q8;refine⟨⟨rfl,rfl,rfl,_,_,G,q8.perm (d_ _ _ _)⟩, ?_⟩;have KC:=TE G;simp only[aY] at KC;omega
end
def jv(T:List (Wd×Wd×Nat))(i:Nat):kz:=((lz T).take i).foldl iC DW
def g_(T:List (Wd×Wd×Nat)):Wd->Option (List cQ):=FL (jv T T.length)
theorem ak5{T:List (Wd×Wd×Nat)}{i:Nat}(hi:i<T.length):jv T (i+1)=iC (jv T i) ((T[i]).1,(T[i]).2.1,iw T i):=by
 unfold jv;have q:i<(lz T).length:=by rw[DZ];exact hi
 have e:=Ky hi;rw[gH q] at e;rw[jm q,List.foldl_append,iW e];rfl
theorem KD(T:List (Wd×Wd×Nat))(i:Nat):(jv T i).2.2<=i/\∀k,(((jv T i).1 k).getD []).length<=2*i:=by
 have h:=akS ((lz T).take i) DW 0 0 (bB _) (λ k=>bB _);have q:((lz T).take i).length<=i:=by rw[fS];omega
 refine⟨?_,λ k=> ?_⟩
 ·have:=h.1;unfold jv;omega
 ·have:=h.2 k;unfold jv;omega
structure nE(T:List (Wd×Wd×Nat))(B:Wd):Prop where
 len:T.length<=300
 bd:∀t∈T,t.1.length<=1000/\t.2.1.length<=1000/\t.2.2<4611686018427387904
 nm:∀i (hi:i<T.length),0<i->(T[i]).1≠[]
 hd:∀(q:0<T.length),(T[0]).1=[]
theorem ak6{w:ak}{x y z u:ay}{a b c d e:OA}{K:ay->ak->Prop}(h:au ag 206 #[x,y,z,u,an a,an b,an c,an d,an e] w K):eJ ag (.func (.func 206) #[] #[an a,an b,an c,an d,an e]) #[x,y,z,u] w K:=⟨206,_,by kernel_rfl,h⟩
section
variable{w0 w w':ak}{ts:List LT}{b0:Option Nat}{B rest:Wd}{p:OA}{cc r pt:Nat}{R c4 tc sy:kd}{h:Wd->Option dg}{c:ay}{rc:List ay}{T:List (Wd×Wd×Nat)}
theorem ak7{B:Wd}(u:nE T B){i:Nat}(hi:i<T.length):(T[i]).1≠[]\/(jk (jv T i) (T[i]).1).2.2 % 32=0:=by
 by_cases q:i=0
 ·subst q;right;unfold jk jv;rw[if_neg (by simp[DW])];exact Nat.zero_mod 32
 ·exact .inl (u.nm i hi (by omega))
theorem ak8{off:Nat}{u c6 c7 c8:kd}(U:Bz w0 b0 (aa p B.length cc) B)(hd:B.drop off=dh (eP T)++rest)(I:nE T B)(E:off<=B.length)(W:rc[3]? =some (.map (some r)))
  (q:TS w0 (dI r h (λ _=>none)::uT R c4 u c6 c7 c8 rc ba ba 0 0++ts) w):
  au ag 43 #[cW (aa p B.length cc),ah aj (off:Int), .func (.func 206) #[] #[an (some c4),an (some u),an (some c6),an (some c7),an (some c8)]] w λ rr w'=>rr=aA/\∃h G H lo,zN w0 b0 G H lo (jv T T.length).2.1/\TS w0 (dI r h (jv T T.length).1::(uT R c4 u c6 c7 c8 rc G H lo ((jv T T.length).2.2:Int)++ts)) w':=by
 have Q:=I.len;refine aF (k43 (J:=λ i us=>JT w0 b0 R c4 u c6 c7 c8 rc r (jv T i) us) (us:=dI r h (λ _=>none)::uT R c4 u c6 c7 c8 rc ba ba 0 0) (ts:=ts) U hd (by omega) I.bd (λ i hi us ts x y w X Z K q=>ak6 ?_) ⟨h,ba,ba,0,⟨rfl,_,_,_,rfl⟩,rfl⟩ q E) ?_
 ·obtain⟨b1,b2⟩:=KD T i;rw[ak5 hi];exact akr (y:=((T[i]).1,(T[i]).2.1,iw T i)) X Z W (by omega) (λ k=>by have:=b2 k;omega) (ak7 I hi) K q
 ·rintro _ w' ⟨rfl,us,⟨h',G,H,lo,N,rfl⟩,q'⟩;exact⟨rfl,h',G,H,lo,N,q'⟩
theorem ak9(T:List (Wd×Wd×Nat))(q:T.length<=300)(k:Wd):((g_ T k).getD []).length<=1000:=by
 have h:=(KD T T.length).2;unfold g_ FL;cases(jv T T.length).2.1 with
 |none=>have:=h k;dsimp only[ly];omega
 |some z=>
  unfold ly p_ cU;dsimp only;split
  ·have:=h z.1;simp;omega
  ·have:=h k;omega
theorem ak_{α:Type}(a b c d e f g x y:α):[a,b,c,d,e,f,g,x,y].Perm [g,x,y,d,c,b,a,e,f]:=by
 classical
 rw[oV];intro z;simp only[oW];omega
def tr(a b c d e f:Nat):List ay:=[ah aj (a:Int),ah aj (b:Int),ah aj (c:Int),ah aj (d:Int),ah aj (e:Int),ah aj (f:Int)]
theorem ak'{K:ay->ak->Prop}{S:List Wd}{st:OA}{U b1 c1 W:Nat}{pre:Wd}(hb:Bz w0 b0 (aa p B.length cc) B)(ala:B=pre++(eu 5 U b1 c1 W pt++be 4 (cI 0 (eu 5 U b1 c1 W pt))))
  (Z:b1<18446744073709551616/\U<18446744073709551616/\c1<18446744073709551616/\W<18446744073709551616)(qg:pt+52<=B.length)(gQ:B.length<=67108864)
  (hd:B.drop 5=dh (cY S)++rest){Vo:Wd}(DC:B.drop pt=dh (eP T)++Vo)(hS:WS S)(lx:S.length<=100000)(hT:nE T B)(N:∀k,(g_ T k).isSome->k=[]\/k∈S)
  (q:TS w0 [dI r h (λ _=>none),aJ c4 [an (some R)],aJ R (fR (cW (aa p B.length cc)) c none none none st r none 2)] w)
  (hK:∀w' v,gd w' R (aa p B.length cc) B S (g_ T) pt->aS w0 w'->v=aZ #[an (some R),aA]->K v w'):uk K (cW (aa p B.length cc)) oI c4 w:=by
 unfold uk;have G:=q.drew;have a4:∀{w:ak} {us:List LT},TS w0 us w->aJ c4 [an (some R)]∈us->at_ w c4 (an (some R)):=λ q N=>q.ei N
 have Q:∀{w:ak} {us:List LT},TS w0 us w->aJ c4 [an (some R)]∈us->at_ w (c4.add 0) (an (some R)):=λ q N=>q.at N 0 rfl
 have aR:∀{w:ak} {us:List LT} {tc sy:OA},TS w0 us w->aJ R (fR (cW (aa p B.length cc)) c tc sy none st r none 2)∈us->at_ w R (cW (aa p B.length cc))/\at_ w (R.add 9) (ah af 2)/\at_ w (R.add 1) (an tc)/\at_ w (R.add 3) (.map (some r)):=λ q N=>⟨by
  have:=q.at N 0 rfl;rwa[add_zero] at this,q.at N 9 rfl,q.at N 1 rfl,q.at N 3 rfl⟩
 refine⟨_,a4 G (by simp), ?_⟩;refine aF (k42 G hb ala ⟨by omega,Z.2.1,Z.1,Z.2.2.1,Z.2.2.2,by omega⟩) ?_;rintro _ w1 ⟨n,rfl,q1⟩;refine⟨_,_,rfl,⟨Q q1 (by simp),_,rfl,_,rfl, ?_⟩⟩;generalize htc:(⟨n,0,none⟩:kd)=tc at q1⊢;have q1:TS w0 (aJ tc (tr 5 U b1 c1 W pt)::[dI r h (λ _=>none),aJ c4 [an (some R)],aJ R (fR (cW (aa p B.length cc)) c none none none st r none 2)]) w1:=q1;obtain⟨g1,q2⟩:=q1.fq (pre:=[aJ tc _,dI r _ _,aJ c4 _]) (a:=R) 1 (by simp[fR]) (an (some tc));refine⟨⟨trivial,g1⟩,_,λ w=>cE _ w,_,rfl,aT rfl ?_⟩;generalize w1.setCell _ _=w2 at q2⊢;have q2:TS w0 [aJ tc (tr 5 U b1 c1 W pt),dI r h (λ _=>none),aJ c4 [an (some R)],aJ R (fR (cW (aa p B.length cc)) c (some tc) none none st r none 2)] w2:=q2;have G:=q2.drew;have X:∀{w:ak} {us:List LT},TS w0 us w->aJ tc (tr 5 U b1 c1 W pt)∈us->at_ w (tc.add 0) (ah aj ((5:Nat):Int))/\at_ w (tc.add 5) (ah aj (pt:Int)):=λ q N=>⟨q.at N 0 rfl,q.at N 5 rfl⟩
 obtain⟨r0,r9,r1,r3⟩:=aR G (tc:=some tc) (sy:=none) (by simp);have t0:=(X G (by simp)).1;rw[add_zero] at t0;refine⟨_,a4 G (by simp),_,a4 G (by simp),_,r0,_,a4 G (by simp),_,r9,_,a4 G (by simp),_,r1,_,t0, ?_⟩;refine aF (S1 (off:=5) (hb.now G.1) hb.len hd lx) ?_;rintro _ w3 ⟨sy,ov,rfl,lJ,Vp,lV,qX,k3⟩;obtain⟨po,co,rfl,_⟩:=aX.ex lV.gF;have u:=G.new (t:=mC sy (aa p B.length cc) po co S) k3 ⟨Vp,lV.gF⟩ (λ b gD=>by
  rcases gD with e|e
  ·rw[e];exact⟨lJ,Vp.lt (by simp)⟩
  ·exact qX b e)
 obtain⟨_,_,r1,_⟩:=aR u (tc:=some tc) (sy:=none) (by simp);refine⟨_,_,rfl,(X u (by simp)).1, ?_,Q u (by simp),Q u (by simp),Q u (by simp),Q u (by simp), ?_⟩
 ·rw[add_zero];exact r1
 obtain⟨g3,y⟩:=u.fq (pre:=[mC _ _ _ _ _,aJ tc _,dI r _ _,aJ c4 _]) (a:=R) 5 (by simp[fR]) (an (some sy));refine⟨_,rfl,_,rfl,⟨trivial,g3⟩,_,λ w=>cE _ w,_,rfl,aT rfl ?_⟩;generalize w3.setCell _ _=w4 at y⊢;have y:TS w0 [mC sy (aa p B.length cc) po co S,aJ tc (tr 5 U b1 c1 W pt),dI r h (λ _=>none),aJ c4 [an (some R)],aJ R (fR (cW (aa p B.length cc)) c (some tc) (some sy) none st r none 2)] w4:=y;refine⟨_,a4 y (by simp),_,(aR y (tc:=some tc) (sy:=some sy) (by simp)).2.1,aT rfl ?_⟩;refine ti (λ w5 o5 k5 z5=> ?_);have I:=y.ob o5 k5 rfl (by omega);generalize (⟨w4.heap.size,0,none⟩:kd)=c5 at I⊢;refine ti (λ w6 o6 k6 z6=> ?_);have q6:=I.ob o6 k6 rfl (by omega);generalize (⟨w5.heap.size,0,none⟩:kd)=c6 at q6⊢;refine lW (a:=ah af 0) trivial (λ w7 o7 k7 z7=> ?_);have q7:=q6.ob o7 k7 rfl (by omega);generalize (⟨w6.heap.size,0,none⟩:kd)=c7 at q7⊢;refine lW (a:=ah af 0) trivial (λ w8 o8 k8 z8=> ?_);have q8:=q7.ob o8 k8 rfl (by omega);generalize (⟨w7.heap.size,0,none⟩:kd)=c8 at q8⊢;have q8:TS w0 (dI r h (λ _=>none)::uT R c4 c5 c6 c7 c8 (fR (cW (aa p B.length cc)) c (some tc) (some sy) none st r none 2) ba ba 0 0++[mC sy (aa p B.length cc) po co S,aJ tc (tr 5 U b1 c1 W pt)]) w8:=q8.perm (by
  unfold uT;exact ak_ _ _ _ _ _ _ _ _ _)
 have G:=q8.drew;have m4:∀{x:LT} {xs:List LT},aJ c4 [an (some R)]∈x::uT R c4 c5 c6 c7 c8 (fR (cW (aa p B.length cc)) c (some tc) (some sy) none st r none 2) ba ba 0 0++xs:=by simp[uT]
 have mR:∀{x:LT} {xs:List LT},aJ R (fR (cW (aa p B.length cc)) c (some tc) (some sy) none st r none 2)∈x::uT R c4 c5 c6 c7 c8 (fR (cW (aa p B.length cc)) c (some tc) (some sy) none st r none 2) ba ba 0 0++xs:=by simp[uT]
 obtain⟨r0,_,r1,_⟩:=aR G mR;refine⟨_,G.gB,_,r0,_,G.gB,_,r1,_,(X G (by simp[uT])).2, ?_⟩;refine aF (ak8 hb DC hT (by omega) rfl G) ?_;rintro _ w9 ⟨rfl,h9,x5,x6,lo,hL,q9⟩;refine⟨_,rfl, ?_, ?_, ?_,_,λ w=>cE _ w,_,rfl,aT rfl ?_⟩
 ·rw[add_zero];exact(aR (tc:=some tc) (sy:=some sy) q9 (by simp[uT])).2.2.1
 ·rw[add_zero];exact q9.gB
 ·rw[add_zero];exact q9.gB
 have qT:∀{w:ak} {h:Wd->Option dg} {x5 x6:ay} {lo cnt:Int},TS w0 (dI r h (g_ T)::(uT R c4 c5 c6 c7 c8 (fR (cW (aa p B.length cc)) c (some tc) (some sy) none st r none 2) x5 x6 lo cnt++[mC sy (aa p B.length cc) po co S,aJ tc (tr 5 U b1 c1 W pt)])) w->uj K oI c4 w:=by
  intro w h x5 x6 lo cnt q;have q:TS w0 (dI r h (g_ T)::aJ c4 [an (some R)]::aJ R (fR (cW (aa p B.length cc)) c (some tc) (some sy) none st r none 2)::mC sy (aa p B.length cc) po co S::[aJ tc (tr 5 U b1 c1 W pt)]) w:=q.sub (by
   unfold uT;exact .cons₂ _ (.cons₂ _ (.cons₂ _ (.cons _ (.cons _ (.cons _ (.cons _ (lE _))))))))
  refine ak1 (ak9 T hT.len) rfl q (λ w' h' q'=> ?_);refine akU hb hd hS lx N q' (λ w'' ns dc g hg E=>hK w'' _ ?_ E.1 rfl);obtain⟨s1,s2⟩:=E.get (t:=mC sy (aa p B.length cc) po co S) (by simp);exact⟨c,tc,sy,dc,st,r,ns,po,co,g,E.get (t:=aJ R _) (by simp),(X E (by simp)).2,s1,⟨hb.now E.1,hb.len,⟨_,hd⟩,s2⟩,(E.get (t:=dI r h' (g_ T)) (by simp)).pr,E.get (t:=qf ns g) (by simp),hg,E.get (t:=aJ dc (vF R)) (by simp)⟩
 have alb:=(KD T T.length).2;have oD:=hT.len;obtain⟨⟨p5,n5,Ku,e5⟩,p6,n6,c6',e6⟩:=hL.sl;have Vq:g_ T=ly (jv T T.length).1 (jv T T.length).2.1:=rfl;generalize Es:jv T T.length=st9 at*;obtain⟨m9,last,ap4⟩:=st9;dsimp only at*;have H:=q9.nw;rw[e5] at H;refine⟨_,_,_,H, ?_⟩;cases last with
 |none=>
  have e:x5=ba:=hL.1;rw[e5] at e;refine⟨_,λ w=>Vb 26 rfl _ _ w e,_,rfl,aT rfl ?_⟩;rw[<-(show g_ T=m9 from Vq)] at q9;exact qT q9
 |some z=>
  obtain⟨z1,z2,z3,rfl⟩:=hL;obtain⟨za,zc,ez⟩:=z2.some z1;rw[e5] at ez;cases ez;refine⟨_,λ w=>Vc _ _ _ _ w,_,rfl,cJ rfl ?_⟩;have u:=q9.drew;have H:=u.nw;have b6:=u.mA;rw[e5] at H z2;rw[e6] at b6 z3;have en:n6=z.2.1.length:=by
   obtain⟨_,_,e,_⟩:=aX.ex z3.eD;cases e;rfl
  subst en;have J:(fR (cW (aa p B.length cc)) c (some tc) (some sy) none st r none 2)[3]? =some (.map (some r)):=rfl;have lI:((m9 z.1).getD []).length<=1000:=by have:=alb z.1;omega
  refine⟨_,u.gB,_,u.atR J,_,_,_,H,_,z2.conv u.1,_,rfl,_,u.gB,_,u.atR J,_,_,_,H,_,z2.conv u.1,_,rfl,_,(p9 u.po.M z.1).2,_,_,_,rfl,_,_,_,b6,_,z3.conv u.1,_,rfl,_,u.vB, ?_⟩;refine u.push (k:=z.1) (x:=z.2) lI (λ w4 p _ y zR=> ?_);have H:=y.nw;have b6:=y.mA;rw[e5] at H;rw[e6] at b6;refine⟨y.vB,z3.conv y.1,b6,(p9 y.po.M z.1).2,z2.conv y.1,H,y.atR J,y.gB,z2.conv y.1,H,y.atR J,y.gB, ?_⟩;refine y.app (k:=z.1) lI zR (λ p' n' c' w5 I=> ?_);have H:=I.nw;have b6:=I.mA;rw[e5] at H;rw[e6] at b6;refine⟨I.vB,z3.conv I.1,b6,z2.conv I.1,H,I.atR J,I.gB,z2.conv I.1,H,I.atR J,I.gB, ?_⟩;refine I.putRow (λ w6 q6=> ?_);have ald:cU m9 z.1 ((m9 z.1).getD []++[z.2])=g_ T:=Vq.symm;rw[ald] at q6;exact qT q6
end
section
variable{w0 w w':ak}{ts:List LT}{b0:Option Nat}{B rest:Wd}{p:OA}{cc r pt:Nat}{S:List Wd}{L:List bI}{Rf:List Nat}{T:List (Wd×Wd×Nat)}
theorem Vr{v:ay}{b:Nat}(h:cz w v B)(u:B≠[])(G:aN v=some b):b<w.heap.size:=by
 obtain⟨q,c,rfl,_,_,y⟩:=h;obtain⟨x,l',rfl⟩:=List.exists_cons_of_ne_nil u;obtain⟨a,rfl,_,E⟩:=y 0 (ah aG (x.toNat:Int)) rfl;cases G;have:=iH E;rwa[cT] at this
theorem D4{t:cK}{x:ay}{R:Prop}(h:R):fI (cG t x) R:=h
theorem gf{w:ak}{cs:List ay}{ty:cK}{K:Nat->ak->Prop}(q:0<cs.length)(c:∀w',Ob w' ⟨w.heap.size,0,none⟩ cs->aS w w'->w'.heap.size=w.heap.size+1->K w.heap.size w'):a_ w (.cells ⟨cs⟩ ty) λ r h=>K r h:=
 c _ (Ob.new w cs ty) (bA _ _) (by simp)
def qh(B:Wd)(T:List (Wd×Wd×Nat))(pt:Nat):Prop:=pt+52<=B.length/\∃r,B.drop pt=dh (eP T)++r
theorem ale{J:cK}{K:ay}(h:cz w (aa p B.length cc) B)(X:jV S L B Rf T)(hS:WS S)(lx:S.length<=100000)(hT:nE T B)(E:∀k,(g_ T k).isSome->k=[]\/k∈S):
  au ag 158 #[cW (aa p B.length cc),cG J K,oI] w λ v w'=>∃R pt,v=aZ #[an (some R),aA]/\gd w' R (aa p B.length cc) B S (g_ T) pt/\qh B T pt/\aS w w':=by
 obtain⟨pre,a0,b1,c1,d1,pt,y,l1,l2,l3,l4,hB,Vo,Q⟩:=X.toc;obtain⟨rest,hd⟩:=X.sym;obtain⟨hr,N⟩:=X.head;have gQ:=X.len;have qi:B≠[]:=λ e=>by rw[e] at y;simp at y
 have hb:Bz w (aN (aa p B.length cc)) (aa p B.length cc) B:=⟨h,rfl,λ b e=>Vr h qi e,by omega⟩;apply acd;unfold Qb;obtain⟨lN,Dt⟩:=uw (P:=ag) dM b9 192 w;refine⟨_,_,lN,_,rfl, ?_⟩;have q1:=(TS.nil (Fr.refl _ w)).new (t:=dI w.heap.size (λ _=>none) (λ _=>none)) (bA w (.map #[] 0)) ⟨Dt,by simp,by simp,by simp,by simp⟩ (λ b hb=>by
  have gD:b=w.heap.size:=hb.elim id (λ⟨_,_,h,_⟩=>by cases h);rw[gD,World.alloc];simp)
 generalize w.heap.size=r at q1⊢;generalize w.alloc (.map #[] 0)=w1 at q1⊢;refine aF aew ?_;rintro _ w1' ⟨rfl,e1⟩;subst e1;refine⟨_,rfl, ?_⟩;dsimp only;refine D4 (D4 ?_);refine gf (cs:=fR (cW (aa p B.length cc)) (cG J K) none none none none r none 0) (by simp[fR]) (λ w2 o2 k2 z2=> ?_);have q2:=q1.ob o2 k2 rfl (by omega);generalize (⟨w1'.heap.size,0,none⟩:kd)=R at q2⊢;refine lW (a:=an (some R)) trivial (λ w3 o3 k3 z3=> ?_);have Z:=q2.ob o3 k3 rfl (by omega);generalize (⟨w2.heap.size,0,none⟩:kd)=c4 at Z⊢;have I:∀{w':ak} {us:List LT},TS w us w'->aJ c4 [an (some R)]∈us->at_ w' c4 (an (some R)):=λ q E=>q.ei E
 have x:∀{w':ak} {us:List LT},TS w us w'->aJ c4 [an (some R)]∈us->at_ w' (c4.add 0) (an (some R)):=λ q E=>q.at E 0 rfl
 have W:∀{w':ak} {us:List LT} {n:Nat},TS w us w'->aJ R (fR (cW (aa p B.length cc)) (cG J K) none none none none r none n)∈us->at_ w' R (cW (aa p B.length cc))/\at_ w' (R.add 9) (ah af (n:Int)):=λ q E=>⟨by
  have:=q.at E 0 rfl;rwa[add_zero] at this,q.at E 9 rfl⟩
 refine⟨_,I Z (by simp),_,(W (n:=0) Z (by simp)).1, ?_⟩;refine kU ⟨_,rfl,aT (by rw[decide_eq_false_iff_not];omega) ?_⟩;have H:=Z.drew;refine⟨_,I H (by simp),_,(W (n:=0) H (by simp)).1, ?_⟩;refine mi (lo:=0) (hi:=4) (h.aH H.1) (by omega) (by omega) (λ v1 jE Kv=> ?_);have e4:(B.drop 0).take (4-0)=be 4 3131758336++[]:=by
  rw[N,T2,iA];exact List.take_left' (cH _ _)
 have c:=Kv _ (h.aH H.1);rw[e4] at c;obtain⟨p1,c1,rfl,_⟩:=aX.ex c;refine⟨_,_,_,rfl,x H (by simp), ?_⟩;refine aF (sz c (by omega)) ?_;rintro _ w4 ⟨rfl,k4⟩;have q4:=H.aH k4;refine⟨_,rfl,x q4 (by simp),aT rfl ?_⟩;have G:=q4.drew;refine⟨_,I G (by simp),_,I G (by simp),_,(W (n:=0) G (by simp)).1, ?_⟩;refine mi (lo:=4) (hi:=5) (h.aH G.1) (by omega) (by omega) (λ v2 je pW=> ?_);have e5:(B.drop 4).take (5-4)=[2]:=by
  rw[N,qn (cH _ _)];rfl
 have u:=pW _ (h.aH G.1);rw[e5] at u;obtain⟨p2,c2,rfl,_⟩:=aX.ex u;refine⟨_,_,_,rfl,x G (by simp),x G (by simp), ?_⟩;refine Sl.ix (enc:=fK) (z:=1) (l:=[2]) (λ _=>rfl) (by omega) u (by omega) (by simp) (λ a _ ha=>⟨_,by
  have:=ha 0 _ rfl;rwa[add_zero] at this, ?_⟩)
 obtain⟨g1,U⟩:=G.fq (pre:=[aJ c4 _]) (a:=R) 9 (by simp[fR]) (ah af ((2:Nat):Int));refine⟨⟨trivial,g1⟩, ?_⟩;generalize KE:w4.drew.setCell (R.add 9) _=w5;have U:TS w [aJ c4 [an (some R)],aJ R (fR (cW (aa p B.length cc)) (cG J K) none none none none r none 2),dI r (λ _=>none) (λ _=>none)] w5:=by rw[<-KE];exact U
 have q6:=U.perm (us:=[dI r (λ _=>none) (λ _=>none),aJ c4 [an (some R)],aJ R (fR (cW (aa p B.length cc)) (cG J K) none none none none r none 2)]) (List.perm_append_comm (l₁:=[_,_]) (l₂:=[_]));refine⟨_,I U (by simp),_,(W (n:=2) U (by simp)).2,aT rfl (cJ rfl (cJ rfl ?_))⟩;refine ak' hb hB ⟨l1,l2,l3,l4⟩ y gQ hd Q hS lx hT E q6 (λ w' v hr hk e=>⟨R,pt,e,hr,⟨y,_,Q⟩,hk⟩)
end
theorem alg{w:ak}:au ag 159 #[aA] w λ r w'=>r=cG 333 (aV #[aA])/\w'=w:=by
 apply ace;unfold v159;exact⟨aZ #[aA,aQ false],λ w=>by kernel_rfl,_,_,rfl,_,rfl,_,rfl,aT rfl ⟨rfl,rfl⟩⟩
theorem k37{w:ak}{B:Wd}{p:OA}{cc:Nat}{S:List Wd}{L:List bI}{Rf:List Nat}{T:List (Wd×Wd×Nat)}(h:cz w (aa p B.length cc) B)(y:jV S L B Rf T)(E:WS S)(x:S.length<=100000)(G:nE T B)(H:∀k,(g_ T k).isSome->k=[]\/k∈S):
  au ag 37 #[aa p B.length cc] w λ v w'=>∃R pt,v=aZ #[an (some R),aA]/\gd w' R (aa p B.length cc) B S (g_ T) pt/\qh B T pt/\aS w w':=by
 apply c37;unfold v37;refine aF (c88 ?_:au ag 88 #[cW (aa p B.length cc),oI] w λ v w'=>∃R pt,v=aZ #[an (some R),aA]/\gd w' R (aa p B.length cc) B S (g_ T) pt/\qh B T pt/\aS w w') ?_
 ·unfold Pk;refine aF alg ?_;rintro _ J ⟨rfl,e⟩;subst e;refine⟨_,rfl,aF (ale h y E x G H) ?_⟩;rintro _ I ⟨R,pt,rfl,c,q,u⟩;exact⟨_,_,rfl,_,rfl,_,rfl,R,pt,rfl,c,q,u⟩
 ·rintro _ I ⟨R,pt,rfl,c,q,u⟩;exact⟨_,_,rfl,_,rfl,_,rfl,R,pt,rfl,c,q,u⟩
section
variable{w0 w w':ak}{ts:List LT}{b0:Option Nat}{B rest:Wd}{p po:OA}{cc co pt:Nat}{R:kd}{v:ay}{S:List Wd}{m:Wd->Option (List cQ)}
theorem gd.eM(h:gd w R v B S m pt):at_ w R (cW v):=by
 obtain⟨c,tc,sy,dc,st,pm,r,po,co,g,q,_⟩:=h.ex;have:=q.at 0 rfl;rwa[add_zero] at this
theorem gd.at9(h:gd w R v B S m pt):at_ w (R.add 9) (ah af 2):=by
 obtain⟨c,tc,sy,dc,st,pm,r,po,co,g,q,_⟩:=h.ex;exact q.at 9 rfl
theorem gd.eD(h:gd w R v B S m pt):cz w v B/\B.length<=1073741824/\∃r,B.drop 5=dh (cY S)++r:=by
 obtain⟨c,tc,sy,dc,st,pm,u,po,co,g,_,_,_,q,_⟩:=h.ex;exact⟨q.eD,q.len,q.sym⟩
theorem gd.bz(h:gd w R v B S m pt)(c:B≠[]):Bz w (aN v) v B:=⟨h.eD.1,rfl,λ b e=>Vr h.eD.1 c e,h.eD.2.1⟩
theorem k90(h:gd w R v B S m pt):au ag 90 #[an (some R)] w λ r w'=>r=ah af 2/\w'=w:=by
 apply c90;unfold Pn;exact⟨_,h.at9,rfl,rfl⟩
theorem k91(h:gd w R v B S m pt):au ag 91 #[an (some R)] w λ r w'=>r=ah af (B.length:Int)/\w'=w:=by
 apply c91;unfold v91;obtain⟨p,c,rfl,_⟩:=aX.ex h.eD.1;exact⟨_,h.eM,kU ⟨_,rfl,rfl,rfl⟩⟩
def hE(v:ay)(n:Nat)(s:Wd):List ay:=[v,aA,ah af (n:Int),aC (bs s),aA]
theorem alk(q:TS w0 ts w)(h:Bz w0 b0 (aa p B.length cc) B)(hd:B.drop 5=dh (cY S)++rest)(lx:S.length<=100000):
  au ag 162 #[aV #[cW (aa p B.length cc),ah af 2,ah af 5,aa po (eQ S 5).length co,ah af (S.length:Int)]] w λ r w'=>∃n v,r=cG 339 (an (some ⟨n,0,none⟩))/\Bz w0 b0 v (S.flatMap b8)/\TS w0 (aJ ⟨n,0,none⟩ (hE v S.length [])::ts) w':=by
 have gQ:=h.len;have W:B.drop 5=be 4 (cY S).length++(cY S++(be 4 (cI 0 (cY S))++rest)):=by
  rw[hd,dh];simp only[dx]
 have iP:(cY S).length<=B.length:=by
  have:=congrArg fZ W;rw[hY] at this;simp only[aY] at this;omega
 apply ab4;unfold v162;refine gf (cs:=ke (aa p B.length cc) 5 po (eQ S 5).length co S) (by simp[ke]) (λ w1 o1 k1 z1=> ?_);have G:=(q.ob o1 k1 rfl (by omega)).drew;generalize (⟨w.heap.size,0,none⟩:kd)=c at G⊢;generalize w1.drew=w1 at G⊢;have u:∀{w us},TS w0 us w->aJ c (ke (aa p B.length cc) 5 po (eQ S 5).length co S)∈us->at_ w (c.add 0) (cW (aa p B.length cc))/\at_ w (c.add 2) (ah af ((5:Nat):Int)):=λ q hm=>⟨q.at hm 0 rfl,q.at hm 2 rfl⟩
 have Q:=(u G (by simp)).1;rw[add_zero] at Q;refine⟨_,Q,_,(u G (by simp)).2, ?_⟩;have arb:∀{w:ak} {us:List LT} {K:ay->ak->Prop},TS w0 us w->(∀t w',lK w' t->TS w0 us w'->K (an (some t)) w')->au ag 102 #[] w K:=λ q X=>aF sq (by
  rintro _ w'⟨t,rfl,_,_,E,k⟩;exact X t w' E (q.aH k))
 have oJ:∀{w:ak} {us:List LT} {t:kd} {K:ay->ak->Prop},TS w0 us w->lK w t->(∀pv H w',Bz w0 b0 (aa pv (cY S).length H) (cY S)->TS w0 us w'->K (aV #[aa pv (cY S).length H,aA]) w')->au ag 106 #[cW (aa p B.length cc),ah af ((5:Nat):Int),an (some t)] w K:=λ q E X=>aF (CD (h.now q.1) E gQ W) (by
  rintro _ w'⟨v,rfl,hv,lS,k⟩;obtain⟨pv,H,rfl,_⟩:=aX.ex hv;have q':=q.aH k;exact X pv H w' (Bz.of q'.1 hv (lS.trans h.aN) h.lt (by omega)) q')
 have fin:∀{w:ak} {d:Nat} {v:ay},Bz w0 b0 v (cY S)->TS w0 (dF ⟨d,0,none⟩ v::aJ c (ke (aa p B.length cc) 5 po (eQ S 5).length co S)::ts) w->
   au ag 160 #[(an (some ⟨d,0,none⟩))] w λ tk N=>aD af (ax tk) λ zT=>az (at_ N (aw ⟨d,0,none⟩ 0)) λ sP sL sC=>aM (at_ N (aw ⟨d,0,none⟩ 1)) λ zW=>
    a_ N (.cells #[(aa sP sL sC),zW,(ah af zT),(aC dk),aA] 341) λ J w8=>∃n v,cG 339 (an (some ⟨J,0,none⟩))=cG 339 (an (some ⟨n,0,none⟩))/\Bz w0 b0 v (S.flatMap b8)/\TS w0 (aJ ⟨n,0,none⟩ (hE v S.length [])::ts) w8:=by
  intro w d v hb q;unfold cY at hb;refine aF (q.yo hb (by omega)) ?_;rintro _ N ⟨v7,U,q7,rfl⟩;obtain⟨p7,c7,rfl,_⟩:=aX.ex U.eD;have o7:Ob N ⟨d,0,none⟩ [aa p7 (S.flatMap b8).length c7,aA]:=q7.get (t:=dF ⟨d,0,none⟩ (aa p7 (S.flatMap b8).length c7)) (by simp);refine⟨_,rfl,_,_,_,o7.at 0 rfl,_,o7.at 1 rfl, ?_⟩;have h8:=gf (w:=N) (cs:=hE (aa p7 (S.flatMap b8).length c7) S.length []) (ty:=341) (K:=λ J w8=>∃n v,cG 339 (an (some ⟨J,0,none⟩))=cG 339 (an (some ⟨n,0,none⟩))/\Bz w0 b0 v (S.flatMap b8)/\TS w0 (aJ ⟨n,0,none⟩ (hE v S.length [])::ts) w8) (by simp[hE]) (λ w8 o8 k8 z8=>
   ⟨_,_,rfl,U,(q7.tail.tail).ob o8 k8 rfl (by omega)⟩)
  exact h8
 have new:∀{w:ak} {us:List LT},TS w0 us w->TS w0 (aJ ⟨w.heap.size,0,none⟩ [ba,aA]::us) (w.alloc (.cells ⟨[ba,aA]⟩ 182)):=λ{w} {us} q=>
  q.ob (Ob.new w [ba,aA] 182) (bA _ _) rfl (by simp)
 have put:∀{w:ak} {us:List LT} {n:Nat} {v:ay} {K:ak->Prop},gj v->TS w0 (aJ ⟨n,0,none⟩ [ba,aA]::us) w->(∀w',TS w0 (dF ⟨n,0,none⟩ v::us) w'->K w')->wr w (aw ⟨n,0,none⟩ 0) v λ gn=>wr gn (aw ⟨n,0,none⟩ 1) aA λ nt=>K nt:=by
  intro w us n v K h1 q X;obtain⟨g1,G⟩:=q.wr 0 (by simp) v;refine⟨⟨h1,g1⟩, ?_⟩;obtain⟨g2,x⟩:=G.wr 1 (by simp) aA;exact⟨⟨trivial,g2⟩,X _ x⟩
 refine⟨?_, ?_⟩
 ·refine arb G (λ t w2 E x=>⟨_,rfl,(u x (by simp)).2,(u x (by simp)).1, ?_, ?_⟩)
  ·refine oJ x E (λ pv H w3 jU y=>⟨_,_,_,_,rfl, ?_⟩);have Z:=new y;exact put trivial Z (λ w5 q5=>fin jU q5)
  ·have y:=new x;refine⟨(u y (by simp)).2,(u y (by simp)).1, ?_⟩;refine oJ y ((bA _ _).at E) (λ pv H w4 I Z=>⟨_,_,_,_,rfl, ?_⟩);exact put trivial Z (λ w5 q5=>fin I q5)
 ·have x:=new G;refine⟨(u x (by simp)).2,(u x (by simp)).1, ?_⟩;refine arb x (λ t w3 E y=>⟨_,rfl,(u y (by simp)).2,(u y (by simp)).1, ?_⟩);refine oJ y E (λ pv H w4 I Z=>⟨_,_,_,_,rfl, ?_⟩);exact put trivial Z (λ w5 q5=>fin I q5)
theorem alm(w:ak)(e:cK)(s:ByteArray):aS w (Go.Lib.bytesWorld w e s):=
 ⟨rfl,rfl,rfl,by rw[Go.Lib.bytesWorld_size];omega,λ b o c _=>by unfold view;rw[Go.Lib.bytesWorld_at_old w e s b c]⟩
theorem aln{w:ak}{x:Wd}{K:OA->Nat->Nat->ak->Prop}(J:∀p c w',aS w w'->cz w' (aa p x.length c) x->K p x.length c w'):
  aP ag (dq 9 26 (aC (bs x))) w λ r Q=>az (ax r) λ p n c=>K p n c Q:=by
 have N:=Go.Lib.run_convert_string_bytes (P:=ag) w 9 26 5 (bs x) (u:= .string) (by kernel_rfl) (by kernel_rfl) (by kernel_rfl);refine⟨_,_,N,_,_,_,rfl, ?_⟩;have h:(bs x).size=x.length:=rfl;rw[h];refine J _ _ _ (alm w 5 (bs x)) ⟨_,_,rfl, ?_,kF (enc:=fK) (z:=1) (λ _=>rfl) x,λ j u G=>⟨_,rfl,rfl, ?_⟩⟩
 ·rw[<-h];exact grownCap_ge _ _ _ _
 ·have e:x.flatMap fK=x.map λ b=>ah aG (b.toNat:Int):=List.map_eq_flatMap.symm
  rw[e,List.getElem?_map] at G;obtain⟨b,E,rfl⟩:=Option.map_eq_some_iff.1 G;have q:j<x.length:=(oQ.1 E).1;have y:=Go.Lib.bytesWorld_cell w 5 (bs x) j q;have H:(bs x).data.toList.getD j 0=b:=by
   rw[l8];show(x[j]?).getD 0=b;rw[E];rfl
  rw[H] at y;have I:(⟨w.heap.size,0,none⟩:kd).add j=⟨w.heap.size,j,none⟩:=by
   unfold aw;split<;>simp_all
  rw[I];exact y
theorem TS.Vs{l l':Wd}{d:kd}{cs:List ay}{N:fz}{args:Array ay}{Q:ay->ak->Prop}(q:TS w0 (aJ d (v::aA::cs)::ts) w)(h:Bz w0 b0 v l)(U:l'.length<=l.length)
  (K:dT w d v l->au ag N args w λ r w'=>Q r w'/\gE w d v w' l'):
  au ag N args w λ r w'=>∃v',Bz w0 b0 v' l'/\TS w0 (aJ d (v'::aA::cs)::ts) w'/\Q r w':=by
 have x:Ob w d (v::aA::cs):=q.get (t:=aJ d _) (by simp);have hd:dT w d v l:=by
  refine⟨⟨x.1,λ i u hi=>x.2 i u ?_⟩,h.now q.1,λ e=> ?_,h.len⟩
  ·rcases i with _|_|i
   ·exact hi
   ·exact hi
   ·cases hi
  ·have:=(q.2.1 (aJ d (v::aA::cs)) (by simp)).2 d.block rfl;have:=h.lt d.block (by rw[<-h.aN];exact e);omega
 refine aF (K hd) ?_;rintro r w' ⟨W,v',y,E,I⟩;have G:Ob w' d (v'::aA::cs):=by
  refine⟨x.1,λ i u hi=> ?_⟩;rcases i with _|_|i
  ·exact y.1.2 0 u hi
  ·exact y.1.2 1 u hi
  ·have:=x.2 (i+2) u hi;have c:¬((λ b o=>b=d.block/\d.off<=o/\o<d.off+2) (d.add (i+2)).block (d.add (i+2)).off):=by
    rw[cT,fJ];omega
   exact⟨E.at this.1 c,E.can this.2 (d.add (i+2)).off c⟩
 have H:=q.ey (t':=aJ d (v'::aA::cs)) E (λ b o c=>c.1) G (λ b J=> .inl J);exact⟨v',Bz.of H.1 y.2.1 (I.trans h.aN) h.lt (eX U h.len),H,W⟩
end
section
variable{w0 w w':ak}{ts:List LT}{b0:Option Nat}{B rest:Wd}{p po:OA}{cc co pt:Nat}{R s:kd}{v:ay}{S:List Wd}{m:Wd->Option (List cQ)}
theorem TS.kB{α:Type}{e:cK}{ty:cK}{enc:α->List ay}{z fA:Nat}{zs:List ay}(W:gW ag ty e enc z fA zs){v N:ay}{l:List α}{x:α}{K:OA->Nat->Nat->ak->Prop}
  (h:TS w0 (aO enc z v l::ts) w)(E:(bw ty 1 #[(0,N)]).run ag w= .ok (aa (some ⟨w.heap.size,0,none⟩) 1 1) (w.alloc (.cells ⟨enc x⟩ e)))(hl:(l.length+1)*fA<=140737488355328)(J:l.length+1<=4611686018427387904)
  (Z:∀p cc w',TS w0 (aO enc z (aa p (l.length+1) cc) (l++[x])::ts) w'->Fr (λ b o=>aN v=some b) w w'->K p (l.length+1) cc w'):
  aP ag (bw ty 1 #[(0,N)]) w λ r w1=>az (ax r) λ sP sL sC=>aP ag (cM #[ty,ty] ty #[v,aa sP sL sC]) w1 λ r2 w2=>az (ax r2) λ p n c=>K p n c w2:=by
 have ho:cP enc z w v l:=h.get (t:=aO enc z v l) (by simp);refine HL W E ho hl J (λ p cc w' y X H=> ?_);have u:Fr (λ b o=>aN v=some b) w w':=X.mono (λ b o _ G=>G.1);refine Z p cc w' (h.ey (t':=aO enc z (aa p (l.length+1) cc) (l++[x])) u (λ b o G=>G) y (λ b E=> ?_)) u;rcases H with U|⟨g,Q,I⟩
 ·have q:aN (aa p (l.length+1) cc)=some b:=E;exact .inl (show aN v=some b by rw[<-U];exact q)
 ·have q:aN (aa p (l.length+1) cc)=some b:=E;rw[Q] at q;cases q;exact .inr ⟨I,y.lt Q⟩
theorem alo{cur:Wd}(q:TS w0 (aJ s (hE v 0 cur)::ts) w):au ag 367 #[an (some s)] w λ r w'=>r=aQ false/\w'=w:=by
 apply Qm;unfold Hi B9;have c:Ob w s (hE v 0 cur):=q.get (t:=aJ s _) (by simp);exact⟨_,c.at 2 rfl,cJ rfl ⟨rfl,rfl⟩⟩
theorem alp{n:Nat}{cur x l:Wd}(q:TS w0 (aJ s (hE v (n+1) cur)::ts) w)(h:Bz w0 b0 v (b8 x++l))(hn:n<100000):
  au ag 367 #[an (some s)] w λ r w'=>r=aQ true/\∃v',Bz w0 b0 v' l/\TS w0 (aJ s (hE v' n x)::ts) w':=by
 apply Qm;unfold Hi;have u:Ob w s (hE v (n+1) cur):=q.get (t:=aJ s _) (by simp);refine⟨_,u.at 2 rfl,aT (by rw[beq_eq_false_iff_ne];omega) ⟨_,u.at 4 rfl,_,λ w=>cE _ w,_,rfl,aT rfl ?_⟩⟩;unfold Hh;refine aF (q.Vs (l':=l) (Q:=λ r w'=>cz w' r x/\aN r=aN v) h (by simp) (λ hd=>aF (Go.Proofs.jD iO hd) (λ _ _ h=>⟨⟨h.1,h.2.1⟩,h.2.2⟩))) ?_;rintro r I ⟨v1,E,X,U,_⟩;obtain⟨rp,rc,rfl,W⟩:=u9 U;refine⟨_,_,_,rfl,aF W ?_⟩;rintro _ I ⟨rfl,rfl⟩;obtain⟨K,c⟩:=X.wr 3 (by simp) (aC (bs x));refine⟨_,rfl,⟨trivial,K⟩, ?_⟩;generalize I.setCell _ _=H at c⊢;have c:TS w0 (aJ s (hE v1 (n+1) x)::ts) H:=c;have u:Ob H s (hE v1 (n+1) x):=c.get (t:=aJ s _) (by simp);obtain⟨N,y⟩:=c.wr 2 (by simp[hE]) (ah af (n:Int));refine⟨_,u.at 2 rfl, ?_⟩;dsimp only;rw[show aq af (((n+1:Nat):Int)-1)=(n:Int) by rw[bk (by omega) (by omega)];omega];refine⟨⟨trivial,N⟩, ?_⟩;generalize H.setCell _ _=J at y⊢;have y:TS w0 (aJ s (hE v1 n x)::ts) J:=y;refine aF (y.Vs (l':=l) (Q:=λ r w'=>r=aA/\w'=J) E (bB _) (λ hd=>aF (Go.Proofs.fU hd) (λ r w' h=>⟨h,v1, ?_, ?_,rfl⟩))) ?_
 ·rw[h.2];exact hd
 ·rw[h.2];exact Fr.refl _ _
 ·rintro _ w4 ⟨v4,G,Z,rfl,rfl⟩;refine⟨_,rfl,_,λ w=>cE _ w,_,rfl,aT rfl ⟨rfl,v4,G,Z⟩⟩
theorem Vt{K:ay->ak->Prop}(h:au ag 367 #[an (some s)] w K):cS ag (cG 339 (an (some s))) "Next" #[] w K:=⟨367,_,by kernel_rfl,h⟩
theorem alq{n:Nat}{cur:Wd}{K:ay->ak->Prop}(q:Ob w s (hE v n cur))(x:∃p l c,v=aa p l c)(h:∀w',aS w w'->K (aC (bs cur)) w'):cS ag (cG 339 (an (some s))) "At" #[] w K:=by
 have e:(callMethod (cG 339 (an (some s))) "At" #[]).run ag w=((do pure (aV (<-loadCells s 5)):Sem ay)>>=λ v=>pure (.enter 365 #[v])).run ag w:=by kernel_rfl
 have r:=V.run_loadCells (P:=ag) (w:=w) (a:=s) (hE v n cur) 0 #[] ⟨q.at 0 rfl,q.at 1 rfl,q.at 2 rfl,q.at 3 rfl,q.at 4 rfl,trivial⟩;refine⟨365,#[aV ⟨hE v n cur⟩], ?_, ?_⟩
 ·rw[e];have u:(loadCells s 5).run ag w= .ok ⟨hE v n cur⟩ w:=by
   unfold loadCells;simpa[hE] using r
  simp[u]
 ·obtain⟨G,vl,vc,rfl⟩:=x;apply acC;unfold Ql;refine gf (cs:=hE (aa G vl vc) n cur) (by simp[hE]) (λ H E y I=> ?_);exact⟨_,E.at 3 rfl,h H y⟩
theorem k93(h:gd w0 R v B S m pt)(G:B≠[])(x:S.length<=100000)(q:TS w0 ts w):
  au ag 93 #[an (some R)] w λ r w'=>∃n v',r=cG 339 (an (some ⟨n,0,none⟩))/\Bz w0 (aN v) v' (S.flatMap b8)/\TS w0 (aJ ⟨n,0,none⟩ (hE v' S.length [])::ts) w':=by
 have I:=h.bz G;obtain⟨c,tc,sy,dc,st,pm,N,po,co,g,H,K,u,E,_⟩:=(h.aH q.1).ex;obtain⟨p,cc,rfl,_⟩:=aX.ex E.eD;obtain⟨rest,hd⟩:=E.sym;apply c93;unfold v93;refine⟨_,H.at 5 rfl,_,u.at 0 rfl,_,u.at 1 rfl,_,u.at 2 rfl,_,_,_,u.at 3 rfl,_,u.at 4 rfl, ?_⟩;refine aF (alk q I hd x) ?_;rintro _ Q ⟨n,v',rfl,y,J⟩;exact⟨_,rfl,n,v',rfl,y,J⟩
theorem k92(q:TS w0 (aJ s (hE v S.length [])::ts) w)(h:Bz w0 b0 v (S.flatMap b8))(N:S.length<=1000):
  au ag 92 #[cG 339 (an (some s))] w λ r w'=>TS w0 (aO bx 1 r S::ts) w':=by
 apply c92;unfold Pp;have Z:=q.new (t:=aO bx 1 ba ([]:List Wd)) (Fr.refl _ _) (Own.nil _ _) (λ b Q=>by cases Q);refine abH (λ G P L C w'=>cG 339 (an (some s))=G/\∃(k:Nat) (v:ay) (cur:Wd),k<=S.length/\L=k/\Bz w0 b0 v ((S.drop k).flatMap b8)/\TS w0 (aO bx 1 (aa P L C) (S.take k)::aJ s (hE v (S.length-k) cur)::ts) w') (λ _ _ L _ _=>S.length-L) ⟨rfl,0,v,[],dO _,rfl,h,Z⟩ ?_;rintro _ P k C w1 ⟨rfl,_,v1,cur,hk,rfl,u,c⟩;unfold GX;by_cases U:k=S.length
 ·subst U;rw[Nat.sub_self] at c;refine Vt (aF (alo (c.perm (d_ _ _ _))) ?_);rintro _ w2 ⟨rfl,rfl⟩;rw[fY] at c;exact⟨_,rfl,aT rfl (c.sub (.cons₂ _ (.cons _ (lE _))))⟩
 ·have E:k<S.length:=by omega
  rw[show S.length-k=(S.length-(k+1))+1 by omega] at c;rw[gS E,fG] at u;refine Vt (aF (alp (c.perm (d_ _ _ _)) u (by omega)) ?_);rintro _ w2 ⟨rfl,v2,y,I⟩;refine⟨_,rfl,cJ rfl ?_⟩;obtain⟨vp,vc,ev,_⟩:=aX.ex y.eD;refine alq (I.get (t:=aJ s (hE v2 (S.length-(k+1)) (S[k]))) (by simp)) ⟨_,_,_,ev⟩ (λ w3 X=>⟨_,rfl, ?_⟩);have q3:=I.aH X;refine aln (λ p4 c4 J k4 K=> ?_);have q4:=q3.aH k4;refine⟨_,_,mU K,_,rfl, ?_⟩;have W:(S.take k).length=k:=by rw[fS];omega
  have q5:TS w0 (aO bx 1 (aa P k C) (S.take k)::aJ s (hE v2 (S.length-(k+1)) (S[k]))::ts) J:=q4.perm (d_ _ _ _);refine q5.kB ri (x:=S[k]) (vi _ J) (by omega) (by omega) (λ p6 c6 w6 H _=> ?_);rw[W] at H⊢;rw[<-jm E] at H;exact⟨⟨rfl,k+1,v2,_,by omega,rfl,y,H⟩,by omega⟩
end
section
variable{w0 w w':ak}{ts:List LT}{b0:Option Nat}{B rest:Wd}{p po:OA}{cc co pt:Nat}{R s:kd}{v:ay}{S:List Wd}{m:Wd->Option (List cQ)}
theorem Vu{w:ak}:au ag 118 #[aV #[]] w λ r w'=>r=aA/\aS w w':=by
 apply abM;exact⟨rfl,bA _ _⟩
theorem k49{w:ak}:au ag 49 #[] w λ r w'=>r=aV #[]/\aS w w':=by
 apply c49;unfold v49;refine aF U4 ?_;rintro _ w' ⟨rfl,k⟩;exact⟨rfl,rfl,(bA _ _).trans k⟩
theorem k94(hR:gd w0 R v B S m pt)(lx:S.length<=1000)(hm:∀k,(m k).isSome->k=[]\/k∈S)(q:TS w0 ts w):
  au ag 94 #[an (some R),aV #[],ba] w λ r w'=>∃x l,r=aZ #[x,aA]/\WS l/\(∀n,n∈l↔n≠[]/\(m n).isSome)/\TS w0 (aO bx 1 x l::ts) w':=by
 obtain⟨c,tc,sy,dc,st,pm,ns,po,co,g,I,h2,h3,h4,⟨E,tu,zX,nD⟩,_⟩:=hR.ex;apply c94;unfold Pu;have q1:=q.aH (bA w (.cells #[] 111));show aB (decide (((0:Nat):Int)>0)) _ _;refine aT rfl ?_;generalize w.alloc (.cells #[] 111)=w1 at q1⊢;have J:∀k,(E k).isSome↔(m k).isSome:=λ k=>by
  cases hh:E k with
  |none=>rw[nD k hh];simp
  |some t=>obtain⟨l,e,_⟩:=zX k t hh;rw[e];simp
 have W:∀ks:List Wd,ks.Nodup->(∀k,k∈ks↔(E k).isSome)->ks.length<=1001:=λ ks lU hk=>by
  have De:ks⊆[]::S:=λ k h=>by
   rcases hm k ((J k).1 ((hk k).1 h)) with e|e
   ·rw[e];simp
   ·exact jI _ e
  have:=lU.length_le_of_subset De;rw[dH] at this;omega
 refine⟨_,q1.1.at (I.at 3 rfl), ?_⟩;obtain⟨ks,JM,Q1,hl⟩:=Cm (ty:=3) ru.1 (tu.aH q1.1);refine⟨_,_,hl,_,rfl, ?_⟩;have qN:=W ks JM Q1;obtain⟨w3,kn,lL,ja⟩:=uX ri.ty w1 ks.length (by omega) (by omega);refine⟨_,_,kn,_,_,_,rfl, ?_⟩;have q3:=q1.new (t:=aO bx 1 (aa (some ⟨w1.heap.size,0,none⟩) 0 ks.length) ([]:List Wd)) ja lL (λ b H=>by
  have gD:some w1.heap.size=some b:=H;cases gD;exact⟨bB _,lL.lt rfl⟩)
 refine⟨_,q3.1.at (I.at 3 rfl), ?_⟩;obtain⟨tq,w4,jT,kQ,lU,D0,ko,Ur⟩:=yh ru.1 (tu.aH q3.1);refine⟨_,_,jT, ?_⟩;have q4:=(q3.new (t:=fE w3.heap.size) ko (show w3.heap.size<w4.heap.size by omega) (λ b H=>by
  have gD:b=w3.heap.size:=H;omega)).perm (d_ _ _ _)
 have ap5:=W tq lU D0;have Kb:pm<w0.heap.size:=by
  obtain⟨l,c,H,_⟩:=tu;exact(rD.1 H.obj).1
 generalize w3.heap.size=it at kQ q4;refine abR (λ P n C t w'=>t=an (some ⟨it,0,none⟩)/\∃l rest,n=l.length/\l.length+rest.length<=tq.length/\l.Nodup/\(∀k∈l,k∉rest/\k≠[]/\(E k).isSome)/\(∀k,k≠[]->(E k).isSome->k∈l\/k∈rest)/\gK dM b9 w' it pm E rest/\TS w0 (aO bx 1 (aa P n C) l::fE it::ts) w') (λ _ _ _ _ w=>zV w it pm) ⟨rfl,[],tq,rfl,by simp,List.nodup_nil,by simp,λ k _ h=> .inr ((D0 k).2 h),kQ,q4⟩ ?_;rintro P _ C _ w5 ⟨rfl,l,rest,rfl,Z,N,u,jc,K,q5⟩;unfold G0;have nD:=TE K;rcases yi (ty:=0) K with⟨rfl,hr⟩|⟨k,vv,a,b,w6,rfl,hfk,hr,G,hf⟩
 ·refine⟨_,_,hr,false,_,_,rfl,aT rfl ⟨_,rfl, ?_⟩⟩;unfold BN;refine aT rfl ?_;have jR:cP bx 1 w5 (aa P l.length C) l:=q5.get (t:=aO bx 1 _ l) (by simp);refine aF (JL jR (by simp at Z;omega)) ?_;rintro _ w6 ⟨iJ,I2⟩;have q6:=q5.ey (t':=aO bx 1 (aa P l.length C) (iu l)) I2 (λ b o hS=>hS) (by
   have e:(iu l).length=l.length:=(rh l).length_eq;exact iJ) (λ b H=> .inl H)
  refine⟨_,iu l,rfl,Uo N,λ n=> ?_,q6.sub (.cons₂ _ (.cons _ (lE _)))⟩;rw[(rh l).mem_iff];constructor
  ·intro h;exact⟨(u n h).2.1,(J n).1 (u n h).2.2⟩
  ·rintro⟨I,h2⟩;rcases jc n I ((J n).2 h2) with h|h
   ·exact h
   ·cases h
 ·refine⟨_,_,hr,true,_,_,rfl,cJ rfl ⟨_,rfl, ?_⟩⟩;unfold BN;refine cJ rfl ?_;have aqV:=K.nodup;have q6:=((q5.perm (d_ _ _ _)).ey (t':=fE it) hf (λ b o hS=>hS) (show it<w6.heap.size from dR (q5.get (t:=fE it) (by simp)) hf.size) (λ b H=> .inl H)).perm (d_ _ _ _);obtain⟨v',_,he⟩:=yk G;refine⟨_,_,he,_,_,rfl,_,rfl, ?_⟩;have hn6:=TE G.it;simp only[aY,dH] at nD hn6 Z;rw[gI.nodup_iff,aq9] at aqV;refine bn (λ hc=> ?_) (λ hc=> ?_)
  ·have mm:k=[]:=by simpa[bs] using hc
   refine⟨⟨rfl,l,a++b,rfl,by simp;omega,N,λ x Q=>⟨λ h=>(u x Q).1 (by simp at h⊢;rcases h with h|h<;>simp[h]),(u x Q).2⟩,λ x I h2=> ?_,G.it,q6⟩,by omega⟩;rcases jc x I h2 with h|h
   ·exact .inl h
   ·refine .inr ?_;simp at h⊢;rcases h with h|h|h
    ·exact .inl h
    ·exact absurd (h.trans mm) I
    ·exact .inr h
  ·have mm:k≠[]:=by
    rintro rfl;simp[bs] at hc
   refine q6.kB ri (x:=k) (vi k w6) (by omega) (by omega) (λ p cc w7 q7 f7=> ?_);have U:∀b,aN (aa P l.length C)=some b->b≠it/\b≠pm:=λ b H=>by
    have h0:=(q6.2.1 (aO bx 1 (aa P l.length C) l) (by simp)).2 b H;have I:=(iF.1 q6.2.2).1 (fE it) (by simp) b H;exact⟨I,by omega⟩
   have X:gK dM b9 w7 it pm E (a++b):=G.it.fr f7 0 0 (λ hS=>(U _ hS).2 rfl) (λ hS=>(U _ hS).1 rfl);have hn7:=TE X;simp only[aY] at hn7;refine⟨⟨rfl,l++[k],a++b,by simp,by simp;omega, ?_,λ x Q=> ?_,λ x I h2=> ?_,X,q7⟩,by omega⟩
   ·rw[List.nodup_append];refine⟨N,by simp,λ x Q y hy=> ?_⟩;simp at hy;subst hy;rintro rfl;exact(u x Q).1 (by simp)
   ·rw[mG,oO] at Q;rcases Q with Q|rfl
    ·exact⟨λ h=>(u x Q).1 (by simp at h⊢;rcases h with h|h<;>simp[h]),(u x Q).2⟩
    ·exact⟨aqV.1,mm,by rw[hfk];rfl⟩
   ·rcases jc x I h2 with h|h
    ·exact .inl (by simp[h])
    ·simp at h⊢;rcases h with h|h|h
     ·exact .inr (.inl h)
     ·exact .inl (.inr h)
     ·exact .inr (.inr h)
end
section
variable{w0 w w':ak}{ts:List LT}{b0:Option Nat}{B rest:Wd}{p po:OA}{cc co pt:Nat}{R s:kd}{v:ay}{S:List Wd}{m:Wd->Option (List cQ)}{T:List (Wd×Wd×Nat)}
theorem aly(t:Wd×Wd×Nat)(X:Wd):cX t++X=bm 2++(b8 t.1++(b8 t.2.1++(bm t.2.2++X))):=by
 unfold cX;simp only[dx]
theorem alz(T:List (Wd×Wd×Nat))(i:Nat):(eP T).drop (iw T i)=(T.drop i).flatMap cX:=by
 unfold eP iw;rw[List.drop_append,cH,List.drop_eq_nil_of_le (by rw[cH];omega),oS,tz]
 conv=>lhs;rw[<-kC i T]
 rw[jK];have:(T.take i).flatMap cX=((T.take i++T.drop i).take i).flatMap cX:=by rw[kC]
 rw[this,qn rfl]
def KF(w:ak)(d:kd):Nat:=match w.cell? d with|some (aa _ n _)=>n|_=>0
theorem KG{d:kd}{l:Wd}(q:TS w0 (dF d v::ts) w)(h:Bz w0 b0 v l):KF w d=l.length:=by
 obtain⟨p,c,rfl,_⟩:=aX.ex h.eD;have u:Ob w d [aa p l.length c,aA]:=q.get (t:=dF d _) (by simp);have:=u.at 0 rfl;rw[add_zero] at this;have r:w.cell? d=some (aa p l.length c):=this;unfold KF;rw[r]
def mD(nm:Wd):Nat:=(bm 2).length+(b8 nm).length
theorem Vv{cb:ay}{J:Nat->List LT->Prop}{us ts:List LT}{i0 n:Nat}{nm:Wd}(hR:gd w0 R v B S m pt)(qg:qh B T pt)(hT:nE T B)(gQ:B.length<=67108864)(hn:0<n)(hi:i0+n<=T.length)(DK:∀k (Q:k<n),(T[i0+k]).1=nm)
  (hf:∀(k:Nat) (Q:k<n) (us ts:List LT) (w:ak),J k us->TS w0 (us++ts) w->eJ ag cb #[aC (bs (T[i0+k]).2.1),ah aj ((T[i0+k]).2.2:Int)] w λ r w'=>r=aZ #[aQ (decide (k+1<n)),aA]/\∃u,J (k+1) u/\TS w0 (u++ts) w')
  (Kq:J 0 us)(q:TS w0 (us++ts) w):
  au ag 163 #[an (some R),aV #[],ah af (iw T i0:Int),cb] w λ r w'=>r=aA/\∃u,J n u/\TS w0 (u++ts) w':=by
 have oD:=hT.len;obtain⟨rest,hd⟩:=qg.2;have hb:=hR.bz (λ e=>by have:=qg.1;rw[e] at this;simp at this);obtain⟨c,tc,sy,dc,st,pm,ns,po,co,g,h1,h2,_⟩:=hR.ex;obtain⟨p,cc,rfl,_⟩:=aX.ex hb.eD;generalize aN (aa p B.length cc)=b0 at hb;have jN:(eP T).length<=B.length:=by
  have:=congrArg fZ hd;rw[aY,pJ,hY] at this;omega
 have Kr:B.drop pt=be 4 (eP T).length++(eP T++(be 4 (cI 0 (eP T))++rest)):=by
  rw[hd,dh];simp only[dx]
 have ap6:=qg.1;apply ab6;unfold PV;have Z:=(q.aH (bA w (.cells #[] 111))).drew;dsimp only[a_];generalize (w.alloc (.cells #[] 111)).drew=w1 at Z⊢;have r0:at_ w1 R (cW (aa p B.length cc)):=Z.1.at hR.eM;have r1:∀{w us},TS w0 us w->at_ w (R.add 1) (an (some tc))/\at_ w (tc.add 5) (ah aj (pt:Int)):=λ q=>⟨q.1.at (h1.at 1 rfl),q.1.at h2⟩
 refine⟨_,r0,_,(r1 Z).1,_,(r1 Z).2, ?_⟩;dsimp only;rw[bk (by omega) (by omega)];have oJ:∀{w:ak} {us:List LT} {K:ay->ak->Prop},TS w0 us w->(∀pv cv w',Bz w0 b0 (aa pv (eP T).length cv) (eP T)->TS w0 us w'->K (aV #[aa pv (eP T).length cv,aA]) w')->au ag 106 #[cW (aa p B.length cc),ah af (pt:Int),an none] w K:=λ q Q=>aF (Rj (hb.now q.1) (λ t e=>by cases e) (by omega) Kr) (by
  rintro _ w'⟨v,rfl,hv,lS,k⟩;obtain⟨pv,cv,rfl,_⟩:=aX.ex hv;have X:=q.aH k;exact Q pv cv w' (Bz.of X.1 hv (lS.trans hb.aN) hb.lt (by omega)) X)
 have new:∀{w:ak} {us:List LT},TS w0 us w->TS w0 (aJ ⟨w.heap.size,0,none⟩ [ba,aA]::us) (w.alloc (.cells ⟨[ba,aA]⟩ 182)):=λ{w} {us} q=>
  q.ob (Ob.new w [ba,aA] 182) (bA _ _) rfl (by simp)
 have put:∀{w:ak} {us:List LT} {n:Nat} {v:ay} {K:ak->Prop},gj v->TS w0 (aJ ⟨n,0,none⟩ [ba,aA]::us) w->(∀w',TS w0 (dF ⟨n,0,none⟩ v::us) w'->K w')->wr w (aw ⟨n,0,none⟩ 0) v λ gn=>wr gn (aw ⟨n,0,none⟩ 1) aA λ nt=>K nt:=by
  intro w us n v K h1 q Q;obtain⟨g1,Z⟩:=q.wr 0 (by simp) v;refine⟨⟨h1,g1⟩, ?_⟩;obtain⟨g2,q2⟩:=Z.wr 1 (by simp) aA;exact⟨⟨trivial,g2⟩,Q _ q2⟩
 have alA:iw T i0<=(eP T).length:=by
  have e:=congrArg (λ l=>(l.flatMap cX).length) (kC i0 T);simp only[jK,aY] at e;unfold eP iw;rw[aY,cH];omega
 have W:∀{w:ak} {d:Nat} {cx:kd} {v:ay},Bz w0 b0 v (eP T)->TS w0 (dF ⟨d,0,none⟩ v::(us++ts)) w->
   au ag 208 #[(an (some ⟨d,0,none⟩)),(ah af (iw T i0:Int))] w λ vD gn=>au ag 118 #[(aV #[])] gn λ zB nt=>aM (ax zB) λ zY=>BU (λ r w'=>r=aA/\∃u,J n u/\TS w0 (u++ts) w') cb cx ⟨d,0,none⟩ 0 zY nt:=by
  intro w d cx v hv q;refine aF (q.mT hv alA) ?_;rintro _ w2 ⟨v2,pW,q2⟩;rw[alz] at pW;refine aF Vu ?_;rintro _ w3 ⟨rfl,k3⟩;have N:=q2.aH k3;refine⟨_,rfl, ?_⟩;refine ab5 (λ cb' Vw d' skip ce w'=>cb=cb'/\cx=Vw/\⟨d,0,none⟩=d'/\ce=aA/\∃(k:Nat) (v:ay) (us:List LT),k<n/\skip=(if k=0 then 0 else(mD nm:Int))/\J k us/\Bz w0 b0 v ((T.drop (i0+k)).flatMap cX)/\TS w0 (dF ⟨d,0,none⟩ v::(us++ts)) w')
   (λ _ _ d _ _ w=>KF w d) ⟨rfl,rfl,rfl,rfl,0,v2,us,hn,rfl,Kq,pW,N⟩ ?_
  rintro _ _ _ _ _ w4⟨rfl,rfl,rfl,rfl,k,v4,us,Q,rfl,hJ,E,G⟩;unfold G6;refine aF (G.fU E) ?_;rintro _ w4 ⟨rfl,rfl⟩;refine⟨_,rfl,_,λ w=>pK _ w,_,rfl,cJ rfl ⟨_,λ w=>pK _ w,_,rfl,cJ rfl ?_⟩⟩;have KH:i0+k<T.length:=by omega
  have KI:=KG G E;rw[gS KH,fG] at KI;rw[gS KH,fG,aly,DK k Q] at E;obtain⟨t1,t2,t3⟩:=hT.bd _ (iy KH);rw[DK k Q] at t1;have hdn:T.drop (i0+k+1)=T.drop (i0+(k+1)):=rfl;rw[hdn] at E KI;have Dx:0<(cX T[i0+k]).length:=by
   unfold cX;rw[aY];have:=jB 2;omega
  rw[aY] at KI;have hsk:(mD nm:Int)<100000/\0<mD nm:=by
   have h1:=jB 2;have h2:=fw 10 2 (by omega) (by omega);have h3:=fw 10 nm.length (by omega) (by omega);unfold mD b8;rw[aY];omega
  have val:∀{w:ak} {v:ay} {N5:ay->kd->kd->Int->ay->ak->Prop},Bz w0 b0 v (b8 (T[i0+k]).2.1++(bm (T[i0+k]).2.2++(T.drop (i0+(k+1))).flatMap cX))->TS w0 (dF ⟨d,0,none⟩ v::(us++ts)) w->
    (k+1<n->∀w' v' u,J (k+1) u->Bz w0 b0 v' ((T.drop (i0+(k+1))).flatMap cX)->TS w0 (dF ⟨d,0,none⟩ v'::(u++ts)) w'->N5 cb cx ⟨d,0,none⟩ (mD nm:Int) aA w')->
    xI (λ r w'=>r=aA/\∃u,J n u/\TS w0 (u++ts) w') N5 cb cx ⟨d,0,none⟩ (mD nm:Int) aA w:=by
   intro w v N5 hv q hN;unfold xI;refine aF (q.jD hv) ?_;rintro y wy ⟨vy,hvy,qy,hy⟩;obtain⟨yp,yc,rfl,ky⟩:=u9 (hy.now qy.1);refine⟨_,_,_,rfl,aF ky ?_⟩;rintro _ wy ⟨rfl,rfl⟩;refine⟨_,rfl,aF (qy.mh hvy (by omega)) ?_⟩;rintro _ wz ⟨vz,Vx,qz,rfl⟩;refine⟨_,rfl, ?_⟩;obtain⟨fn,ar,e1,e2⟩:=hf k Q us _ _ hJ (qz.perm gI.symm);refine⟨fn,ar,e1,aF e2 ?_⟩;rintro _ w5 ⟨rfl,DU,Vy,H⟩;have H:=H.perm gI;refine⟨_,_,rfl,_,rfl,_,rfl,_,λ w=>cE _ w,_,rfl,aT rfl ?_⟩;refine bn (λ hc=> ?_) (λ hc=> ?_)
   ·have he:k+1=n:=by simp at hc;omega
    unfold xH;refine aF (H.fU Vx) ?_;rintro _ w5 ⟨rfl,rfl⟩;refine⟨_,rfl,_,λ w=>cE _ w,_,rfl,aT rfl ⟨_,λ w=>cE _ w,_,rfl,aT rfl ⟨rfl,DU, ?_,H.tail⟩⟩⟩;rw[<-he];exact Vy
   ·have he:k+1<n:=by simp at hc;omega
    refine aF Vu ?_;rintro _ w6 ⟨rfl,k6⟩;exact⟨_,rfl,hN he w6 vz DU Vy Vx (H.aH k6)⟩
  unfold G5;refine bn (λ hc=> ?_) (λ hc=> ?_)
  ·refine aF (G.jC E) ?_;rintro _ w4 ⟨rfl,rfl⟩;refine⟨_,rfl,aF (G.kI E (by omega)) ?_⟩;rintro _ w5 ⟨v5,U,H,rfl⟩;refine⟨_,rfl,aF (H.jD U) ?_⟩;rintro x w6 ⟨v6,uU,q6,hx⟩;obtain⟨xp,xc,rfl,_⟩:=aX.ex hx.eD;refine⟨_,_,_,rfl,aF (q6.jC uU) ?_⟩;rintro _ w6 ⟨rfl,rfl⟩;refine⟨_,rfl, ?_⟩;have mW:=E.len;have e:aq af ((((bm 2++(b8 nm++(b8 (T[i0+k]).2.1++(bm (T[i0+k]).2.2++(T.drop (i0+(k+1))).flatMap cX)))).length:Nat):Int)-(((b8 (T[i0+k]).2.1++(bm (T[i0+k]).2.2++(T.drop (i0+(k+1))).flatMap cX)).length:Nat):Int))=(mD nm:Int):=by
    rw[aY,@aY _ (b8 nm)] at mW⊢;rw[bk (by omega) (by omega)];unfold mD;omega
   dsimp only;rw[e];refine val uU q6 (λ h w' v' u KJ I X=> ?_);have hN':=KG X I;exact⟨⟨rfl,rfl,rfl,rfl,k+1,v',u,h,by rw[if_neg (by omega)],KJ,I,X⟩,by omega⟩
  ·have mm:k≠0:=λ e=>by rw[if_pos e] at hc;exact absurd hc (by decide)
   rw[if_neg mm];refine aF (G.mT (n:=mD nm) E (by unfold mD;simp only[aY];omega)) ?_;rintro _ w5 ⟨v5,U,H⟩;have e:(bm 2++(b8 nm++(b8 (T[i0+k]).2.1++(bm (T[i0+k]).2.2++(T.drop (i0+(k+1))).flatMap cX)))).drop (mD nm)=b8 (T[i0+k]).2.1++(bm (T[i0+k]).2.2++(T.drop (i0+(k+1))).flatMap cX):=by
    rw[<-dx];exact qn (by unfold mD;rw[aY])
   rw[e] at U;refine val U H (λ h w' v' u KJ I X=> ?_);have hN':=KG X I;exact⟨⟨rfl,rfl,rfl,rfl,k+1,v',u,h,by rw[if_neg (by omega)],KJ,I,X⟩,by omega⟩
 refine⟨?_, ?_⟩
 ·refine oJ Z (λ pv cv w3 jU N=>⟨_,_,_,_,rfl,(r1 N).2,(r1 N).1, ?_⟩);have G:=new N;refine⟨(r1 G).2,(r1 G).1, ?_⟩;exact put trivial G (λ w5 H=>W jU H)
 ·have N:=new Z;refine⟨(r1 N).2,(r1 N).1,N.1.at hR.eM, ?_⟩;refine oJ N (λ pv cv w4 yB G=>⟨_,_,_,_,rfl,(r1 G).2,(r1 G).1, ?_⟩);exact put trivial G (λ w5 H=>W yB H)
end
structure zZ(T:List (Wd×Wd×Nat))(m:Wd->Option (List cQ))(nm:Wd)(i0 n:Nat)(V:List Wd):Prop where
 pos:0<n
 le:i0+n<=T.length
 nms:∀k (h:k<n),(T[i0+k]'(by omega)).1=nm
 vl:V.length=n
 val:∀k (h:k<n),(T[i0+k]'(by omega)).2.1=V[k]'(by omega)
 nd:V.Nodup
 m:∃y c,m nm=some (y::c)/\y.2=iw T i0/\(y::c).length<=2/\((y::c).getLast (by simp)).1=V[n-1]'(by omega)
section
variable{w0 w w':ak}{ts:List LT}{b0:Option Nat}{B rest:Wd}{p po:OA}{cc co pt:Nat}{R s:kd}{v:ay}{S V:List Wd}{m:Wd->Option (List cQ)}{T:List (Wd×Wd×Nat)}
theorem vG{w:ak}{ty:cK}{K:Nat->ak->Prop}(c:∀w',aS w w'->w'.heap.size=w.heap.size+1->K w.heap.size w'):a_ w (.cells #[] ty) λ r h=>K r h:=
 c _ (bA _ _) (by simp)
def JV(c2 c3 c4:kd)(V:List Wd)(last:Wd)(k:Nat)(us:List LT):Prop:=
 ∃P C,us=[aO bx 1 (aa P k C) (V.take k),aJ c2 [an none],aJ c3 [aa P k C],aJ c4 [aC (bs last)]]
theorem alF{w:ak}{x y:ay}{a b c:OA}{K:ay->ak->Prop}(h:au ag 164 #[x,y,an a,an b,an c] w K):eJ ag (.func (.func 164) #[] #[an a,an b,an c]) #[x,y] w K:=⟨164,_,by kernel_rfl,h⟩
theorem alG{c2 c3 c4:kd}{last:Wd}{k:Nat}{u:Int}{us:List LT}(U:k<V.length)(W:V.length<=1000)(Q:JV c2 c3 c4 V last k us)(q:TS w0 (us++ts) w):
  au ag 164 #[aC (bs V[k]),ah aj u,an (some c2),an (some c3),an (some c4)] w λ r w'=>r=aZ #[aQ (!(V[k]==last)),aA]/\∃E,JV c2 c3 c4 V last (k+1) E/\TS w0 (E++ts) w':=by
 obtain⟨P,C,rfl⟩:=Q;apply ab7;unfold v164;have h:=q.drew;generalize w.drew=w at h⊢;have K:at_ w c2 (an none):=h.ei (a:=c2) (v:=an none) (by simp);refine⟨_,K,_,λ w=>by kernel_rfl,_,rfl,aT rfl ?_⟩;unfold xJ;have N:at_ w c3 (aa P k C):=h.ei (a:=c3) (v:=aa P k C) (by simp);refine⟨_,_,_,N, ?_⟩;have H:(V.take k).length=k:=by rw[fS];omega
 have h:TS w0 (aO bx 1 (aa P k C) (V.take k)::aJ c2 [an none]::aJ c3 [aa P k C]::aJ c4 [aC (bs last)]::ts) w:=h;refine h.kB ri (x:=V[k]) (vi _ w) (by omega) (by omega) (λ G c X I _=> ?_);rw[H] at I⊢;rw[<-jm U] at I;obtain⟨J,y⟩:=I.fq (pre:=[aO bx 1 _ _,aJ c2 _]) (a:=c3) (cs:=[aa P k C]) 0 (by simp) (aa G (k+1) c);rw[add_zero] at J y;refine⟨⟨trivial,J⟩, ?_⟩;have y:TS w0 ([aO bx 1 (aa G (k+1) c) (V.take (k+1)),aJ c2 [an none],aJ c3 [aa G (k+1) c],aJ c4 [aC (bs last)]]++ts) _:=y;refine⟨_,y.ei (a:=c4) (v:=aC (bs last)) (by simp), ?_,_,⟨G,c,rfl⟩,y⟩;rw[eG,eG]
theorem alH{α:Type}(a b c d:α):[a,b,c,d].Perm [c,d,b,a]:=by
 classical
 rw[oV];intro z;simp only[oW];omega
theorem Vz{nm:Wd}{i0 n:Nat}(hR:gd w0 R v B S m pt)(qg:qh B T pt)(hT:nE T B)(gQ:B.length<=67108864)(hB:zZ T m nm i0 n V)(q:TS w0 ts w):
  au ag 95 #[an (some R),aV #[],aC (bs nm),an none,ba] w λ r w'=>∃x,r=aZ #[x,aA]/\TS w0 (aO bx 1 x V::ts) w':=by
 have oD:=hT.len;obtain⟨hB1,hB2,Dv,hB4,hB5,JE,y,E,I,hB8,hB9,U⟩:=hB;obtain⟨c,tc,sy,dc,st,pm,ns,po,co,g,h1,h2,h3,h4,⟨Z,tu,zX,nD⟩,_⟩:=hR.ex;apply c95;unfold Pz;refine vG (λ w1 k1 z1=> ?_);have q1:=q.aH k1;refine gf (cs:=[an none]) (by simp) (λ Q o2 k2 z2=> ?_);have K:=q1.ob o2 k2 rfl (by omega);generalize (⟨w1.heap.size,0,none⟩:kd)=c2 at K⊢;refine aT rfl ⟨_,K.1.at (h1.at 9 rfl),aT rfl ⟨_,K.1.at (h1.at 3 rfl), ?_⟩⟩;obtain⟨H,_⟩:=p9 (tu.aH K.1) nm;have hex:∃t,Z nm=some t:=by
  cases hh:Z nm with
  |none=>rw[nD nm hh] at I;cases I
  |some t=>exact⟨t,rfl⟩
 obtain⟨⟨ep,en,ec⟩,W⟩:=hex;obtain⟨le,X,G⟩:=zX nm _ W;rw[I] at X;cases X;have G:Sl gr 2 w0 (aa ep en ec) (y::E):=G;have lI:=hB9;rw[dH] at lI;obtain⟨rfl,_⟩:=G.len;rw[W] at H;have H:(dJ 192 (.map (some pm)) (aC (bs nm)) true).run ag Q= .ok (aZ #[aa ep (y::E).length ec,aQ true]) Q:=H;refine⟨_,_,H,_,_,rfl,_,_,_,rfl,_,rfl,aT rfl (aT (by rw[beq_eq_false_iff_ne,dH];omega) ?_)⟩;have a2:∀{w us},TS w0 us w->aJ c2 [an none]∈us->at_ w c2 (an none):=λ q hm=>q.ei hm
 refine⟨_,a2 K (by simp),_,λ w=>by kernel_rfl,_,rfl,aT rfl ?_⟩;unfold uf;have e32:aq af ((((y::E).length:Nat):Int)*32)=((32*(y::E).length:Nat):Int):=by rw[bk (by omega) (by omega)];omega
 rw[e32];obtain⟨w3,kn,lL,ja⟩:=uX ri.ty Q (32*(y::E).length) (by omega) (by omega);refine⟨_,_,kn,_,_,_,rfl, ?_⟩;have q3:=K.new (t:=aO bx 1 (aa (some ⟨Q.heap.size,0,none⟩) 0 (32*(y::E).length)) ([]:List Wd)) ja lL (λ b hb=>by
  have gD:some Q.heap.size=some b:=hb;cases gD;exact⟨bB _,lL.lt rfl⟩)
 generalize (some ⟨Q.heap.size,0,none⟩:OA)=P3 at q3⊢;generalize 32*(y::E).length=C3 at q3⊢;refine lW (a:=aa P3 0 C3) trivial (λ w4 o4 k4 z4=> ?_);have q4:=q3.ob o4 k4 rfl (by omega);generalize (⟨w3.heap.size,0,none⟩:kd)=c3 at q4⊢;have el:aq af ((((y::E).length:Nat):Int)-1)=(((y::E).length-1:Nat):Int):=by rw[bk (by omega) (by rw[dH];omega)];rw[dH];omega
 rw[el];refine Sl.ix (enc:=gr) (z:=2) (l:=y::E) (λ _=>rfl) (by omega) (Sl.aH G q4.1) (by omega) (by rw[dH];omega) (λ a _ ha=>⟨_,by
  have:=ha 0 _ rfl;rwa[add_zero] at this, ?_⟩)
 have egl:(y::E)[(((y::E).length-1:Nat):Int).toNat]'(by simp)=(y::E).getLast (by simp):=by
  rw[List.getLast_eq_getElem];congr 1
 rw[egl,U];refine lW (a:=aC (bs (V[n-1]))) trivial (λ w5 o5 k5 z5=> ?_);have N:=(q4.ob o5 k5 rfl (by omega)).drew;generalize (⟨w4.heap.size,0,none⟩:kd)=c4 at N⊢;generalize w5.drew=w5 at N⊢;refine Sl.ix (enc:=gr) (z:=2) (l:=y::E) (λ _=>rfl) (by omega) (Sl.aH G N.1) (by omega) (by rw[dH];omega) (λ a' _ uK=>⟨_,uK 1 _ rfl, ?_⟩);have e0:((y::E)[(0:Int).toNat]'(by simp)).2=iw T i0:=hB8;rw[e0];have N:TS w0 ([aO bx 1 (aa P3 0 C3) (V.take 0),aJ c2 [an none],aJ c3 [aa P3 0 C3],aJ c4 [aC (bs V[n-1])]]++ts) w5:=N.perm (vN ts (alH (aJ c4 _) (aJ c3 _) (aO bx 1 _ _) (aJ c2 _)));refine aF (Vv (J:=JV c2 c3 c4 V V[n-1]) (us:=_) (ts:=ts) hR qg hT gQ hB1 hB2 Dv (λ k hk us ts w hJ q=>alF ?_) ⟨P3,C3,rfl⟩ N) ?_
 ·rw[hB5 k hk];have:=alG (u:=((T[i0+k]).2.2:Int)) (last:=V[n-1]) (k:=k) (by omega) (by omega) hJ q;have e:(!(V[k]'(by omega)==V[n-1]'(by omega)))=decide (k+1<n):=by
   rw[Bool.eq_iff_iff];simp only[Bool.not_eq_true',beq_eq_false_iff_ne,decide_eq_true_eq,ne_eq];constructor
   ·intro h;refine qq (λ h2=>h ?_);congr 1;omega
   ·intro h he;exact qt.1 JE k (n-1) (by omega) (by omega) (by omega) he
  rw[e] at this;exact this
 ·rintro _ w6 ⟨rfl,us6,⟨P6,C6,rfl⟩,q6⟩;refine⟨_,rfl,_,_,_,q6.ei (a:=c3) (v:=aa P6 n C6) (by simp),_,rfl, ?_⟩;have:V.take n=V:=by rw[<-hB4,fY]
  rw[this] at q6;exact q6.sub (.cons₂ _ (.cons _ (.cons _ (.cons _ (lE _)))))
theorem k96{nm:Wd}{i0 n:Nat}(E:gd w0 R v B S m pt)(u:qh B T pt)(H:nE T B)(h:B.length<=67108864)(G:zZ T m nm i0 n V)(q:TS w0 ts w):
  au ag 96 #[an (some R),aV #[],aC (bs nm),an none,ba] w λ r w'=>∃x,r=aZ #[x,aA]/\TS w0 (aO bx 1 x V::ts) w':=by
 apply c96;unfold PB;refine vG (λ N J Q=> ?_);refine aF (Vz E u H h G (q.aH J)) ?_;rintro _ K ⟨x,rfl,y⟩;have I:cP bx 1 K x V:=y.get (t:=aO bx 1 x V) (by simp);obtain⟨p,c,rfl,_⟩:=aX.ex I.cV;refine⟨_,_,rfl,_,_,_,rfl,_,rfl,_,λ w=>pK _ w,_,rfl,cJ rfl ⟨_,y.1.at E.at9,aT rfl ⟨_,rfl,y⟩⟩⟩
end
section
variable{w0 w w':ak}{ts:List LT}{b0:Option Nat}{B rest l:Wd}{p po:OA}{cc co pt:Nat}{R g:kd}{v:ay}{S V:List Wd}{m:Wd->Option (List cQ)}{T:List (Wd×Wd×Nat)}
theorem KK:gW ag 119 113 cO 1 8 [ah aj 0]:=
 ⟨⟨by kernel_rfl,by kernel_rfl,rfl,by decide⟩,λ _=>rfl,λ x u c=>by simp[cO] at c;subst c;rfl⟩
def iD(g:kd)(v:ay)(cur:Nat):LT:=aJ g [v,ah aL (cur:Int)]
theorem alR{n:Nat}(q:TS w0 ts w):au ag 161 #[aa p n cc] w λ r w'=>∃g,r=an (some ⟨g,0,none⟩)/\TS w0 (iD ⟨g,0,none⟩ (aa p n cc) 0::ts) w':=by
 apply ab3;unfold PU;exact gf (cs:=[aa p n cc,ah aL ((0:Nat):Int)]) (by simp) (λ u h c x=>⟨_,rfl,q.ob h c rfl (by omega)⟩)
theorem k89{refs:List Nat}(q:TS w0 ts w)(h:Bz w0 b0 (aa p (fM refs).length cc) (fM refs))(G:refs.length<=1000):
  au ag 89 #[aV #[aa p (fM refs).length cc,aA]] w λ r w'=>∃g v,r=aZ #[ah af (refs.length:Int),cG 260 (an (some ⟨g,0,none⟩)),aA]/\Bz w0 b0 v (refs.flatMap (be 4))/\TS w0 (iD ⟨g,0,none⟩ v 0::ts) w':=by
 have u:(refs.flatMap (be 4)).length=refs.length*4:=by
  clear G h;induction refs with
  |nil=>rfl
  |cons a l H=>rw[fG,aY,H,cH,dH];omega
 apply c89;unfold Pm;refine gf (cs:=[aa p (fM refs).length cc,aA]) (by simp) (λ N J I W=> ?_);have x:TS w0 (dF ⟨w.heap.size,0,none⟩ (aa p (fM refs).length cc)::ts) N:=q.ob J I rfl (by omega);generalize (⟨w.heap.size,0,none⟩:kd)=d at x⊢;generalize (aa p (fM refs).length cc)=v0 at h x;unfold fM at h;refine aF (x.yo h (by omega)) ?_;rintro _ E ⟨v2,c,y,rfl⟩;refine⟨_,rfl,aF (y.Cx c) ?_⟩;rintro _ E ⟨rfl,rfl⟩;obtain⟨Q,c2,rfl,_⟩:=aX.ex c.eD;refine⟨_,_,_,rfl,aF (y.fU c) ?_⟩;rintro _ E ⟨rfl,rfl⟩;refine⟨_,rfl,_,λ w=>cE _ w,_,rfl,aT rfl (aT ?_ ?_)⟩
 ·rw[bk (by omega) (by omega),u];simp;omega
 ·refine aF (alR y.tail) ?_;rintro _ U ⟨g,rfl,K⟩;exact⟨_,rfl,g,_,rfl,c,K⟩
theorem VA{K:ay->ak->Prop}(h:au ag 328 #[an (some g)] w K):cS ag (cG 260 (an (some g))) "Next" #[] w K:=⟨328,_,by kernel_rfl,h⟩
theorem alT{K:ay->ak->Prop}(h:au ag 326 #[an (some g)] w K):cS ag (cG 260 (an (some g))) "At" #[] w K:=⟨326,_,by kernel_rfl,h⟩
theorem alU{K:ay->ak->Prop}(h:au ag 327 #[an (some g)] w K):cS ag (cG 260 (an (some g))) "Err" #[] w K:=⟨327,_,by kernel_rfl,h⟩
theorem alV{cur:Nat}(q:TS w0 (iD g v cur::ts) w)(h:Bz w0 b0 v []):au ag 328 #[an (some g)] w λ r w'=>r=aQ false/\w'=w:=by
 obtain⟨p,c,rfl,_⟩:=aX.ex h.eD;have x:Ob w g [aa p 0 c,ah aL (cur:Int)]:=q.get (t:=iD g _ _) (by simp);have u:=x.at 0 rfl;rw[add_zero] at u;apply Qk;unfold Hg;exact⟨_,_,_,u,aT rfl ⟨rfl,rfl⟩⟩
theorem alW{cur n:Nat}(q:TS w0 (iD g v cur::ts) w)(h:Bz w0 b0 v (be 4 n++l))(N:n<4294967296):
  au ag 328 #[an (some g)] w λ r w'=>r=aQ true/\∃v',Bz w0 b0 v' l/\TS w0 (iD g v' n::ts) w':=by
 obtain⟨p,c,rfl,Z⟩:=aX.ex h.eD;have I:(be 4 n++l).length=l.length+4:=by rw[aY,cH];omega
 have x:∀{w u v},TS w0 (aJ g [v,u]::ts) w->at_ w g v:=λ{w u v} q=>by
  have:=q.at (a:=g) (cs:=[v,u]) (by simp) 0 rfl;rwa[add_zero] at this
 apply Qk;unfold Hg;refine⟨_,_,_,x q,cJ (by rw[decide_eq_true_iff];omega) ⟨_,_,_,x q.drew, ?_⟩⟩;have J:=q.drew;refine aF (sz (h.now J.1) N) ?_;rintro _ W ⟨rfl,Q⟩;have U:=J.aH Q;obtain⟨K,E⟩:=TS.wr U 1 (by simp) (ah aL (n:Int));refine⟨_,rfl,⟨trivial,K⟩, ?_⟩;generalize W.setCell _ _=X at E⊢;have E:TS w0 (aJ g [aa p (be 4 n++l).length c,ah aL (n:Int)]::ts) X:=E;refine⟨_,_,_,x E,_,λ w=>gV (e:=5) (by kernel_rfl) (z:=1) (by kernel_rfl) p _ c 4 _ (by omega) (by omega) _ none (.inr ⟨_,rfl⟩) (.inl ⟨rfl,rfl⟩) w,_,_,_,rfl, ?_⟩;obtain⟨G,y⟩:=TS.wr E 0 (by simp) (aa (C4 p 4 c 1) ((be 4 n++l).length-4) (c-4));rw[add_zero] at G y;refine⟨⟨trivial,G⟩,rfl,_, ?_,y⟩;have H:=qJ (h.now y.1) 4 (be 4 n++l).length (by omega) (bB _);rw[qn (cH _ _),I,Nat.add_sub_cancel,fY] at H;have:=h.aN;rw[I] at this y⊢;rw[Nat.add_sub_cancel] at y⊢;exact Bz.of y.1 H ((mg _ _ _ _ _ _ _).trans this) h.lt (by have:=h.len;omega)
theorem KL(x:Nat)(w:ak):(bw 119 1 #[(0,ah aj (x:Int))]).run ag w= .ok (aa (some ⟨w.heap.size,0,none⟩) 1 1) (w.alloc (.cells ⟨cO x⟩ 113)):=by kernel_rfl
theorem alX:gW ag 31 43 cO 1 8 [ah aj 0]:=
 ⟨⟨by kernel_rfl,by kernel_rfl,rfl,by decide⟩,λ _=>rfl,λ x u c=>by simp[cO] at c;subst c;rfl⟩
theorem alY(x:Nat)(w:ak):(bw 31 1 #[(0,ah aj (x:Int))]).run ag w= .ok (aa (some ⟨w.heap.size,0,none⟩) 1 1) (w.alloc (.cells ⟨cO x⟩ 43)):=by kernel_rfl
theorem alZ{cur:Nat}{refs:List Nat}(q:TS w0 (iD g v cur::ts) w)(h:Bz w0 b0 v (refs.flatMap (be 4)))(Z:∀x∈refs,x<4294967296)(hl:refs.length<=1000):
  au ag 141 #[cG 260 (an (some g))] w λ r w'=>∃x v' Q,r=aZ #[x,aA]/\TS w0 (aO cO 1 x refs::iD g v' Q::ts) w':=by
 apply MZ;unfold v141;have q0:=q.new (t:=aO cO 1 ba ([]:List Nat)) (Fr.refl _ _) (Own.nil _ _) (λ b U=>by cases U);refine MY (λ J P k C w'=>cG 260 (an (some g))=J/\∃(v:ay) (cur:Nat),k<=refs.length/\Bz w0 b0 v ((refs.drop k).flatMap (be 4))/\TS w0 (aO cO 1 (aa P k C) (refs.take k)::iD g v cur::ts) w') (λ _ _ k _ _=>refs.length-k) ⟨rfl,v,cur,dO _,h,q0⟩ ?_;rintro _ P k C w1 ⟨rfl,v1,y,hk,c,E⟩;unfold wW;by_cases W:k=refs.length
 ·subst W;rw[List.drop_length] at c;refine VA (aF (alV (E.perm (d_ _ _ _)) c) ?_);rintro _ G ⟨rfl,rfl⟩;rw[fY] at E;refine⟨_,rfl,aT rfl (alU (acB ⟨_,rfl,_,v1,y,rfl,E⟩))⟩
 ·have u:k<refs.length:=by omega
  rw[gS u,fG] at c;have hx:=Z _ (iy u);refine VA (aF (alW (E.perm (d_ _ _ _)) c hx) ?_);rintro _ G ⟨rfl,v2,H,N⟩;have X:Ob G g [v2,ah aL (refs[k]:Int)]:=N.get (t:=iD g v2 refs[k]) (by simp);refine⟨_,rfl,cJ rfl (alT (acz ⟨_,X.at 1 rfl,_,rfl, ?_⟩))⟩;have I:(refs.take k).length=k:=by rw[fS];omega
  have q3:TS w0 (aO cO 1 (aa P k C) (refs.take k)::iD g v2 refs[k]::ts) G:=N.perm (d_ _ _ _);rw[dV (by omega) (by omega)];refine q3.kB KK (x:=refs[k]) (KL _ G) (by omega) (by omega) (λ p6 c6 w6 K _=> ?_);rw[I] at K⊢;rw[<-jm u] at K;exact⟨⟨rfl,v2,_,by omega,H,K⟩,by omega⟩
theorem VB{x:ay}{refs:List Nat}(q:TS w0 (aO cO 1 x refs::ts) w)(hl:refs.length<=1000):
  au ag 142 #[x] w λ r w'=>TS w0 (aO cO 1 r refs::aO cO 1 x refs::ts) w':=by
 have Q:cP cO 1 w x refs:=q.get (t:=aO cO 1 x refs) (by simp);obtain⟨p,cc,rfl,_⟩:=aX.ex Q.cV;apply YF;unfold M3;have X:=q.new (t:=aO cO 1 ba ([]:List Nat)) (Fr.refl _ _) (Own.nil _ _) (λ b K=>by cases K);refine YE (λ P k C W U I Z t8 w'=>p=W/\U=refs.length/\cc=I/\Z=(refs.length:Int)/\t8=(k:Int)/\k<=refs.length/\TS w0 (aO cO 1 (aa P k C) (refs.take k)::aO cO 1 (aa p refs.length cc) refs::ts) w') (λ _ k _ _ _ _ _ _ _=>refs.length-k) ⟨rfl,rfl,rfl,rfl,rfl,dO _,X⟩ ?_;rintro P k C _ _ _ _ _ H ⟨rfl,rfl,rfl,rfl,rfl,hk,c⟩;unfold FN;refine bn (λ h=> ?_) (λ h=> ?_)
 ·have y:k<refs.length:=by simp at h;omega
  have E:cP cO 1 H (aa p refs.length cc) refs:=c.get (t:=aO cO 1 (aa p refs.length cc) refs) (by simp);refine Sl.ix (enc:=cO) (z:=1) (l:=refs) (λ _=>rfl) (by omega) E.cV (by omega) (by omega) (λ a _ J=>⟨_,by
   have:=J 0 _ rfl;rwa[add_zero] at this, ?_⟩)
  have u:(refs.take k).length=k:=by rw[fS];omega
  have e:refs[((k:Nat):Int).toNat]'(by simp;omega)=refs[k]:=by congr 1
  rw[e];refine c.kB alX (x:=refs[k]) (alY _ H) (by omega) (by omega) (λ p6 c6 w6 G _=> ?_);rw[u] at G⊢;rw[<-jm y] at G;rw[show aq af ((k:Int)+1)=((k+1:Nat):Int) by rw[bk (by omega) (by omega)];omega];exact⟨⟨rfl,rfl,rfl,rfl,rfl,by omega,G⟩,by omega⟩
 ·have N:k=refs.length:=by simp at h;omega
  subst N;rw[fY] at c;exact c
theorem Da{cur:Nat}{refs:List Nat}(q:TS w0 (iD g v cur::ts) w)(h:Bz w0 b0 v (refs.flatMap (be 4)))(J:∀x∈refs,x<4294967296)(u:refs.length<=1000):
  au ag 67 #[cG 260 (an (some g))] w λ r w'=>∃x,r=aZ #[x,aQ true]/\TS w0 (aO cO 1 x refs::ts) w':=by
 apply MG;unfold FI;refine aF (alZ q h J u) ?_;rintro _ K ⟨x,v',Q,rfl,E⟩;have I:cP cO 1 K x refs:=E.get (t:=aO cO 1 x refs) (by simp);obtain⟨p,cc,rfl,_⟩:=aX.ex I.cV;refine⟨_,_,rfl,_,_,_,rfl,_,rfl,_,λ w=>cE _ w,_,rfl,aT rfl ?_⟩;refine aF (VB E u) ?_;rintro y N G;have c:cP cO 1 N y refs:=G.get (t:=aO cO 1 y refs) (by simp);obtain⟨U,H,rfl,_⟩:=aX.ex c.cV;exact⟨_,_,_,rfl,_,rfl,G.sub (.cons_cons _ (.cons _ (.cons _ (lE _))))⟩
end
end Go.Proofs
