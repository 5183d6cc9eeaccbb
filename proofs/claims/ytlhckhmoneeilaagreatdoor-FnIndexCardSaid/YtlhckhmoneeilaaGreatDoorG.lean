/- The law FnIndex answers true for every input, and what came in reads behind the call as it read before (Rows.FnIndexCardSaid). Conditions: those of the given card alone, which ties the listed package variables to the program. Packed by a program of ours: short names, no remarks. -/
import Derived.Test.YtlhckhmoneeilaaGreatDoorF
import Derived.LaidMore
import Derived.ProofKit
import Derived.ReadAgain
import Derived.SevenTiedAt
import Derived.Test.YtlhckhmoneeilaaGreatDoorCards
import Derived.Test.YtlhckhmoneeilaaGreatDoorTie
set_option linter.all false
set_option maxHeartbeats 4000000
set_option maxRecDepth 100000
set_option autoImplicit true
open Array renaming getElem?_eq_some_iff→rD
open Bool renaming and_eq_true→rC
open ByteArray renaming empty→dk
open Classical renaming byContradiction→qq
open Go renaming Addr→al,FuncId→fz,Program→bU,TypeId→cK,Value→ay,World→ak,bytes→fA,convert→dq
open Go.Addr renaming add→aw
open Go.Builtin renaming append_→cM
open Go.Instr renaming buildSlice→bw,lookup→dJ
open Go.IntKind renaming i64→af,u32→aL,u64→aj,u8→aG,wrap→aq
open Go.Op renaming bytesLess→ds
open Go.Operand renaming const→bt,tmp→br
open Go.Proofs.Tryz renaming f3→ig,prog→ag
open Go.Value renaming agg→aV,bool→aQ,iface→cG,int→ah,nilIface→aA,pointer→an,slice→aa,string→aC,tuple→aZ
open Go.World renaming setCell→nI
open List renaming append_assoc→dx,count_cons→oW,drop_eq_getElem_cons→gS,drop_left'→qn,flatMap_append→jK,flatMap_cons→fG,getD_eq_getElem?_getD→l8,getElem?_append_left→oT,getElem?_append_right→rE,getElem?_eq_getElem→gH,getElem?_eq_some_iff→oQ,getElem_map→mJ,getElem_mem→iy,length_append→aY,length_cons→dH,length_drop→hY,length_map→fu,length_take→fS,length→fZ,map_append→iE,map_cons→hW,mem_append→mG,mem_cons_of_mem→jI,mem_cons→dX,mem_flatMap→jJ,mem_map→dt,mem_singleton→oO,nil_append→oS,pairwise_cons→iF,pairwise_iff_getElem→qt,perm_iff_count→oV,perm_middle→gI,range→lZ,take_append_drop→kC,take_length→fY,take_of_length_le→lD,take_succ_eq_append_getElem→jm
open List.Perm renaming append_right→vN,swap→d_
open List.Sublist renaming refl→lE
open Nat renaming add_sub_cancel_left→tz,le_refl→bB,le_trans→eX,lt_of_lt_of_le→dR,zero_le→dO
open Option.some renaming inj→iW
namespace Go.Proofs
open Go Go.V
attribute [local irreducible]cI be
section
variable{w0 w w':ak}{ts:List LT}{b0:Option Nat}{B rest:Wd}{p po:Option al}{cc co pt:Nat}{R:al}{v:ay}{S:List Wd}{m:Wd->Option (List cQ)}
theorem gd.eM(h:gd w R v B S m pt):at_ w R (cW v):=by
 obtain⟨c,tc,sy,dc,st,pm,r,po,co,g,q,_⟩:=h.ex;have:=q.at 0 rfl;rwa[add_zero] at this
theorem gd.at9(h:gd w R v B S m pt):at_ w (R.add 9) (ah af 2):=by
 obtain⟨c,tc,sy,dc,st,pm,r,po,co,g,q,_⟩:=h.ex;exact q.at 9 rfl
theorem gd.eD(h:gd w R v B S m pt):cz w v B/\B.length<=1073741824/\∃r,B.drop 5=dh (cY S)++r:=by
 obtain⟨c,tc,sy,dc,st,pm,u,po,co,g,_,_,_,q,_⟩:=h.ex;exact⟨q.eD,q.len,q.sym⟩
theorem gd.bz(h:gd w R v B S m pt)(c:B≠[]):Bz w (aN v) v B:=⟨h.eD.1,rfl,λ b e=>Vr h.eD.1 c e,h.eD.2.1⟩
theorem k90(h:gd w R v B S m pt):au ag 90 #[an (some R)] w λ r w'=>r=ah af 2/\w'=w:=by
 apply c90;unfold Pn;exact⟨_,h.at9,rfl,rfl⟩
theorem k91(h:gd w R v B S m pt):au ag 91 #[an (some R)] w λ r w'=>r=ah af (B.length:Int)/\w'=w:=by
 apply c91;unfold v91;obtain⟨p,c,rfl,_⟩:=aX.ex h.eD.1;exact⟨_,h.eM,kU ⟨_,rfl,rfl,rfl⟩⟩
def hE(v:ay)(n:Nat)(s:Wd):List ay:=[v,aA,ah af (n:Int),aC (bs s),aA]
theorem alk(q:TS w0 ts w)(h:Bz w0 b0 (aa p B.length cc) B)(hd:B.drop 5=dh (cY S)++rest)(lx:S.length<=100000):
  au ag 162 #[aV #[cW (aa p B.length cc),ah af 2,ah af 5,aa po (eQ S 5).length co,ah af (S.length:Int)]] w λ r w'=>∃n v,r=cG 339 (an (some ⟨n,0,none⟩))/\Bz w0 b0 v (S.flatMap b8)/\TS w0 (aJ ⟨n,0,none⟩ (hE v S.length [])::ts) w':=by
 have gQ:=h.len;have W:B.drop 5=be 4 (cY S).length++(cY S++(be 4 (cI 0 (cY S))++rest)):=by
  rw[hd,dh];simp only[dx]
 have iP:(cY S).length<=B.length:=by
  have:=congrArg fZ W;rw[hY] at this;simp only[aY] at this;omega
 apply ab4;unfold v162;refine gf (cs:=ke (aa p B.length cc) 5 po (eQ S 5).length co S) (by simp[ke]) (λ w1 o1 k1 z1=> ?_);have G:=(q.ob o1 k1 rfl (by omega)).drew;generalize (⟨w.heap.size,0,none⟩:al)=c at G⊢;generalize w1.drew=w1 at G⊢;have u:∀{w us},TS w0 us w->aJ c (ke (aa p B.length cc) 5 po (eQ S 5).length co S)∈us->at_ w (c.add 0) (cW (aa p B.length cc))/\at_ w (c.add 2) (ah af ((5:Nat):Int)):=λ q hm=>⟨q.at hm 0 rfl,q.at hm 2 rfl⟩
 have Q:=(u G (by simp)).1;rw[add_zero] at Q;refine⟨_,Q,_,(u G (by simp)).2, ?_⟩;have tt:∀{w:ak} {us:List LT} {K:ay->ak->Prop},TS w0 us w->(∀t w',lK w' t->TS w0 us w'->K (an (some t)) w')->au ag 102 #[] w K:=λ q X=>aF sq (by
  rintro _ w'⟨t,rfl,_,_,E,k⟩;exact X t w' E (q.aH k))
 have oJ:∀{w:ak} {us:List LT} {t:al} {K:ay->ak->Prop},TS w0 us w->lK w t->(∀pv H w',Bz w0 b0 (aa pv (cY S).length H) (cY S)->TS w0 us w'->K (aV #[aa pv (cY S).length H,aA]) w')->au ag 106 #[cW (aa p B.length cc),ah af ((5:Nat):Int),an (some t)] w K:=λ q E X=>aF (CD (h.now q.1) E gQ W) (by
  rintro _ w'⟨v,rfl,hv,lS,k⟩;obtain⟨pv,H,rfl,_⟩:=aX.ex hv;have q':=q.aH k;exact X pv H w' (Bz.of q'.1 hv (lS.trans h.aN) h.lt (by omega)) q')
 have fin:∀{w:ak} {d:Nat} {v:ay},Bz w0 b0 v (cY S)->TS w0 (dF ⟨d,0,none⟩ v::aJ c (ke (aa p B.length cc) 5 po (eQ S 5).length co S)::ts) w->
   au ag 160 #[(an (some ⟨d,0,none⟩))] w λ tk N=>aD af (ax tk) λ zT=>az (at_ N (aw ⟨d,0,none⟩ 0)) λ sP sL sC=>aM (at_ N (aw ⟨d,0,none⟩ 1)) λ zW=>
    a_ N (.cells #[(aa sP sL sC),zW,(ah af zT),(aC dk),aA] 341) λ J w8=>∃n v,cG 339 (an (some ⟨J,0,none⟩))=cG 339 (an (some ⟨n,0,none⟩))/\Bz w0 b0 v (S.flatMap b8)/\TS w0 (aJ ⟨n,0,none⟩ (hE v S.length [])::ts) w8:=by
  intro w d v hb q;unfold cY at hb;refine aF (q.yo hb (by omega)) ?_;rintro _ N ⟨v7,U,q7,rfl⟩;obtain⟨p7,c7,rfl,_⟩:=aX.ex U.eD;have o7:Ob N ⟨d,0,none⟩ [aa p7 (S.flatMap b8).length c7,aA]:=q7.get (t:=dF ⟨d,0,none⟩ (aa p7 (S.flatMap b8).length c7)) (by simp);refine⟨_,rfl,_,_,_,o7.at 0 rfl,_,o7.at 1 rfl, ?_⟩;have h8:=gf (w:=N) (cs:=hE (aa p7 (S.flatMap b8).length c7) S.length []) (ty:=341) (K:=λ J w8=>∃n v,cG 339 (an (some ⟨J,0,none⟩))=cG 339 (an (some ⟨n,0,none⟩))/\Bz w0 b0 v (S.flatMap b8)/\TS w0 (aJ ⟨n,0,none⟩ (hE v S.length [])::ts) w8) (by simp[hE]) (λ w8 o8 k8 z8=>
   ⟨_,_,rfl,U,(q7.tail.tail).ob o8 k8 rfl (by omega)⟩)
  exact h8
 have new:∀{w:ak} {us:List LT},TS w0 us w->TS w0 (aJ ⟨w.heap.size,0,none⟩ [ba,aA]::us) (w.alloc (.cells ⟨[ba,aA]⟩ 182)):=λ{w} {us} q=>
  q.ob (Ob.new w [ba,aA] 182) (bA _ _) rfl (by simp)
 have put:∀{w:ak} {us:List LT} {n:Nat} {v:ay} {K:ak->Prop},gj v->TS w0 (aJ ⟨n,0,none⟩ [ba,aA]::us) w->(∀w',TS w0 (dF ⟨n,0,none⟩ v::us) w'->K w')->wr w (aw ⟨n,0,none⟩ 0) v λ gn=>wr gn (aw ⟨n,0,none⟩ 1) aA λ nt=>K nt:=by
  intro w us n v K h1 q X;obtain⟨g1,G⟩:=q.wr 0 (by simp) v;refine⟨⟨h1,g1⟩, ?_⟩;obtain⟨g2,x⟩:=G.wr 1 (by simp) aA;exact⟨⟨trivial,g2⟩,X _ x⟩
 refine⟨?_, ?_⟩
 ·refine tt G (λ t w2 E x=>⟨_,rfl,(u x (by simp)).2,(u x (by simp)).1, ?_, ?_⟩)
  ·refine oJ x E (λ pv H w3 jU y=>⟨_,_,_,_,rfl, ?_⟩);have Z:=new y;exact put trivial Z (λ w5 q5=>fin jU q5)
  ·have y:=new x;refine⟨(u y (by simp)).2,(u y (by simp)).1, ?_⟩;refine oJ y ((bA _ _).at E) (λ pv H w4 I Z=>⟨_,_,_,_,rfl, ?_⟩);exact put trivial Z (λ w5 q5=>fin I q5)
 ·have x:=new G;refine⟨(u x (by simp)).2,(u x (by simp)).1, ?_⟩;refine tt x (λ t w3 E y=>⟨_,rfl,(u y (by simp)).2,(u y (by simp)).1, ?_⟩);refine oJ y E (λ pv H w4 I Z=>⟨_,_,_,_,rfl, ?_⟩);exact put trivial Z (λ w5 q5=>fin I q5)
theorem alm(w:ak)(e:cK)(s:ByteArray):aS w (Go.Lib.bytesWorld w e s):=
 ⟨rfl,rfl,rfl,by rw[Go.Lib.bytesWorld_size];omega,λ b o c _=>by unfold view;rw[Go.Lib.bytesWorld_at_old w e s b c]⟩
theorem aln{w:ak}{x:Wd}{K:Option al->Nat->Nat->ak->Prop}(J:∀p c w',aS w w'->cz w' (aa p x.length c) x->K p x.length c w'):
  aP ag (dq 9 26 (aC (bs x))) w λ r Q=>az (ax r) λ p n c=>K p n c Q:=by
 have N:=Go.Lib.run_convert_string_bytes (P:=ag) w 9 26 5 (bs x) (u:= .string) (by kernel_rfl) (by kernel_rfl) (by kernel_rfl);refine⟨_,_,N,_,_,_,rfl, ?_⟩;have h:(bs x).size=x.length:=rfl;rw[h];refine J _ _ _ (alm w 5 (bs x)) ⟨_,_,rfl, ?_,kF (enc:=fK) (z:=1) (λ _=>rfl) x,λ j u G=>⟨_,rfl,rfl, ?_⟩⟩
 ·rw[<-h];exact grownCap_ge _ _ _ _
 ·have e:x.flatMap fK=x.map λ b=>ah aG (b.toNat:Int):=List.map_eq_flatMap.symm
  rw[e,List.getElem?_map] at G;obtain⟨b,E,rfl⟩:=Option.map_eq_some_iff.1 G;have q:j<x.length:=(oQ.1 E).1;have y:=Go.Lib.bytesWorld_cell w 5 (bs x) j q;have H:(bs x).data.toList.getD j 0=b:=by
   rw[l8];show(x[j]?).getD 0=b;rw[E];rfl
  rw[H] at y;have I:(⟨w.heap.size,0,none⟩:al).add j=⟨w.heap.size,j,none⟩:=by
   unfold aw;split<;>simp_all
  rw[I];exact y
theorem TS.Vs{l l':Wd}{d:al}{cs:List ay}{N:fz}{args:Array ay}{Q:ay->ak->Prop}(q:TS w0 (aJ d (v::aA::cs)::ts) w)(h:Bz w0 b0 v l)(U:l'.length<=l.length)
  (K:dT w d v l->au ag N args w λ r w'=>Q r w'/\gE w d v w' l'):
  au ag N args w λ r w'=>∃v',Bz w0 b0 v' l'/\TS w0 (aJ d (v'::aA::cs)::ts) w'/\Q r w':=by
 have x:Ob w d (v::aA::cs):=q.get (t:=aJ d _) (by simp);have hd:dT w d v l:=by
  refine⟨⟨x.1,λ i u hi=>x.2 i u ?_⟩,h.now q.1,λ e=> ?_,h.len⟩
  ·rcases i with _|_|i
   ·exact hi
   ·exact hi
   ·cases hi
  ·have:=(q.2.1 (aJ d (v::aA::cs)) (by simp)).2 d.block rfl;have:=h.lt d.block (by rw[<-h.aN];exact e);omega
 refine aF (K hd) ?_;rintro r w' ⟨W,v',y,E,I⟩;have G:Ob w' d (v'::aA::cs):=by
  refine⟨x.1,λ i u hi=> ?_⟩;rcases i with _|_|i
  ·exact y.1.2 0 u hi
  ·exact y.1.2 1 u hi
  ·have:=x.2 (i+2) u hi;have c:¬((λ b o=>b=d.block/\d.off<=o/\o<d.off+2) (d.add (i+2)).block (d.add (i+2)).off):=by
    rw[cT,fJ];omega
   exact⟨E.at this.1 c,E.can this.2 (d.add (i+2)).off c⟩
 have H:=q.ey (t':=aJ d (v'::aA::cs)) E (λ b o c=>c.1) G (λ b J=> .inl J);exact⟨v',Bz.of H.1 y.2.1 (I.trans h.aN) h.lt (eX U h.len),H,W⟩
end
section
variable{w0 w w':ak}{ts:List LT}{b0:Option Nat}{B rest:Wd}{p po:Option al}{cc co pt:Nat}{R s:al}{v:ay}{S:List Wd}{m:Wd->Option (List cQ)}
theorem TS.kB{α:Type}{e:cK}{ty:cK}{enc:α->List ay}{z fA:Nat}{zs:List ay}(W:gW ag ty e enc z fA zs){v N:ay}{l:List α}{x:α}{K:Option al->Nat->Nat->ak->Prop}
  (h:TS w0 (aO enc z v l::ts) w)(E:(bw ty 1 #[(0,N)]).run ag w= .ok (aa (some ⟨w.heap.size,0,none⟩) 1 1) (w.alloc (.cells ⟨enc x⟩ e)))(hl:(l.length+1)*fA<=140737488355328)(J:l.length+1<=4611686018427387904)
  (Z:∀p cc w',TS w0 (aO enc z (aa p (l.length+1) cc) (l++[x])::ts) w'->Fr (λ b o=>aN v=some b) w w'->K p (l.length+1) cc w'):
  aP ag (bw ty 1 #[(0,N)]) w λ r w1=>az (ax r) λ sP sL sC=>aP ag (cM #[ty,ty] ty #[v,aa sP sL sC]) w1 λ r2 w2=>az (ax r2) λ p n c=>K p n c w2:=by
 have ho:cP enc z w v l:=h.get (t:=aO enc z v l) (by simp);refine HL W E ho hl J (λ p cc w' y X H=> ?_);have u:Fr (λ b o=>aN v=some b) w w':=X.mono (λ b o _ G=>G.1);refine Z p cc w' (h.ey (t':=aO enc z (aa p (l.length+1) cc) (l++[x])) u (λ b o G=>G) y (λ b E=> ?_)) u;rcases H with U|⟨g,Q,I⟩
 ·have q:aN (aa p (l.length+1) cc)=some b:=E;exact .inl (show aN v=some b by rw[<-U];exact q)
 ·have q:aN (aa p (l.length+1) cc)=some b:=E;rw[Q] at q;cases q;exact .inr ⟨I,y.lt Q⟩
theorem alo{cur:Wd}(q:TS w0 (aJ s (hE v 0 cur)::ts) w):au ag 367 #[an (some s)] w λ r w'=>r=aQ false/\w'=w:=by
 apply Qm;unfold Hi B9;have c:Ob w s (hE v 0 cur):=q.get (t:=aJ s _) (by simp);exact⟨_,c.at 2 rfl,cJ rfl ⟨rfl,rfl⟩⟩
theorem alp{n:Nat}{cur x l:Wd}(q:TS w0 (aJ s (hE v (n+1) cur)::ts) w)(h:Bz w0 b0 v (b8 x++l))(hn:n<100000):
  au ag 367 #[an (some s)] w λ r w'=>r=aQ true/\∃v',Bz w0 b0 v' l/\TS w0 (aJ s (hE v' n x)::ts) w':=by
 apply Qm;unfold Hi;have u:Ob w s (hE v (n+1) cur):=q.get (t:=aJ s _) (by simp);refine⟨_,u.at 2 rfl,aT (by rw[beq_eq_false_iff_ne];omega) ⟨_,u.at 4 rfl,_,λ w=>cE _ w,_,rfl,aT rfl ?_⟩⟩;unfold Hh;refine aF (q.Vs (l':=l) (Q:=λ r w'=>cz w' r x/\aN r=aN v) h (by simp) (λ hd=>aF (Go.Proofs.jD iO hd) (λ _ _ h=>⟨⟨h.1,h.2.1⟩,h.2.2⟩))) ?_;rintro r I ⟨v1,E,X,U,_⟩;obtain⟨rp,rc,rfl,W⟩:=u9 U;refine⟨_,_,_,rfl,aF W ?_⟩;rintro _ I ⟨rfl,rfl⟩;obtain⟨K,c⟩:=X.wr 3 (by simp) (aC (bs x));refine⟨_,rfl,⟨trivial,K⟩, ?_⟩;generalize I.setCell _ _=H at c⊢;have c:TS w0 (aJ s (hE v1 (n+1) x)::ts) H:=c;have u:Ob H s (hE v1 (n+1) x):=c.get (t:=aJ s _) (by simp);obtain⟨N,y⟩:=c.wr 2 (by simp[hE]) (ah af (n:Int));refine⟨_,u.at 2 rfl, ?_⟩;dsimp only;rw[show aq af (((n+1:Nat):Int)-1)=(n:Int) by rw[bk (by omega) (by omega)];omega];refine⟨⟨trivial,N⟩, ?_⟩;generalize H.setCell _ _=J at y⊢;have y:TS w0 (aJ s (hE v1 n x)::ts) J:=y;refine aF (y.Vs (l':=l) (Q:=λ r w'=>r=aA/\w'=J) E (bB _) (λ hd=>aF (Go.Proofs.fU hd) (λ r w' h=>⟨h,v1, ?_, ?_,rfl⟩))) ?_
 ·rw[h.2];exact hd
 ·rw[h.2];exact Fr.refl _ _
 ·rintro _ w4 ⟨v4,G,Z,rfl,rfl⟩;refine⟨_,rfl,_,λ w=>cE _ w,_,rfl,aT rfl ⟨rfl,v4,G,Z⟩⟩
theorem Vt{K:ay->ak->Prop}(h:au ag 367 #[an (some s)] w K):cS ag (cG 339 (an (some s))) "Next" #[] w K:=⟨367,_,by kernel_rfl,h⟩
theorem alq{n:Nat}{cur:Wd}{K:ay->ak->Prop}(q:Ob w s (hE v n cur))(x:∃p l c,v=aa p l c)(h:∀w',aS w w'->K (aC (bs cur)) w'):cS ag (cG 339 (an (some s))) "At" #[] w K:=by
 have e:(callMethod (cG 339 (an (some s))) "At" #[]).run ag w=((do pure (aV (<-loadCells s 5)):Sem ay)>>=λ v=>pure (.enter 365 #[v])).run ag w:=by kernel_rfl
 have r:=V.run_loadCells (P:=ag) (w:=w) (a:=s) (hE v n cur) 0 #[] ⟨q.at 0 rfl,q.at 1 rfl,q.at 2 rfl,q.at 3 rfl,q.at 4 rfl,trivial⟩;refine⟨365,#[aV ⟨hE v n cur⟩], ?_, ?_⟩
 ·rw[e];have u:(loadCells s 5).run ag w= .ok ⟨hE v n cur⟩ w:=by
   unfold loadCells;simpa[hE] using r
  simp[u]
 ·obtain⟨G,vl,vc,rfl⟩:=x;apply acC;unfold Ql;refine gf (cs:=hE (aa G vl vc) n cur) (by simp[hE]) (λ H E y I=> ?_);exact⟨_,E.at 3 rfl,h H y⟩
theorem k93(h:gd w0 R v B S m pt)(G:B≠[])(x:S.length<=100000)(q:TS w0 ts w):
  au ag 93 #[an (some R)] w λ r w'=>∃n v',r=cG 339 (an (some ⟨n,0,none⟩))/\Bz w0 (aN v) v' (S.flatMap b8)/\TS w0 (aJ ⟨n,0,none⟩ (hE v' S.length [])::ts) w':=by
 have I:=h.bz G;obtain⟨c,tc,sy,dc,st,pm,N,po,co,g,H,K,u,E,_⟩:=(h.aH q.1).ex;obtain⟨p,cc,rfl,_⟩:=aX.ex E.eD;obtain⟨rest,hd⟩:=E.sym;apply c93;unfold v93;refine⟨_,H.at 5 rfl,_,u.at 0 rfl,_,u.at 1 rfl,_,u.at 2 rfl,_,_,_,u.at 3 rfl,_,u.at 4 rfl, ?_⟩;refine aF (alk q I hd x) ?_;rintro _ Q ⟨n,v',rfl,y,J⟩;exact⟨_,rfl,n,v',rfl,y,J⟩
theorem k92(q:TS w0 (aJ s (hE v S.length [])::ts) w)(h:Bz w0 b0 v (S.flatMap b8))(N:S.length<=1000):
  au ag 92 #[cG 339 (an (some s))] w λ r w'=>TS w0 (aO bx 1 r S::ts) w':=by
 apply c92;unfold Pp;have Z:=q.new (t:=aO bx 1 ba ([]:List Wd)) (Fr.refl _ _) (Own.nil _ _) (λ b Q=>by cases Q);refine abH (λ G P L C w'=>cG 339 (an (some s))=G/\∃(k:Nat) (v:ay) (cur:Wd),k<=S.length/\L=k/\Bz w0 b0 v ((S.drop k).flatMap b8)/\TS w0 (aO bx 1 (aa P L C) (S.take k)::aJ s (hE v (S.length-k) cur)::ts) w') (λ _ _ L _ _=>S.length-L) ⟨rfl,0,v,[],dO _,rfl,h,Z⟩ ?_;rintro _ P k C w1 ⟨rfl,_,v1,cur,hk,rfl,u,c⟩;unfold GX;by_cases U:k=S.length
 ·subst U;rw[Nat.sub_self] at c;refine Vt (aF (alo (c.perm (d_ _ _ _))) ?_);rintro _ w2 ⟨rfl,rfl⟩;rw[fY] at c;exact⟨_,rfl,aT rfl (c.sub (.cons₂ _ (.cons _ (lE _))))⟩
 ·have E:k<S.length:=by omega
  rw[show S.length-k=(S.length-(k+1))+1 by omega] at c;rw[gS E,fG] at u;refine Vt (aF (alp (c.perm (d_ _ _ _)) u (by omega)) ?_);rintro _ w2 ⟨rfl,v2,y,I⟩;refine⟨_,rfl,cJ rfl ?_⟩;obtain⟨vp,vc,ev,_⟩:=aX.ex y.eD;refine alq (I.get (t:=aJ s (hE v2 (S.length-(k+1)) (S[k]))) (by simp)) ⟨_,_,_,ev⟩ (λ w3 k3=>⟨_,rfl, ?_⟩);have q3:=I.aH k3;refine aln (λ p4 c4 J X K=> ?_);have q4:=q3.aH X;refine⟨_,_,mU K,_,rfl, ?_⟩;have W:(S.take k).length=k:=by rw[fS];omega
  have q5:TS w0 (aO bx 1 (aa P k C) (S.take k)::aJ s (hE v2 (S.length-(k+1)) (S[k]))::ts) J:=q4.perm (d_ _ _ _);refine q5.kB ri (x:=S[k]) (vi _ J) (by omega) (by omega) (λ p6 c6 w6 H _=> ?_);rw[W] at H⊢;rw[<-jm E] at H;exact⟨⟨rfl,k+1,v2,_,by omega,rfl,y,H⟩,by omega⟩
end
section
variable{w0 w w':ak}{ts:List LT}{b0:Option Nat}{B rest:Wd}{p po:Option al}{cc co pt:Nat}{R s:al}{v:ay}{S:List Wd}{m:Wd->Option (List cQ)}
theorem Vu{w:ak}:au ag 118 #[aV #[]] w λ r w'=>r=aA/\aS w w':=by
 apply abM;exact⟨rfl,bA _ _⟩
theorem k49{w:ak}:au ag 49 #[] w λ r w'=>r=aV #[]/\aS w w':=by
 apply c49;unfold v49;refine aF U4 ?_;rintro _ w' ⟨rfl,k⟩;exact⟨rfl,rfl,(bA _ _).trans k⟩
theorem k94(hR:gd w0 R v B S m pt)(lx:S.length<=1000)(hm:∀k,(m k).isSome->k=[]\/k∈S)(q:TS w0 ts w):
  au ag 94 #[an (some R),aV #[],ba] w λ r w'=>∃x l,r=aZ #[x,aA]/\WS l/\(∀n,n∈l↔n≠[]/\(m n).isSome)/\TS w0 (aO bx 1 x l::ts) w':=by
 obtain⟨c,tc,sy,dc,st,pm,ns,po,co,g,I,h2,h3,h4,⟨E,tu,zX,nD⟩,_⟩:=hR.ex;apply c94;unfold Pu;have q1:=q.aH (bA w (.cells #[] 111));show aB (decide (((0:Nat):Int)>0)) _ _;refine aT rfl ?_;generalize w.alloc (.cells #[] 111)=w1 at q1⊢;have J:∀k,(E k).isSome↔(m k).isSome:=λ k=>by
  cases hh:E k with
  |none=>rw[nD k hh];simp
  |some t=>obtain⟨l,e,_⟩:=zX k t hh;rw[e];simp
 have W:∀ks:List Wd,ks.Nodup->(∀k,k∈ks↔(E k).isSome)->ks.length<=1001:=λ ks lU hk=>by
  have De:ks⊆[]::S:=λ k h=>by
   rcases hm k ((J k).1 ((hk k).1 h)) with e|e
   ·rw[e];simp
   ·exact jI _ e
  have:=lU.length_le_of_subset De;rw[dH] at this;omega
 refine⟨_,q1.1.at (I.at 3 rfl), ?_⟩;obtain⟨ks,JM,ml,hl⟩:=Cm (ty:=3) ru.1 (tu.aH q1.1);refine⟨_,_,hl,_,rfl, ?_⟩;have qN:=W ks JM ml;obtain⟨w3,kn,lL,ja⟩:=uX ri.ty w1 ks.length (by omega) (by omega);refine⟨_,_,kn,_,_,_,rfl, ?_⟩;have q3:=q1.new (t:=aO bx 1 (aa (some ⟨w1.heap.size,0,none⟩) 0 ks.length) ([]:List Wd)) ja lL (λ b H=>by
  have gD:some w1.heap.size=some b:=H;cases gD;exact⟨bB _,lL.lt rfl⟩)
 refine⟨_,q3.1.at (I.at 3 rfl), ?_⟩;obtain⟨tq,w4,jT,kQ,lU,D0,ko,Ur⟩:=yh ru.1 (tu.aH q3.1);refine⟨_,_,jT, ?_⟩;have q4:=(q3.new (t:=fE w3.heap.size) ko (show w3.heap.size<w4.heap.size by omega) (λ b H=>by
  have gD:b=w3.heap.size:=H;omega)).perm (d_ _ _ _)
 have ap5:=W tq lU D0;have Kb:pm<w0.heap.size:=by
  obtain⟨l,c,H,_⟩:=tu;exact(rD.1 H.obj).1
 generalize w3.heap.size=it at kQ q4;refine abR (λ P n C t w'=>t=an (some ⟨it,0,none⟩)/\∃l rest,n=l.length/\l.length+rest.length<=tq.length/\l.Nodup/\(∀k∈l,k∉rest/\k≠[]/\(E k).isSome)/\(∀k,k≠[]->(E k).isSome->k∈l\/k∈rest)/\gK dM b9 w' it pm E rest/\TS w0 (aO bx 1 (aa P n C) l::fE it::ts) w') (λ _ _ _ _ w=>zV w it pm) ⟨rfl,[],tq,rfl,by simp,List.nodup_nil,by simp,λ k _ h=> .inr ((D0 k).2 h),kQ,q4⟩ ?_;rintro P _ C _ w5 ⟨rfl,l,rest,rfl,Z,N,u,jc,K,q5⟩;unfold G0;have nD:=TE K;rcases yi (ty:=0) K with⟨rfl,hr⟩|⟨k,vv,a,b,w6,rfl,hfk,hr,G,hf⟩
 ·refine⟨_,_,hr,false,_,_,rfl,aT rfl ⟨_,rfl, ?_⟩⟩;unfold BN;refine aT rfl ?_;have jR:cP bx 1 w5 (aa P l.length C) l:=q5.get (t:=aO bx 1 _ l) (by simp);refine aF (JL jR (by simp at Z;omega)) ?_;rintro _ w6 ⟨iJ,I2⟩;have q6:=q5.ey (t':=aO bx 1 (aa P l.length C) (iu l)) I2 (λ b o hS=>hS) (by
   have e:(iu l).length=l.length:=(rh l).length_eq;exact iJ) (λ b H=> .inl H)
  refine⟨_,iu l,rfl,Uo N,λ n=> ?_,q6.sub (.cons₂ _ (.cons _ (lE _)))⟩;rw[(rh l).mem_iff];constructor
  ·intro h;exact⟨(u n h).2.1,(J n).1 (u n h).2.2⟩
  ·rintro⟨I,h2⟩;rcases jc n I ((J n).2 h2) with h|h
   ·exact h
   ·cases h
 ·refine⟨_,_,hr,true,_,_,rfl,cJ rfl ⟨_,rfl, ?_⟩⟩;unfold BN;refine cJ rfl ?_;have aqV:=K.nodup;have q6:=((q5.perm (d_ _ _ _)).ey (t':=fE it) hf (λ b o hS=>hS) (show it<w6.heap.size from dR (q5.get (t:=fE it) (by simp)) hf.size) (λ b H=> .inl H)).perm (d_ _ _ _);obtain⟨v',_,he⟩:=yk G;refine⟨_,_,he,_,_,rfl,_,rfl, ?_⟩;have hn6:=TE G.it;simp only[aY,dH] at nD hn6 Z;rw[gI.nodup_iff,List.nodup_cons] at aqV;refine bn (λ hc=> ?_) (λ hc=> ?_)
  ·have mm:k=[]:=by simpa[bs] using hc
   refine⟨⟨rfl,l,a++b,rfl,by simp;omega,N,λ x Q=>⟨λ h=>(u x Q).1 (by simp at h⊢;rcases h with h|h<;>simp[h]),(u x Q).2⟩,λ x I h2=> ?_,G.it,q6⟩,by omega⟩;rcases jc x I h2 with h|h
   ·exact .inl h
   ·refine .inr ?_;simp at h⊢;rcases h with h|h|h
    ·exact .inl h
    ·exact absurd (h.trans mm) I
    ·exact .inr h
  ·have mm:k≠[]:=by
    rintro rfl;simp[bs] at hc
   refine q6.kB ri (x:=k) (vi k w6) (by omega) (by omega) (λ p cc w7 q7 f7=> ?_);have U:∀b,aN (aa P l.length C)=some b->b≠it/\b≠pm:=λ b H=>by
    have h0:=(q6.2.1 (aO bx 1 (aa P l.length C) l) (by simp)).2 b H;have I:=(iF.1 q6.2.2).1 (fE it) (by simp) b H;exact⟨I,by omega⟩
   have X:gK dM b9 w7 it pm E (a++b):=G.it.fr f7 0 0 (λ hS=>(U _ hS).2 rfl) (λ hS=>(U _ hS).1 rfl);have hn7:=TE X;simp only[aY] at hn7;refine⟨⟨rfl,l++[k],a++b,by simp,by simp;omega, ?_,λ x Q=> ?_,λ x I h2=> ?_,X,q7⟩,by omega⟩
   ·rw[List.nodup_append];refine⟨N,by simp,λ x Q y hy=> ?_⟩;simp at hy;subst hy;rintro rfl;exact(u x Q).1 (by simp)
   ·rw[mG,oO] at Q;rcases Q with Q|rfl
    ·exact⟨λ h=>(u x Q).1 (by simp at h⊢;rcases h with h|h<;>simp[h]),(u x Q).2⟩
    ·exact⟨aqV.1,mm,by rw[hfk];rfl⟩
   ·rcases jc x I h2 with h|h
    ·exact .inl (by simp[h])
    ·simp at h⊢;rcases h with h|h|h
     ·exact .inr (.inl h)
     ·exact .inl (.inr h)
     ·exact .inr (.inr h)
end
section
variable{w0 w w':ak}{ts:List LT}{b0:Option Nat}{B rest:Wd}{p po:Option al}{cc co pt:Nat}{R s:al}{v:ay}{S:List Wd}{m:Wd->Option (List cQ)}{T:List (Wd×Wd×Nat)}
theorem aly(t:Wd×Wd×Nat)(X:Wd):cX t++X=bm 2++(b8 t.1++(b8 t.2.1++(bm t.2.2++X))):=by
 unfold cX;simp only[dx]
theorem alz(T:List (Wd×Wd×Nat))(i:Nat):(eP T).drop (iw T i)=(T.drop i).flatMap cX:=by
 unfold eP iw;rw[List.drop_append,cH,List.drop_eq_nil_of_le (by rw[cH];omega),oS,tz]
 conv=>lhs;rw[<-kC i T]
 rw[jK];have:(T.take i).flatMap cX=((T.take i++T.drop i).take i).flatMap cX:=by rw[kC]
 rw[this,qn rfl]
def KF(w:ak)(d:al):Nat:=match w.cell? d with|some (aa _ n _)=>n|_=>0
theorem KG{d:al}{l:Wd}(q:TS w0 (dF d v::ts) w)(h:Bz w0 b0 v l):KF w d=l.length:=by
 obtain⟨p,c,rfl,_⟩:=aX.ex h.eD;have u:Ob w d [aa p l.length c,aA]:=q.get (t:=dF d _) (by simp);have:=u.at 0 rfl;rw[add_zero] at this;have r:w.cell? d=some (aa p l.length c):=this;unfold KF;rw[r]
def mD(nm:Wd):Nat:=(bm 2).length+(b8 nm).length
theorem Vv{cb:ay}{J:Nat->List LT->Prop}{us ts:List LT}{i0 n:Nat}{nm:Wd}(hR:gd w0 R v B S m pt)(qg:qh B T pt)(hT:nE T B)(gQ:B.length<=67108864)(hn:0<n)(hi:i0+n<=T.length)(DK:∀k (Q:k<n),(T[i0+k]).1=nm)
  (hf:∀(k:Nat) (Q:k<n) (us ts:List LT) (w:ak),J k us->TS w0 (us++ts) w->eJ ag cb #[aC (bs (T[i0+k]).2.1),ah aj ((T[i0+k]).2.2:Int)] w λ r w'=>r=aZ #[aQ (decide (k+1<n)),aA]/\∃u,J (k+1) u/\TS w0 (u++ts) w')
  (Kq:J 0 us)(q:TS w0 (us++ts) w):
  au ag 163 #[an (some R),aV #[],ah af (iw T i0:Int),cb] w λ r w'=>r=aA/\∃u,J n u/\TS w0 (u++ts) w':=by
 have oD:=hT.len;obtain⟨rest,hd⟩:=qg.2;have hb:=hR.bz (λ e=>by have:=qg.1;rw[e] at this;simp at this);obtain⟨c,tc,sy,dc,st,pm,ns,po,co,g,h1,h2,_⟩:=hR.ex;obtain⟨p,cc,rfl,_⟩:=aX.ex hb.eD;generalize aN (aa p B.length cc)=b0 at hb;have jN:(eP T).length<=B.length:=by
  have:=congrArg fZ hd;rw[aY,pJ,hY] at this;omega
 have Kr:B.drop pt=be 4 (eP T).length++(eP T++(be 4 (cI 0 (eP T))++rest)):=by
  rw[hd,dh];simp only[dx]
 have ap6:=qg.1;apply ab6;unfold PV;have Z:=(q.aH (bA w (.cells #[] 111))).drew;dsimp only[a_];generalize (w.alloc (.cells #[] 111)).drew=w1 at Z⊢;have r0:at_ w1 R (cW (aa p B.length cc)):=Z.1.at hR.eM;have r1:∀{w us},TS w0 us w->at_ w (R.add 1) (an (some tc))/\at_ w (tc.add 5) (ah aj (pt:Int)):=λ q=>⟨q.1.at (h1.at 1 rfl),q.1.at h2⟩
 refine⟨_,r0,_,(r1 Z).1,_,(r1 Z).2, ?_⟩;dsimp only;rw[bk (by omega) (by omega)];have oJ:∀{w:ak} {us:List LT} {K:ay->ak->Prop},TS w0 us w->(∀pv cv w',Bz w0 b0 (aa pv (eP T).length cv) (eP T)->TS w0 us w'->K (aV #[aa pv (eP T).length cv,aA]) w')->au ag 106 #[cW (aa p B.length cc),ah af (pt:Int),an none] w K:=λ q Q=>aF (Rj (hb.now q.1) (λ t e=>by cases e) (by omega) Kr) (by
  rintro _ w'⟨v,rfl,hv,lS,k⟩;obtain⟨pv,cv,rfl,_⟩:=aX.ex hv;have X:=q.aH k;exact Q pv cv w' (Bz.of X.1 hv (lS.trans hb.aN) hb.lt (by omega)) X)
 have new:∀{w:ak} {us:List LT},TS w0 us w->TS w0 (aJ ⟨w.heap.size,0,none⟩ [ba,aA]::us) (w.alloc (.cells ⟨[ba,aA]⟩ 182)):=λ{w} {us} q=>
  q.ob (Ob.new w [ba,aA] 182) (bA _ _) rfl (by simp)
 have put:∀{w:ak} {us:List LT} {n:Nat} {v:ay} {K:ak->Prop},gj v->TS w0 (aJ ⟨n,0,none⟩ [ba,aA]::us) w->(∀w',TS w0 (dF ⟨n,0,none⟩ v::us) w'->K w')->wr w (aw ⟨n,0,none⟩ 0) v λ gn=>wr gn (aw ⟨n,0,none⟩ 1) aA λ nt=>K nt:=by
  intro w us n v K h1 q Q;obtain⟨g1,Z⟩:=q.wr 0 (by simp) v;refine⟨⟨h1,g1⟩, ?_⟩;obtain⟨g2,q2⟩:=Z.wr 1 (by simp) aA;exact⟨⟨trivial,g2⟩,Q _ q2⟩
 have alA:iw T i0<=(eP T).length:=by
  have e:=congrArg (λ l=>(l.flatMap cX).length) (kC i0 T);simp only[jK,aY] at e;unfold eP iw;rw[aY,cH];omega
 have W:∀{w:ak} {d:Nat} {cx:al} {v:ay},Bz w0 b0 v (eP T)->TS w0 (dF ⟨d,0,none⟩ v::(us++ts)) w->
   au ag 208 #[(an (some ⟨d,0,none⟩)),(ah af (iw T i0:Int))] w λ vD gn=>au ag 118 #[(aV #[])] gn λ zB nt=>aM (ax zB) λ zY=>BU (λ r w'=>r=aA/\∃u,J n u/\TS w0 (u++ts) w') cb cx ⟨d,0,none⟩ 0 zY nt:=by
  intro w d cx v hv q;refine aF (q.mT hv alA) ?_;rintro _ w2 ⟨v2,pW,q2⟩;rw[alz] at pW;refine aF Vu ?_;rintro _ w3 ⟨rfl,k3⟩;have N:=q2.aH k3;refine⟨_,rfl, ?_⟩;refine ab5 (λ cb' Vw d' skip ce w'=>cb=cb'/\cx=Vw/\⟨d,0,none⟩=d'/\ce=aA/\∃(k:Nat) (v:ay) (us:List LT),k<n/\skip=(if k=0 then 0 else(mD nm:Int))/\J k us/\Bz w0 b0 v ((T.drop (i0+k)).flatMap cX)/\TS w0 (dF ⟨d,0,none⟩ v::(us++ts)) w')
   (λ _ _ d _ _ w=>KF w d) ⟨rfl,rfl,rfl,rfl,0,v2,us,hn,rfl,Kq,pW,N⟩ ?_
  rintro _ _ _ _ _ w4⟨rfl,rfl,rfl,rfl,k,v4,us,Q,rfl,hJ,E,G⟩;unfold G6;refine aF (G.fU E) ?_;rintro _ w4 ⟨rfl,rfl⟩;refine⟨_,rfl,_,λ w=>pK _ w,_,rfl,cJ rfl ⟨_,λ w=>pK _ w,_,rfl,cJ rfl ?_⟩⟩;have KH:i0+k<T.length:=by omega
  have KI:=KG G E;rw[gS KH,fG] at KI;rw[gS KH,fG,aly,DK k Q] at E;obtain⟨t1,t2,t3⟩:=hT.bd _ (iy KH);rw[DK k Q] at t1;have hdn:T.drop (i0+k+1)=T.drop (i0+(k+1)):=rfl;rw[hdn] at E KI;have Dx:0<(cX T[i0+k]).length:=by
   unfold cX;rw[aY];have:=jB 2;omega
  rw[aY] at KI;have hsk:(mD nm:Int)<100000/\0<mD nm:=by
   have h1:=jB 2;have h2:=fw 10 2 (by omega) (by omega);have h3:=fw 10 nm.length (by omega) (by omega);unfold mD b8;rw[aY];omega
  have val:∀{w:ak} {v:ay} {N5:ay->al->al->Int->ay->ak->Prop},Bz w0 b0 v (b8 (T[i0+k]).2.1++(bm (T[i0+k]).2.2++(T.drop (i0+(k+1))).flatMap cX))->TS w0 (dF ⟨d,0,none⟩ v::(us++ts)) w->
    (k+1<n->∀w' v' u,J (k+1) u->Bz w0 b0 v' ((T.drop (i0+(k+1))).flatMap cX)->TS w0 (dF ⟨d,0,none⟩ v'::(u++ts)) w'->N5 cb cx ⟨d,0,none⟩ (mD nm:Int) aA w')->
    xI (λ r w'=>r=aA/\∃u,J n u/\TS w0 (u++ts) w') N5 cb cx ⟨d,0,none⟩ (mD nm:Int) aA w:=by
   intro w v N5 hv q hN;unfold xI;refine aF (q.jD hv) ?_;rintro y wy ⟨vy,hvy,qy,hy⟩;obtain⟨yp,yc,rfl,ky⟩:=u9 (hy.now qy.1);refine⟨_,_,_,rfl,aF ky ?_⟩;rintro _ wy ⟨rfl,rfl⟩;refine⟨_,rfl,aF (qy.mh hvy (by omega)) ?_⟩;rintro _ wz ⟨vz,Vx,qz,rfl⟩;refine⟨_,rfl, ?_⟩;obtain⟨fn,ar,e1,e2⟩:=hf k Q us _ _ hJ (qz.perm gI.symm);refine⟨fn,ar,e1,aF e2 ?_⟩;rintro _ w5 ⟨rfl,DU,Vy,H⟩;have H:=H.perm gI;refine⟨_,_,rfl,_,rfl,_,rfl,_,λ w=>cE _ w,_,rfl,aT rfl ?_⟩;refine bn (λ hc=> ?_) (λ hc=> ?_)
   ·have he:k+1=n:=by simp at hc;omega
    unfold xH;refine aF (H.fU Vx) ?_;rintro _ w5 ⟨rfl,rfl⟩;refine⟨_,rfl,_,λ w=>cE _ w,_,rfl,aT rfl ⟨_,λ w=>cE _ w,_,rfl,aT rfl ⟨rfl,DU, ?_,H.tail⟩⟩⟩;rw[<-he];exact Vy
   ·have he:k+1<n:=by simp at hc;omega
    refine aF Vu ?_;rintro _ w6 ⟨rfl,k6⟩;exact⟨_,rfl,hN he w6 vz DU Vy Vx (H.aH k6)⟩
  unfold G5;refine bn (λ hc=> ?_) (λ hc=> ?_)
  ·refine aF (G.jC E) ?_;rintro _ w4 ⟨rfl,rfl⟩;refine⟨_,rfl,aF (G.kI E (by omega)) ?_⟩;rintro _ w5 ⟨v5,U,H,rfl⟩;refine⟨_,rfl,aF (H.jD U) ?_⟩;rintro x w6 ⟨v6,uU,q6,hx⟩;obtain⟨xp,xc,rfl,_⟩:=aX.ex hx.eD;refine⟨_,_,_,rfl,aF (q6.jC uU) ?_⟩;rintro _ w6 ⟨rfl,rfl⟩;refine⟨_,rfl, ?_⟩;have mW:=E.len;have e:aq af ((((bm 2++(b8 nm++(b8 (T[i0+k]).2.1++(bm (T[i0+k]).2.2++(T.drop (i0+(k+1))).flatMap cX)))).length:Nat):Int)-(((b8 (T[i0+k]).2.1++(bm (T[i0+k]).2.2++(T.drop (i0+(k+1))).flatMap cX)).length:Nat):Int))=(mD nm:Int):=by
    rw[aY,@aY _ (b8 nm)] at mW⊢;rw[bk (by omega) (by omega)];unfold mD;omega
   dsimp only;rw[e];refine val uU q6 (λ h w' v' u KJ I X=> ?_);have hN':=KG X I;exact⟨⟨rfl,rfl,rfl,rfl,k+1,v',u,h,by rw[if_neg (by omega)],KJ,I,X⟩,by omega⟩
  ·have mm:k≠0:=λ e=>by rw[if_pos e] at hc;exact absurd hc (by decide)
   rw[if_neg mm];refine aF (G.mT (n:=mD nm) E (by unfold mD;simp only[aY];omega)) ?_;rintro _ w5 ⟨v5,U,H⟩;have e:(bm 2++(b8 nm++(b8 (T[i0+k]).2.1++(bm (T[i0+k]).2.2++(T.drop (i0+(k+1))).flatMap cX)))).drop (mD nm)=b8 (T[i0+k]).2.1++(bm (T[i0+k]).2.2++(T.drop (i0+(k+1))).flatMap cX):=by
    rw[<-dx];exact qn (by unfold mD;rw[aY])
   rw[e] at U;refine val U H (λ h w' v' u KJ I X=> ?_);have hN':=KG X I;exact⟨⟨rfl,rfl,rfl,rfl,k+1,v',u,h,by rw[if_neg (by omega)],KJ,I,X⟩,by omega⟩
 refine⟨?_, ?_⟩
 ·refine oJ Z (λ pv cv w3 jU N=>⟨_,_,_,_,rfl,(r1 N).2,(r1 N).1, ?_⟩);have G:=new N;refine⟨(r1 G).2,(r1 G).1, ?_⟩;exact put trivial G (λ w5 H=>W jU H)
 ·have N:=new Z;refine⟨(r1 N).2,(r1 N).1,N.1.at hR.eM, ?_⟩;refine oJ N (λ pv cv w4 yB G=>⟨_,_,_,_,rfl,(r1 G).2,(r1 G).1, ?_⟩);exact put trivial G (λ w5 H=>W yB H)
end
structure zZ(T:List (Wd×Wd×Nat))(m:Wd->Option (List cQ))(nm:Wd)(i0 n:Nat)(V:List Wd):Prop where
 pos:0<n
 le:i0+n<=T.length
 nms:∀k (h:k<n),(T[i0+k]'(by omega)).1=nm
 vl:V.length=n
 val:∀k (h:k<n),(T[i0+k]'(by omega)).2.1=V[k]'(by omega)
 nd:V.Nodup
 m:∃y c,m nm=some (y::c)/\y.2=iw T i0/\(y::c).length<=2/\((y::c).getLast (by simp)).1=V[n-1]'(by omega)
section
variable{w0 w w':ak}{ts:List LT}{b0:Option Nat}{B rest:Wd}{p po:Option al}{cc co pt:Nat}{R s:al}{v:ay}{S V:List Wd}{m:Wd->Option (List cQ)}{T:List (Wd×Wd×Nat)}
theorem vG{w:ak}{ty:cK}{K:Nat->ak->Prop}(c:∀w',aS w w'->w'.heap.size=w.heap.size+1->K w.heap.size w'):a_ w (.cells #[] ty) λ r h=>K r h:=
 c _ (bA _ _) (by simp)
def JV(c2 c3 c4:al)(V:List Wd)(last:Wd)(k:Nat)(us:List LT):Prop:=
 ∃P C,us=[aO bx 1 (aa P k C) (V.take k),aJ c2 [an none],aJ c3 [aa P k C],aJ c4 [aC (bs last)]]
theorem alF{w:ak}{x y:ay}{a b c:Option al}{K:ay->ak->Prop}(h:au ag 164 #[x,y,an a,an b,an c] w K):eJ ag (.func (.func 164) #[] #[an a,an b,an c]) #[x,y] w K:=⟨164,_,by kernel_rfl,h⟩
theorem alG{c2 c3 c4:al}{last:Wd}{k:Nat}{u:Int}{us:List LT}(U:k<V.length)(W:V.length<=1000)(Q:JV c2 c3 c4 V last k us)(q:TS w0 (us++ts) w):
  au ag 164 #[aC (bs V[k]),ah aj u,an (some c2),an (some c3),an (some c4)] w λ r w'=>r=aZ #[aQ (!(V[k]==last)),aA]/\∃E,JV c2 c3 c4 V last (k+1) E/\TS w0 (E++ts) w':=by
 obtain⟨P,C,rfl⟩:=Q;apply ab7;unfold v164;have h:=q.drew;generalize w.drew=w at h⊢;have K:at_ w c2 (an none):=h.ei (a:=c2) (v:=an none) (by simp);refine⟨_,K,_,λ w=>by kernel_rfl,_,rfl,aT rfl ?_⟩;unfold xJ;have N:at_ w c3 (aa P k C):=h.ei (a:=c3) (v:=aa P k C) (by simp);refine⟨_,_,_,N, ?_⟩;have H:(V.take k).length=k:=by rw[fS];omega
 have h:TS w0 (aO bx 1 (aa P k C) (V.take k)::aJ c2 [an none]::aJ c3 [aa P k C]::aJ c4 [aC (bs last)]::ts) w:=h;refine h.kB ri (x:=V[k]) (vi _ w) (by omega) (by omega) (λ G c X I _=> ?_);rw[H] at I⊢;rw[<-jm U] at I;obtain⟨J,y⟩:=I.fq (pre:=[aO bx 1 _ _,aJ c2 _]) (a:=c3) (cs:=[aa P k C]) 0 (by simp) (aa G (k+1) c);rw[add_zero] at J y;refine⟨⟨trivial,J⟩, ?_⟩;have y:TS w0 ([aO bx 1 (aa G (k+1) c) (V.take (k+1)),aJ c2 [an none],aJ c3 [aa G (k+1) c],aJ c4 [aC (bs last)]]++ts) _:=y;refine⟨_,y.ei (a:=c4) (v:=aC (bs last)) (by simp), ?_,_,⟨G,c,rfl⟩,y⟩;rw[eG,eG]
theorem alH{α:Type}(a b c d:α):[a,b,c,d].Perm [c,d,b,a]:=by
 classical
 rw[oV];intro z;simp only[oW];omega
theorem Vz{nm:Wd}{i0 n:Nat}(hR:gd w0 R v B S m pt)(qg:qh B T pt)(hT:nE T B)(gQ:B.length<=67108864)(hB:zZ T m nm i0 n V)(q:TS w0 ts w):
  au ag 95 #[an (some R),aV #[],aC (bs nm),an none,ba] w λ r w'=>∃x,r=aZ #[x,aA]/\TS w0 (aO bx 1 x V::ts) w':=by
 have oD:=hT.len;obtain⟨hB1,hB2,Dv,hB4,hB5,JE,y,E,I,hB8,hB9,U⟩:=hB;obtain⟨c,tc,sy,dc,st,pm,ns,po,co,g,h1,h2,h3,h4,⟨Z,tu,zX,nD⟩,_⟩:=hR.ex;apply c95;unfold Pz;refine vG (λ w1 k1 z1=> ?_);have q1:=q.aH k1;refine gf (cs:=[an none]) (by simp) (λ Q o2 k2 z2=> ?_);have K:=q1.ob o2 k2 rfl (by omega);generalize (⟨w1.heap.size,0,none⟩:al)=c2 at K⊢;refine aT rfl ⟨_,K.1.at (h1.at 9 rfl),aT rfl ⟨_,K.1.at (h1.at 3 rfl), ?_⟩⟩;obtain⟨H,_⟩:=p9 (tu.aH K.1) nm;have hex:∃t,Z nm=some t:=by
  cases hh:Z nm with
  |none=>rw[nD nm hh] at I;cases I
  |some t=>exact⟨t,rfl⟩
 obtain⟨⟨ep,en,ec⟩,W⟩:=hex;obtain⟨le,X,G⟩:=zX nm _ W;rw[I] at X;cases X;have G:Sl gr 2 w0 (aa ep en ec) (y::E):=G;have lI:=hB9;rw[dH] at lI;obtain⟨rfl,_⟩:=G.len;rw[W] at H;have H:(dJ 192 (.map (some pm)) (aC (bs nm)) true).run ag Q= .ok (aZ #[aa ep (y::E).length ec,aQ true]) Q:=H;refine⟨_,_,H,_,_,rfl,_,_,_,rfl,_,rfl,aT rfl (aT (by rw[beq_eq_false_iff_ne,dH];omega) ?_)⟩;have a2:∀{w us},TS w0 us w->aJ c2 [an none]∈us->at_ w c2 (an none):=λ q hm=>q.ei hm
 refine⟨_,a2 K (by simp),_,λ w=>by kernel_rfl,_,rfl,aT rfl ?_⟩;unfold uf;have e32:aq af ((((y::E).length:Nat):Int)*32)=((32*(y::E).length:Nat):Int):=by rw[bk (by omega) (by omega)];omega
 rw[e32];obtain⟨w3,kn,lL,ja⟩:=uX ri.ty Q (32*(y::E).length) (by omega) (by omega);refine⟨_,_,kn,_,_,_,rfl, ?_⟩;have q3:=K.new (t:=aO bx 1 (aa (some ⟨Q.heap.size,0,none⟩) 0 (32*(y::E).length)) ([]:List Wd)) ja lL (λ b hb=>by
  have gD:some Q.heap.size=some b:=hb;cases gD;exact⟨bB _,lL.lt rfl⟩)
 generalize (some ⟨Q.heap.size,0,none⟩:Option al)=P3 at q3⊢;generalize 32*(y::E).length=C3 at q3⊢;refine lW (a:=aa P3 0 C3) trivial (λ w4 o4 k4 z4=> ?_);have q4:=q3.ob o4 k4 rfl (by omega);generalize (⟨w3.heap.size,0,none⟩:al)=c3 at q4⊢;have el:aq af ((((y::E).length:Nat):Int)-1)=(((y::E).length-1:Nat):Int):=by rw[bk (by omega) (by rw[dH];omega)];rw[dH];omega
 rw[el];refine Sl.ix (enc:=gr) (z:=2) (l:=y::E) (λ _=>rfl) (by omega) (Sl.aH G q4.1) (by omega) (by rw[dH];omega) (λ a _ ha=>⟨_,by
  have:=ha 0 _ rfl;rwa[add_zero] at this, ?_⟩)
 have egl:(y::E)[(((y::E).length-1:Nat):Int).toNat]'(by simp)=(y::E).getLast (by simp):=by
  rw[List.getLast_eq_getElem];congr 1
 rw[egl,U];refine lW (a:=aC (bs (V[n-1]))) trivial (λ w5 o5 k5 z5=> ?_);have N:=(q4.ob o5 k5 rfl (by omega)).drew;generalize (⟨w4.heap.size,0,none⟩:al)=c4 at N⊢;generalize w5.drew=w5 at N⊢;refine Sl.ix (enc:=gr) (z:=2) (l:=y::E) (λ _=>rfl) (by omega) (Sl.aH G N.1) (by omega) (by rw[dH];omega) (λ a' _ uK=>⟨_,uK 1 _ rfl, ?_⟩);have e0:((y::E)[(0:Int).toNat]'(by simp)).2=iw T i0:=hB8;rw[e0];have N:TS w0 ([aO bx 1 (aa P3 0 C3) (V.take 0),aJ c2 [an none],aJ c3 [aa P3 0 C3],aJ c4 [aC (bs V[n-1])]]++ts) w5:=N.perm (vN ts (alH (aJ c4 _) (aJ c3 _) (aO bx 1 _ _) (aJ c2 _)));refine aF (Vv (J:=JV c2 c3 c4 V V[n-1]) (us:=_) (ts:=ts) hR qg hT gQ hB1 hB2 Dv (λ k hk us ts w hJ q=>alF ?_) ⟨P3,C3,rfl⟩ N) ?_
 ·rw[hB5 k hk];have:=alG (u:=((T[i0+k]).2.2:Int)) (last:=V[n-1]) (k:=k) (by omega) (by omega) hJ q;have e:(!(V[k]'(by omega)==V[n-1]'(by omega)))=decide (k+1<n):=by
   rw[Bool.eq_iff_iff];simp only[Bool.not_eq_true',beq_eq_false_iff_ne,decide_eq_true_eq,ne_eq];constructor
   ·intro h;refine qq (λ h2=>h ?_);congr 1;omega
   ·intro h he;exact qt.1 JE k (n-1) (by omega) (by omega) (by omega) he
  rw[e] at this;exact this
 ·rintro _ w6 ⟨rfl,us6,⟨P6,C6,rfl⟩,q6⟩;refine⟨_,rfl,_,_,_,q6.ei (a:=c3) (v:=aa P6 n C6) (by simp),_,rfl, ?_⟩;have:V.take n=V:=by rw[<-hB4,fY]
  rw[this] at q6;exact q6.sub (.cons₂ _ (.cons _ (.cons _ (.cons _ (lE _)))))
theorem k96{nm:Wd}{i0 n:Nat}(E:gd w0 R v B S m pt)(u:qh B T pt)(H:nE T B)(h:B.length<=67108864)(G:zZ T m nm i0 n V)(q:TS w0 ts w):
  au ag 96 #[an (some R),aV #[],aC (bs nm),an none,ba] w λ r w'=>∃x,r=aZ #[x,aA]/\TS w0 (aO bx 1 x V::ts) w':=by
 apply c96;unfold PB;refine vG (λ N J Q=> ?_);refine aF (Vz E u H h G (q.aH J)) ?_;rintro _ K ⟨x,rfl,y⟩;have I:cP bx 1 K x V:=y.get (t:=aO bx 1 x V) (by simp);obtain⟨p,c,rfl,_⟩:=aX.ex I.cV;refine⟨_,_,rfl,_,_,_,rfl,_,rfl,_,λ w=>pK _ w,_,rfl,cJ rfl ⟨_,y.1.at E.at9,aT rfl ⟨_,rfl,y⟩⟩⟩
end
section
variable{w0 w w':ak}{ts:List LT}{b0:Option Nat}{B rest l:Wd}{p po:Option al}{cc co pt:Nat}{R g:al}{v:ay}{S V:List Wd}{m:Wd->Option (List cQ)}{T:List (Wd×Wd×Nat)}
theorem KK:gW ag 119 113 cO 1 8 [ah aj 0]:=
 ⟨⟨by kernel_rfl,by kernel_rfl,rfl,by decide⟩,λ _=>rfl,λ x u c=>by simp[cO] at c;subst c;rfl⟩
def iD(g:al)(v:ay)(cur:Nat):LT:=aJ g [v,ah aL (cur:Int)]
theorem alR{n:Nat}(q:TS w0 ts w):au ag 161 #[aa p n cc] w λ r w'=>∃g,r=an (some ⟨g,0,none⟩)/\TS w0 (iD ⟨g,0,none⟩ (aa p n cc) 0::ts) w':=by
 apply ab3;unfold PU;exact gf (cs:=[aa p n cc,ah aL ((0:Nat):Int)]) (by simp) (λ u h c x=>⟨_,rfl,q.ob h c rfl (by omega)⟩)
theorem k89{refs:List Nat}(q:TS w0 ts w)(h:Bz w0 b0 (aa p (fM refs).length cc) (fM refs))(G:refs.length<=1000):
  au ag 89 #[aV #[aa p (fM refs).length cc,aA]] w λ r w'=>∃g v,r=aZ #[ah af (refs.length:Int),cG 260 (an (some ⟨g,0,none⟩)),aA]/\Bz w0 b0 v (refs.flatMap (be 4))/\TS w0 (iD ⟨g,0,none⟩ v 0::ts) w':=by
 have u:(refs.flatMap (be 4)).length=refs.length*4:=by
  clear G h;induction refs with
  |nil=>rfl
  |cons a l H=>rw[fG,aY,H,cH,dH];omega
 apply c89;unfold Pm;refine gf (cs:=[aa p (fM refs).length cc,aA]) (by simp) (λ N J I W=> ?_);have x:TS w0 (dF ⟨w.heap.size,0,none⟩ (aa p (fM refs).length cc)::ts) N:=q.ob J I rfl (by omega);generalize (⟨w.heap.size,0,none⟩:al)=d at x⊢;generalize (aa p (fM refs).length cc)=v0 at h x;unfold fM at h;refine aF (x.yo h (by omega)) ?_;rintro _ E ⟨v2,c,y,rfl⟩;refine⟨_,rfl,aF (y.Cx c) ?_⟩;rintro _ E ⟨rfl,rfl⟩;obtain⟨Q,c2,rfl,_⟩:=aX.ex c.eD;refine⟨_,_,_,rfl,aF (y.fU c) ?_⟩;rintro _ E ⟨rfl,rfl⟩;refine⟨_,rfl,_,λ w=>cE _ w,_,rfl,aT rfl (aT ?_ ?_)⟩
 ·rw[bk (by omega) (by omega),u];simp;omega
 ·refine aF (alR y.tail) ?_;rintro _ U ⟨g,rfl,K⟩;exact⟨_,rfl,g,_,rfl,c,K⟩
theorem VA{K:ay->ak->Prop}(h:au ag 328 #[an (some g)] w K):cS ag (cG 260 (an (some g))) "Next" #[] w K:=⟨328,_,by kernel_rfl,h⟩
theorem alT{K:ay->ak->Prop}(h:au ag 326 #[an (some g)] w K):cS ag (cG 260 (an (some g))) "At" #[] w K:=⟨326,_,by kernel_rfl,h⟩
theorem alU{K:ay->ak->Prop}(h:au ag 327 #[an (some g)] w K):cS ag (cG 260 (an (some g))) "Err" #[] w K:=⟨327,_,by kernel_rfl,h⟩
theorem alV{cur:Nat}(q:TS w0 (iD g v cur::ts) w)(h:Bz w0 b0 v []):au ag 328 #[an (some g)] w λ r w'=>r=aQ false/\w'=w:=by
 obtain⟨p,c,rfl,_⟩:=aX.ex h.eD;have x:Ob w g [aa p 0 c,ah aL (cur:Int)]:=q.get (t:=iD g _ _) (by simp);have u:=x.at 0 rfl;rw[add_zero] at u;apply Qk;unfold Hg;exact⟨_,_,_,u,aT rfl ⟨rfl,rfl⟩⟩
theorem alW{cur n:Nat}(q:TS w0 (iD g v cur::ts) w)(h:Bz w0 b0 v (be 4 n++l))(N:n<4294967296):
  au ag 328 #[an (some g)] w λ r w'=>r=aQ true/\∃v',Bz w0 b0 v' l/\TS w0 (iD g v' n::ts) w':=by
 obtain⟨p,c,rfl,Z⟩:=aX.ex h.eD;have I:(be 4 n++l).length=l.length+4:=by rw[aY,cH];omega
 have x:∀{w u v},TS w0 (aJ g [v,u]::ts) w->at_ w g v:=λ{w u v} q=>by
  have:=q.at (a:=g) (cs:=[v,u]) (by simp) 0 rfl;rwa[add_zero] at this
 apply Qk;unfold Hg;refine⟨_,_,_,x q,cJ (by rw[decide_eq_true_iff];omega) ⟨_,_,_,x q.drew, ?_⟩⟩;have J:=q.drew;refine aF (sz (h.now J.1) N) ?_;rintro _ W ⟨rfl,Q⟩;have U:=J.aH Q;obtain⟨K,E⟩:=TS.wr U 1 (by simp) (ah aL (n:Int));refine⟨_,rfl,⟨trivial,K⟩, ?_⟩;generalize W.setCell _ _=X at E⊢;have E:TS w0 (aJ g [aa p (be 4 n++l).length c,ah aL (n:Int)]::ts) X:=E;refine⟨_,_,_,x E,_,λ w=>gV (e:=5) (by kernel_rfl) (z:=1) (by kernel_rfl) p _ c 4 _ (by omega) (by omega) _ none (.inr ⟨_,rfl⟩) (.inl ⟨rfl,rfl⟩) w,_,_,_,rfl, ?_⟩;obtain⟨G,y⟩:=TS.wr E 0 (by simp) (aa (qa p 4 c 1) ((be 4 n++l).length-4) (c-4));rw[add_zero] at G y;refine⟨⟨trivial,G⟩,rfl,_, ?_,y⟩;have H:=qJ (h.now y.1) 4 (be 4 n++l).length (by omega) (bB _);rw[qn (cH _ _),I,Nat.add_sub_cancel,fY] at H;have:=h.aN;rw[I] at this y⊢;rw[Nat.add_sub_cancel] at y⊢;exact Bz.of y.1 H ((mg _ _ _ _ _ _ _).trans this) h.lt (by have:=h.len;omega)
theorem KL(x:Nat)(w:ak):(bw 119 1 #[(0,ah aj (x:Int))]).run ag w= .ok (aa (some ⟨w.heap.size,0,none⟩) 1 1) (w.alloc (.cells ⟨cO x⟩ 113)):=by kernel_rfl
theorem alX:gW ag 31 43 cO 1 8 [ah aj 0]:=
 ⟨⟨by kernel_rfl,by kernel_rfl,rfl,by decide⟩,λ _=>rfl,λ x u c=>by simp[cO] at c;subst c;rfl⟩
theorem alY(x:Nat)(w:ak):(bw 31 1 #[(0,ah aj (x:Int))]).run ag w= .ok (aa (some ⟨w.heap.size,0,none⟩) 1 1) (w.alloc (.cells ⟨cO x⟩ 43)):=by kernel_rfl
theorem alZ{cur:Nat}{refs:List Nat}(q:TS w0 (iD g v cur::ts) w)(h:Bz w0 b0 v (refs.flatMap (be 4)))(Z:∀x∈refs,x<4294967296)(hl:refs.length<=1000):
  au ag 141 #[cG 260 (an (some g))] w λ r w'=>∃x v' Q,r=aZ #[x,aA]/\TS w0 (aO cO 1 x refs::iD g v' Q::ts) w':=by
 apply MZ;unfold v141;have q0:=q.new (t:=aO cO 1 ba ([]:List Nat)) (Fr.refl _ _) (Own.nil _ _) (λ b U=>by cases U);refine MY (λ J P k C w'=>cG 260 (an (some g))=J/\∃(v:ay) (cur:Nat),k<=refs.length/\Bz w0 b0 v ((refs.drop k).flatMap (be 4))/\TS w0 (aO cO 1 (aa P k C) (refs.take k)::iD g v cur::ts) w') (λ _ _ k _ _=>refs.length-k) ⟨rfl,v,cur,dO _,h,q0⟩ ?_;rintro _ P k C w1 ⟨rfl,v1,y,hk,c,E⟩;unfold wW;by_cases W:k=refs.length
 ·subst W;rw[List.drop_length] at c;refine VA (aF (alV (E.perm (d_ _ _ _)) c) ?_);rintro _ G ⟨rfl,rfl⟩;rw[fY] at E;refine⟨_,rfl,aT rfl (alU (acB ⟨_,rfl,_,v1,y,rfl,E⟩))⟩
 ·have u:k<refs.length:=by omega
  rw[gS u,fG] at c;have hx:=Z _ (iy u);refine VA (aF (alW (E.perm (d_ _ _ _)) c hx) ?_);rintro _ G ⟨rfl,v2,H,N⟩;have X:Ob G g [v2,ah aL (refs[k]:Int)]:=N.get (t:=iD g v2 refs[k]) (by simp);refine⟨_,rfl,cJ rfl (alT (acz ⟨_,X.at 1 rfl,_,rfl, ?_⟩))⟩;have I:(refs.take k).length=k:=by rw[fS];omega
  have q3:TS w0 (aO cO 1 (aa P k C) (refs.take k)::iD g v2 refs[k]::ts) G:=N.perm (d_ _ _ _);rw[dV (by omega) (by omega)];refine q3.kB KK (x:=refs[k]) (KL _ G) (by omega) (by omega) (λ p6 c6 w6 K _=> ?_);rw[I] at K⊢;rw[<-jm u] at K;exact⟨⟨rfl,v2,_,by omega,H,K⟩,by omega⟩
theorem VB{x:ay}{refs:List Nat}(q:TS w0 (aO cO 1 x refs::ts) w)(hl:refs.length<=1000):
  au ag 142 #[x] w λ r w'=>TS w0 (aO cO 1 r refs::aO cO 1 x refs::ts) w':=by
 have Q:cP cO 1 w x refs:=q.get (t:=aO cO 1 x refs) (by simp);obtain⟨p,cc,rfl,_⟩:=aX.ex Q.cV;apply YF;unfold M3;have X:=q.new (t:=aO cO 1 ba ([]:List Nat)) (Fr.refl _ _) (Own.nil _ _) (λ b K=>by cases K);refine YE (λ P k C W U I Z t8 w'=>p=W/\U=refs.length/\cc=I/\Z=(refs.length:Int)/\t8=(k:Int)/\k<=refs.length/\TS w0 (aO cO 1 (aa P k C) (refs.take k)::aO cO 1 (aa p refs.length cc) refs::ts) w') (λ _ k _ _ _ _ _ _ _=>refs.length-k) ⟨rfl,rfl,rfl,rfl,rfl,dO _,X⟩ ?_;rintro P k C _ _ _ _ _ H ⟨rfl,rfl,rfl,rfl,rfl,hk,c⟩;unfold FN;refine bn (λ h=> ?_) (λ h=> ?_)
 ·have y:k<refs.length:=by simp at h;omega
  have E:cP cO 1 H (aa p refs.length cc) refs:=c.get (t:=aO cO 1 (aa p refs.length cc) refs) (by simp);refine Sl.ix (enc:=cO) (z:=1) (l:=refs) (λ _=>rfl) (by omega) E.cV (by omega) (by omega) (λ a _ J=>⟨_,by
   have:=J 0 _ rfl;rwa[add_zero] at this, ?_⟩)
  have u:(refs.take k).length=k:=by rw[fS];omega
  have e:refs[((k:Nat):Int).toNat]'(by simp;omega)=refs[k]:=by congr 1
  rw[e];refine c.kB alX (x:=refs[k]) (alY _ H) (by omega) (by omega) (λ p6 c6 w6 G _=> ?_);rw[u] at G⊢;rw[<-jm y] at G;rw[show aq af ((k:Int)+1)=((k+1:Nat):Int) by rw[bk (by omega) (by omega)];omega];exact⟨⟨rfl,rfl,rfl,rfl,rfl,by omega,G⟩,by omega⟩
 ·have N:k=refs.length:=by simp at h;omega
  subst N;rw[fY] at c;exact c
theorem Da{cur:Nat}{refs:List Nat}(q:TS w0 (iD g v cur::ts) w)(h:Bz w0 b0 v (refs.flatMap (be 4)))(J:∀x∈refs,x<4294967296)(u:refs.length<=1000):
  au ag 67 #[cG 260 (an (some g))] w λ r w'=>∃x,r=aZ #[x,aQ true]/\TS w0 (aO cO 1 x refs::ts) w':=by
 apply MG;unfold FI;refine aF (alZ q h J u) ?_;rintro _ K ⟨x,v',Q,rfl,E⟩;have I:cP cO 1 K x refs:=E.get (t:=aO cO 1 x refs) (by simp);obtain⟨p,cc,rfl,_⟩:=aX.ex I.cV;refine⟨_,_,rfl,_,_,_,rfl,_,rfl,_,λ w=>cE _ w,_,rfl,aT rfl ?_⟩;refine aF (VB E u) ?_;rintro y N G;have c:cP cO 1 N y refs:=G.get (t:=aO cO 1 y refs) (by simp);obtain⟨U,H,rfl,_⟩:=aX.ex c.cV;exact⟨_,_,_,rfl,_,rfl,G.sub (.cons_cons _ (.cons _ (.cons _ (lE _))))⟩
end
section
variable{w0 w w':ak}{ts us:List LT}{b0:Option Nat}{B rest l:Wd}{p po:Option al}{cc co pt:Nat}{R g:al}{v:ay}{S V:List Wd}{m:Wd->Option (List cQ)}{T:List (Wd×Wd×Nat)}
theorem TS.tt{K:ay->ak->Prop}(q:TS w0 us w)(c:∀t w',lK w' t->TS w0 us w'->K (an (some t)) w'):au ag 102 #[] w K:=aF sq (by
 rintro _ w'⟨t,rfl,_,_,h,k⟩;exact c t w' h (q.aH k))
theorem TS.oJ{c:Wd}{off:Nat}{t:al}{K:ay->ak->Prop}(q:TS w0 us w)(h:Bz w0 b0 (aa p B.length cc) B)(I:lK w t)(hd:B.drop off=dh c++rest)
  (G:∀pv cv w',Bz w0 b0 (aa pv c.length cv) c->TS w0 us w'->K (aV #[aa pv c.length cv,aA]) w'):au ag 106 #[cW (aa p B.length cc),ah af (off:Int),an (some t)] w K:=by
 have u:=h.len;have r:B.drop off=be 4 c.length++(c++(be 4 (cI 0 c)++rest)):=by
  rw[hd,dh];simp only[dx]
 have H:c.length<=B.length:=by
  have:=congrArg fZ r;rw[hY] at this;simp only[aY] at this;omega
 refine aF (CD (h.now q.1) I u r) ?_;rintro _ w' ⟨v,rfl,y,x,k⟩;obtain⟨pv,cv,rfl,_⟩:=aX.ex y;have E:=q.aH k;exact G pv cv w' (Bz.of E.1 y (x.trans h.aN) h.lt (by omega)) E
theorem TS.vH(q:TS w0 us w):TS w0 (aJ ⟨w.heap.size,0,none⟩ [ba,aA]::us) (w.alloc (.cells ⟨[ba,aA]⟩ 182)):=
 q.ob (Ob.new w [ba,aA] 182) (bA _ _) rfl (by simp)
theorem TS.vI{n:Nat}{v:ay}{K:ak->Prop}(x:gj v)(q:TS w0 (aJ ⟨n,0,none⟩ [ba,aA]::us) w)(y:∀w',TS w0 (dF ⟨n,0,none⟩ v::us) w'->K w'):Go.V.wr w (aw ⟨n,0,none⟩ 0) v λ c=>Go.V.wr c (aw ⟨n,0,none⟩ 1) aA λ h=>K h:=by
 obtain⟨r,E⟩:=q.wr 0 (by simp) v;refine⟨⟨x,r⟩, ?_⟩;obtain⟨u,G⟩:=E.wr 1 (by simp) aA;exact⟨⟨trivial,u⟩,y _ G⟩
def jH(g:al):List ay:=[cG 260 (an (some g))]
theorem VC:gW ag 242 117 jH 1 16 [aA]:=
 ⟨⟨by kernel_rfl,by kernel_rfl,rfl,by decide⟩,λ _=>rfl,λ x u c=>by simp[jH] at c;subst c;rfl⟩
theorem al0(x:al)(w:ak):(bw 242 1 #[(0,cG 260 (an (some x)))]).run ag w= .ok (aa (some ⟨w.heap.size,0,none⟩) 1 1) (w.alloc (.cells ⟨jH x⟩ 117)):=by kernel_rfl
variable{cv c1 fi fs fD ci ce:al}{ep:Option al}{ec:Nat}
def gu(cv c1 fi fs fD ci ce R:al)(P:Option al)(C:Nat)(c:List al)(p:Option al)(cc:Nat)(ep:Option al)(ec:Nat):List LT:=
 [aJ fi [aa P c.length C],aO jH 1 (aa P c.length C) c,aJ fs [ah af (c.length:Int)],aJ cv [aC (bs [])],aJ c1 [an (some R)],aJ fD [aa p 1 cc],aO bx 1 (aa p 1 cc) [([]:Wd)],aJ ci [ah af 0],aJ ce [aa ep 1 ec]]
def JP(w0:ak)(b0:Option Nat)(refs:List Nat)(cv c1 fi fs fD ci ce R:al)(p:Option al)(cc:Nat)(ep:Option al)(ec:Nat):Nat->List LT->Prop
 |0,us=>∃P C,us=gu cv c1 fi fs fD ci ce R P C [] p cc ep ec
 |_+1,us=>∃P C g v,Bz w0 b0 v (refs.flatMap (be 4))/\us=iD g v 0::gu cv c1 fi fs fD ci ce R P C [g] p cc ep ec
theorem al1{w:ak}{x:ay}{K:ay->ak->Prop}(h:au ag 89 #[x] w K):eJ ag oI #[x] w K:=⟨89,_,by kernel_rfl,h⟩
theorem al2{w:ak}{x y:ay}{a b c d e f g:Option al}{K:ay->ak->Prop}(h:au ag 166 #[x,y,an a,an b,an c,an d,an e,an f,an g] w K):eJ ag (.func (.func 166) #[] #[an a,an b,an c,an d,an e,an f,an g]) #[x,y] w K:=⟨166,_,by kernel_rfl,h⟩
theorem al3{off:Nat}{refs:List Nat}(hR:gd w0 R v B S m pt)(h0:B≠[])(ho:off<9223372036854775808)(iS:refs.length<=1000)(hd:B.drop off=dh (fM refs)++rest)(hJ:JP w0 (aN v) refs cv c1 fi fs fD ci ce R p cc ep ec 0 us)(q:TS w0 (us++ts) w):
  au ag 166 #[aC (bs []),ah aj (off:Int),an (some cv),an (some c1),an (some fi),an (some fs),an (some fD),an (some ci),an (some ce)] w λ r w'=>r=aZ #[aQ false,aA]/\∃u,JP w0 (aN v) refs cv c1 fi fs fD ci ce R p cc ep ec 1 u/\TS w0 (u++ts) w':=by
 obtain⟨P,C,rfl⟩:=hJ;have hb:=hR.bz h0;obtain⟨c,tc,sy,dc,st,pm,ns,po,co,g,h1,h2,h3,h4,h5,h6,h7,h8⟩:=hR.ex;obtain⟨pB,cB,rfl,_⟩:=aX.ex hb.eD;generalize aN (aa pB B.length cB)=b0 at hb⊢;apply ab_;unfold P9;refine ab9 (λ val al4 a b c d e f g w'=>val=bs []/\al4=(off:Int)/\cv=a/\c1=b/\fi=c/\fs=d/\fD=e/\ci=f/\ce=g/\TS w0 (gu cv c1 fi fs fD ci ce R P C [] p cc ep ec++ts) w') (λ _ _ _ _ _ _ _ _ _ _=>0) ⟨rfl,rfl,rfl,rfl,rfl,rfl,rfl,rfl,rfl,q⟩ ?_;rintro _ _ _ _ _ _ _ _ _ w1 ⟨rfl,rfl,rfl,rfl,rfl,rfl,rfl,rfl,rfl,q1⟩;unfold G7;have G:TS w0 (gu cv c1 fi fs fD ci ce R P C [] p cc ep ec++ts) w1.drew:=q1.drew;have av:∀{w:ak} {us},TS w0 us w->aJ cv [aC (bs [])]∈us->at_ w cv (aC (bs [])):=λ q hm=>q.ei hm
 have E:∀{w:ak} {us},TS w0 us w->aJ c1 [an (some R)]∈us->at_ w c1 (an (some R)):=λ q hm=>q.ei hm
 have K:∀{w:ak} {us},TS w0 us w->at_ w R (cW (aa pB B.length cB))/\at_ w (R.add 8) (an (some dc))/\at_ w (dc.add 1) oI:=λ q=>⟨q.1.at hR.eM,q.1.at (h1.at 8 rfl),q.1.at (h8.at 1 rfl)⟩
 refine⟨_,av q1 (by simp[gu]),cJ (by rw[nf];rfl) ⟨_,av q1 (by simp[gu]),cJ (by simp) ⟨_,E G (by simp[gu]),_,(K G).1, ?_⟩⟩⟩;rw[bk (by omega) (by omega)];have fin:∀{w:ak} {d:Nat} {pv:Option al} {h:Nat} {N1:ByteArray->Int->al->al->al->al->al->al->al->ak->Prop},Bz w0 b0 (aa pv (fM refs).length h) (fM refs)->TS w0 (dF ⟨d,0,none⟩ (aa pv (fM refs).length h)::(gu cv c1 fi fs fD ci ce R P C [] p cc ep ec++ts)) w->
   bf (at_ w.drew c1) λ VD=>nn VD λ VE=>bf (at_ w.drew (aw VE 8)) λ VF=>nn VF λ a_2=>aM (at_ w.drew (aw a_2 1)) λ zW=>az (at_ w.drew (aw ⟨d,0,none⟩ 0)) λ sP sL sC=>aM (at_ w.drew (aw ⟨d,0,none⟩ 1)) λ zY=>
    eJ ag zW #[(aV #[(aa sP sL sC),zY])] w.drew λ C_ Z=>nQ C_ λ tk zU vm=>aK Z (aw VE 8) [(an VF)] 0 (aK Z c1 [(an VD)] 0 (aD af (ax tk) λ n=>aM (ax zU) λ v_3=>aM (ax vm) λ VG=>bb ag (bq .neq 86 (br 42) (bt aA) VG aA) λ e=>aW (ax e) λ b=>aB b (((λ r w'=>r=aZ #[aQ false,aA]/\∃u,JP w0 b0 refs cv c1 fi fs fD ci ce R p cc ep ec 1 u/\TS w0 (u++ts) w'):ay->ak->Prop) (aZ #[(aQ false),VG]) Z) (az (at_ Z fi) λ IM IN C9=>aP ag (bw 242 1 #[(0,v_3)]) Z λ DA w7=>az (ax DA) λ y9 IQ IS=>aP ag (cM #[242,242] 242 #[(aa IM IN C9),(aa y9 IQ IS)]) w7 λ vD w8=>az (ax vD) λ sV IT y_=>
       Go.V.wr w8 fi (aa sV IT y_) λ w9=>sk (λ r w'=>r=aZ #[aQ false,aA]/\∃u,JP w0 b0 refs cv c1 fi fs fD ci ce R p cc ep ec 1 u/\TS w0 (u++ts) w') N1 (bs []) (off:Int) cv c1 fi fs fD ci ce w9))):=by
  intro w d pv h N1 hbb q;have G:=q.drew;generalize w.drew=w at G⊢;have uB:Ob w ⟨d,0,none⟩ [aa pv (fM refs).length h,aA]:=G.get (t:=dF ⟨d,0,none⟩ (aa pv (fM refs).length h)) (by simp);refine⟨_,E G (by simp[gu]),_,(K G).2.1,_,(K G).2.2,_,_,_,uB.at 0 rfl,_,uB.at 1 rfl,al1 (aF (k89 G hbb iS) ?_)⟩;rintro _ Z ⟨g,gv,rfl,hg,q6⟩;refine⟨_,_,_,rfl,(K q6).2.1,E q6 (by simp[gu]),_,rfl,_,rfl,_,rfl,_,λ w=>cE _ w,_,rfl,aT rfl ?_⟩;refine⟨_,_,_,q6.ei (a:=fi) (v:=aa P 0 C) (by simp[gu]), ?_⟩;have q7:=q6.perm (us:=aO jH 1 (aa P 0 C) []::([iD ⟨g,0,none⟩ gv 0,dF ⟨d,0,none⟩ (aa pv (fM refs).length h),aJ fi [aa P 0 C]]++([aJ fs [ah af ((0:Nat):Int)],aJ cv [aC (bs [])],aJ c1 [an (some R)],aJ fD [aa p 1 cc],aO bx 1 (aa p 1 cc) [([]:Wd)],aJ ci [ah af 0],aJ ce [aa ep 1 ec]]++ts))) (gI (l₁:=[iD _ _ _,dF _ _,aJ fi _]));refine q7.kB VC (x:=⟨g,0,none⟩) (al0 _ Z) (by simp) (by simp) (λ J I w8 q8 _=> ?_);obtain⟨g9,q9⟩:=q8.fq (pre:=[aO jH 1 _ _,iD _ _ _,dF _ _]) (a:=fi) (cs:=[aa P 0 C]) 0 (by simp) (aa J 1 I);rw[add_zero] at g9 q9;refine⟨⟨trivial,g9⟩, ?_⟩;generalize w8.setCell fi (aa J (fZ ([]:List al)+1) I)=w9 at q9⊢;unfold sk;obtain⟨g10,y⟩:=q9.fq (pre:=[aO jH 1 _ _,iD _ _ _,dF _ _,aJ fi _]) (a:=fs) (cs:=[ah af ((0:Nat):Int)]) 0 (by simp) (ah af 1);rw[add_zero] at g10 y;refine⟨_,q9.ei (a:=fs) (v:=ah af ((0:Nat):Int)) (by simp),⟨trivial,g10⟩, ?_⟩;generalize al8:w9.setCell fs _=jg;have y:TS w0 (aO jH 1 (aa J 1 I) [⟨g,0,none⟩]::iD ⟨g,0,none⟩ gv 0::dF ⟨d,0,none⟩ (aa pv (fM refs).length h)::aJ fi [aa J 1 I]::([aJ fs [ah af ((1:Nat):Int)],aJ cv [aC (bs [])],aJ c1 [an (some R)],aJ fD [aa p 1 cc],aO bx 1 (aa p 1 cc) [([]:Wd)],aJ ci [ah af 0],aJ ce [aa ep 1 ec]]++ts)) jg:=by rw[<-al8];exact y
  have W:at_ jg fD (aa p 1 cc):=y.ei (a:=fD) (v:=aa p 1 cc) (by simp);refine⟨_,y.ei (a:=fs) (v:=ah af ((1:Nat):Int)) (by simp),_,_,_,W,cJ rfl ?_⟩;unfold BV;have X:=y.drew;refine⟨_,X.ei (a:=ci) (v:=ah af 0) (by simp),_,_,_,X.ei (a:=ce) (v:=aa ep 1 ec) (by simp),cJ rfl ?_⟩;unfold xL;refine⟨rfl,iD ⟨g,0,none⟩ gv 0::gu cv c1 fi fs fD ci ce R J I [⟨g,0,none⟩] p cc ep ec,⟨J,I,_,_,hg,rfl⟩, ?_⟩;have nu:=X.sub (us:=aO jH 1 (aa J 1 I) [⟨g,0,none⟩]::iD ⟨g,0,none⟩ gv 0::aJ fi [aa J 1 I]::([aJ fs [ah af ((1:Nat):Int)],aJ cv [aC (bs [])],aJ c1 [an (some R)],aJ fD [aa p 1 cc],aO bx 1 (aa p 1 cc) [([]:Wd)],aJ ci [ah af 0],aJ ce [aa ep 1 ec]]++ts)) (.cons_cons _ (.cons_cons _ (.cons _ (lE _))));exact nu.perm (gI (l₁:=[iD _ _ _,aJ fi _])).symm
 refine⟨?_, ?_⟩
 ·refine G.tt (λ t w2 ht N=>⟨_,rfl,(K N).1,E N (by simp[gu]), ?_, ?_⟩)
  ·refine N.oJ hb ht hd (λ pv h w3 jU H=>⟨_,_,_,_,rfl,E H (by simp[gu]), ?_⟩);have Q:=H.vH;refine⟨E Q (by simp[gu]), ?_⟩;exact TS.vI trivial Q (λ w5 q5=>fin jU q5)
  ·have H:=N.vH;refine⟨(K H).1,E H (by simp[gu]), ?_⟩;refine H.oJ hb ((bA _ _).at ht) hd (λ pv h w4 U Q=>⟨_,_,_,_,rfl,E Q (by simp[gu]), ?_⟩);exact TS.vI trivial Q (λ w5 q5=>fin U q5)
 ·have N:=G.vH;refine⟨(K N).1,E N (by simp[gu]), ?_⟩;refine N.tt (λ t w3 ht H=>⟨_,rfl,(K H).1,E H (by simp[gu]), ?_⟩);refine H.oJ hb ht hd (λ pv h w4 U Q=>⟨_,_,_,_,rfl,E Q (by simp[gu]), ?_⟩);exact TS.vI trivial Q (λ w5 q5=>fin U q5)
end
section
variable{w0 w w':ak}{ts us:List LT}{b0:Option Nat}{B rest l:Wd}{p po:Option al}{cc co pt:Nat}{R g:al}{v:ay}{S:List Wd}{m:Wd->Option (List cQ)}{T:List (Wd×Wd×Nat)}
variable{cv c1 fi fs fD ci ce:al}{ep:Option al}{ec:Nat}
theorem al9{w:ak}{x:ay}{a b:Option al}{K:ay->ak->Prop}(h:au ag 165 #[x,an a,an b] w K):eJ ag (.func (.func 165) #[] #[an a,an b]) #[x] w K:=⟨165,_,by kernel_rfl,h⟩
theorem al_{y:Nat}(q:TS w0 ts w)(h:aJ ce [aa ep 1 ec]∈ts)(u:aJ cv [aC (bs [])]∈ts)(G:Sl gr 2 w0 (aa ep 1 ec) [(([]:Wd),y)]){k:Nat}(H:k<1):
  au ag 165 #[ah af (k:Int),an (some ce),an (some cv)] w λ r w'=>r=aQ true/\TS w0 ts w':=by
 have x:k=0:=by omega
 subst x;apply ab8;unfold PY;have c:=q.drew;refine⟨_,_,_,c.ei h,Sl.ix (enc:=gr) (z:=2) (l:=[(([]:Wd),y)]) (λ _=>rfl) (by omega) (Sl.aH G c.1) (by omega) (by simp) (λ a _ E=>⟨_,by
  have:=E 0 _ rfl;rwa[add_zero] at this,_,c.ei u, ?_,c⟩)⟩
 have e:ds (bs ([]:Wd)).toList (bs ([]:Wd)).toList=false:=nf _;show aQ (!(ds (bs ([]:Wd)).toList (bs ([]:Wd)).toList))=_;rw[e];rfl
theorem al'{P:Option al}{C:Nat}(h:Sl jH 1 w (aa P 1 C) [g]):au ag 144 #[aV #[],aa P 1 C] w λ r w'=>r=cG 260 (an (some g))/\aS w w':=by
 apply ac3;unfold QV;refine vG (λ u c x=> ?_);refine aT rfl (cJ rfl (Sl.ix (enc:=jH) (z:=1) (l:=[g]) (λ _=>rfl) (by omega) (Sl.aH h c) (by omega) (by simp) (λ a _ q=>⟨_,by
  have:=q 0 _ rfl;rwa[add_zero] at this,rfl,c⟩)))
theorem ama{α:Type}(a b c d e f g h i:α):[a,b,c,d,e,f,g,h,i].Perm [d,e,c,b,i,h,f,a,g]:=by
 classical
 rw[oV];intro z;simp only[oW];omega
def KM(w:ak)(c:al):Nat:=match w.cell? c with|some (ah _ n)=>1-n.toNat|_=>0
theorem VH{c:al}{k:IntKind}{n:Int}(h:at_ w c (ah k n)):KM w c=1-n.toNat:=by
 have h:w.cell? c=some (ah k n):=h;unfold KM;rw[h]
theorem k98{refs:List Nat}{off:Nat}(hR:gd w0 R v B S m pt)(qg:qh B T pt)(hT:nE T B)(gQ:B.length<=67108864)(y:m []=some [([],iw T 0)])(zG:∃h0:0<T.length,T[0]=([],[],off))(hd:B.drop off=dh (fM refs)++rest)(iS:refs.length<=1000)(ho:off<9223372036854775808)
  (q:TS w0 (aO bx 1 (aa p 1 cc) [([]:Wd)]::ts) w):
  au ag 98 #[an (some R),aV #[],aC (bs []),aa p 1 cc] w λ r w'=>∃g I,r=aZ #[cG 260 (an (some g)),aA]/\Bz w0 (aN v) I (refs.flatMap (be 4))/\TS w0 (iD g I 0::ts) w':=by
 obtain⟨ap_,Z⟩:=zG;have qi:B≠[]:=λ e=>by have:=qg.1;rw[e] at this;simp at this
 obtain⟨c,tc,sy,dc,st,pm,ns,po,co,g,h1,h2,h3,h4,⟨th,tu,zX,nD⟩,_⟩:=id hR.ex;apply c98;unfold PK;refine gf (cs:=[an (some R)]) (by simp) (λ w1 o1 k1 z1=> ?_);have q1:=q.ob o1 k1 rfl (by omega);generalize (⟨w.heap.size,0,none⟩:al)=c1 at q1⊢;refine vG (λ w2 k2 z2=> ?_);have q2:=q1.aH k2;generalize (⟨w1.heap.size,0,none⟩:al)=cx;refine gf (cs:=[aa p 1 cc]) (by simp) (λ w3 o3 k3 z3=> ?_);have q3:=q2.ob o3 k3 rfl (by omega);generalize (⟨w2.heap.size,0,none⟩:al)=fD at q3⊢;have a1:∀{w:ak} {us},TS w0 us w->aJ c1 [an (some R)]∈us->at_ w c1 (an (some R)):=λ q y=>q.ei y
 have X:∀{w:ak} {us},TS w0 us w->aJ fD [aa p 1 cc]∈us->at_ w fD (aa p 1 cc):=λ q y=>q.ei y
 refine⟨_,a1 q3 (by simp),_,q3.1.at (h1.at 9 rfl),aT rfl ⟨_,a1 q3 (by simp),_,q3.1.at (h1.at 3 rfl), ?_⟩⟩;obtain⟨Q,_⟩:=p9 (tu.aH q3.1) [];have hex:∃t,th []=some t:=by
  cases hh:th [] with
  |none=>rw[nD [] hh] at y;cases y
  |some t=>exact⟨t,rfl⟩
 obtain⟨⟨ep,en,ec⟩,het⟩:=hex;obtain⟨le,hle,E⟩:=zX [] _ het;rw[y] at hle;cases hle;have E:Sl gr 2 w0 (aa ep en ec) [(([]:Wd),iw T 0)]:=E;obtain⟨KN,_⟩:=E.len;have KN:en=1:=KN;subst KN;rw[het] at Q;have Q:(dJ 192 (.map (some pm)) (aC (bs [])) true).run ag w3= .ok (aZ #[aa ep 1 ec,aQ true]) w3:=Q;refine⟨_,_,Q,_,_,rfl,_,_,_,rfl,_,rfl, ?_⟩;refine lW (a:=aa ep 1 ec) trivial (λ w4 o4 k4 z4=> ?_);have q4:=q3.ob o4 k4 rfl (by omega);generalize (⟨w3.heap.size,0,none⟩:al)=ce at q4⊢;refine aT rfl ⟨_,_,_,X q4 (by simp),aT rfl ⟨_,_,_,X q4 (by simp), ?_⟩⟩;have q4:=q4.perm (us:=aO bx 1 (aa p 1 cc) [([]:Wd)]::([aJ ce [aa ep 1 ec],aJ fD [aa p 1 cc],aJ c1 [an (some R)]]++ts)) (gI (l₁:=[_,_,_]));have jS:cP bx 1 w4 (aa p 1 cc) [([]:Wd)]:=q4.get (t:=aO bx 1 (aa p 1 cc) [([]:Wd)]) (by simp);refine aF (JL (l:=[([]:Wd)]) jS (by simp)) ?_;rintro _ w5 ⟨jR,jQ⟩;have es:iu [([]:Wd)]=[[]]:=by simp[iu]
 rw[es] at jR;have q5:=q4.ey (t':=aO bx 1 (aa p 1 cc) [([]:Wd)]) jQ (λ b o hS=>hS) jR (λ b hb=> .inl hb);refine⟨_,_,_,X q5 (by simp), ?_⟩;obtain⟨w6,hr6,iJ,uE⟩:=uX VC.ty w5 1 (by omega) (by omega);refine⟨_,_,hr6,_,_,_,rfl, ?_⟩;have q6:=q5.new (t:=aO jH 1 (aa (some ⟨w5.heap.size,0,none⟩) 0 1) ([]:List al)) uE iJ (λ b hb=>by
  have gD:some w5.heap.size=some b:=hb;cases gD;exact⟨bB _,iJ.lt rfl⟩)
 generalize (some ⟨w5.heap.size,0,none⟩:Option al)=H at q6⊢;refine lW (a:=aa H 0 1) trivial (λ w7 o7 k7 z7=> ?_);have q7:=q6.ob o7 k7 rfl (by omega);generalize (⟨w6.heap.size,0,none⟩:al)=fi at q7⊢;refine lW (a:=ah af 0) trivial (λ w8 o8 k8 z8=> ?_);have q8:=q7.ob o8 k8 rfl (by omega);generalize (⟨w7.heap.size,0,none⟩:al)=fs at q8⊢;have q8:TS w0 (aJ fs [ah af ((0:Nat):Int)]::aJ fi [aa H 0 1]::aO jH 1 (aa H 0 1) []::aO bx 1 (aa p 1 cc) [([]:Wd)]::aJ ce [aa ep 1 ec]::aJ fD [aa p 1 cc]::aJ c1 [an (some R)]::ts) w8:=q8;refine abY (λ a b c d e f w'=>c1=a/\fD=c/\ce=d/\fi=e/\fs=f/\TS w0 (aJ fs [ah af ((0:Nat):Int)]::aJ fi [aa H 0 1]::aO jH 1 (aa H 0 1) []::aO bx 1 (aa p 1 cc) [([]:Wd)]::aJ ce [aa ep 1 ec]::aJ fD [aa p 1 cc]::aJ c1 [an (some R)]::ts) w') (λ _ _ _ _ _ _ _=>0) ⟨rfl,rfl,rfl,rfl,rfl,q8⟩ ?_;rintro _ Vw _ _ _ _ w9 ⟨rfl,rfl,rfl,rfl,rfl,q9⟩;have ai:∀{w:ak} {us} {n:Nat},TS w0 us w->aJ fs [ah af (n:Int)]∈us->at_ w fs (ah af (n:Int)):=λ q y=>q.ei y
 have ae:∀{w:ak} {us},TS w0 us w->aJ ce [aa ep 1 ec]∈us->at_ w ce (aa ep 1 ec):=λ q y=>q.ei y
 have aqW:∀{w:ak} {us} {K:al->Prop},TS w0 us w->aO bx 1 (aa p 1 cc) [([]:Wd)]∈us->(∀a,at_ w a (aC (bs []))->K a)->aU p 1 0 1 K:=λ q y hk=>by
  have ho:cP bx 1 _ (aa p 1 cc) [([]:Wd)]:=q.get y;exact Sl.ix (enc:=bx) (z:=1) (l:=[([]:Wd)]) (λ _=>rfl) (by omega) ho.cV (by omega) (by simp) (λ a _ N=>hk a (by
   have:=N 0 _ rfl;rwa[add_zero] at this))
 have e00:ds (bs ([]:Wd)).toList (bs ([]:Wd)).toList=false:=nf _;unfold G3;have x:=q9.drew;refine⟨_,ai (n:=0) x (by simp),_,_,_,X x (by simp),cJ rfl ⟨_,_,_,X x (by simp),_,ai (n:=0) x (by simp),aqW x (by simp) (λ a N=>⟨_,N,_,_,_,ae x (by simp), ?_⟩)⟩⟩;refine Sl.ix (enc:=gr) (z:=2) (l:=[(([]:Wd),iw T 0)]) (λ _=>rfl) (by omega) (Sl.aH E x.1) (by omega) (by simp) (λ a _ N=>⟨_,by
  have:=N 0 _ rfl;rwa[add_zero] at this,aT e00 ?_⟩)
 unfold BS;generalize w9.drew=jg at x⊢;refine abX (λ a b c d e f w'=>c1=a/\fD=c/\ce=d/\fi=e/\fs=f/\(TS w0 (aJ fs [ah af ((0:Nat):Int)]::aJ fi [aa H 0 1]::aO jH 1 (aa H 0 1) []::aO bx 1 (aa p 1 cc) [([]:Wd)]::aJ ce [aa ep 1 ec]::aJ fD [aa p 1 cc]::aJ c1 [an (some R)]::ts) w'\/∃P C g I cv ci,Bz w0 (aN v) I (refs.flatMap (be 4))/\TS w0 (iD g I 0::gu cv c1 fi fs fD ci ce R P C [g] p cc ep ec++ts) w')) (λ _ _ _ _ _ f w=>KM w f) ⟨rfl,rfl,rfl,rfl,rfl, .inl x⟩ ?_;rintro _ ap' _ _ _ _ gA ⟨rfl,rfl,rfl,rfl,rfl,u|⟨P,C,g,I,cv,ci,hg,u⟩⟩
 ·unfold BR;refine⟨_,ai (n:=0) u (by simp),_,_,_,X u (by simp),cJ rfl ⟨_,_,_,X u (by simp),_,ai (n:=0) u (by simp),aqW u (by simp) (λ a N=>⟨_,N, ?_⟩)⟩⟩;refine lW (a:=aC (bs [])) trivial (λ gn pU iK z12=> ?_);have nu:=u.ob pU iK rfl (by omega);generalize (⟨gA.heap.size,0,none⟩:al)=cv at nu⊢;refine⟨_,_,_,ae nu (by simp), ?_⟩;refine aF (Vh (n:=1) (pr:=λ _=>true) (by omega) (λ k hk w q=>al9 (al_ q (by simp) (by simp) E hk)) nu) ?_;rintro _ nt ⟨⟨i,rfl,hi,Kw⟩,z_⟩;have sY:i=0:=by
   rcases Nat.eq_zero_or_pos i with h|h
   ·exact h
   ·exact absurd (Kw h) (by simp)
  subst sY;refine⟨_,rfl, ?_⟩;refine lW (a:=ah af ((0:Nat):Int)) trivial (λ oz o14 yT z14=> ?_);have U:=z_.ob o14 yT rfl (by omega);generalize (⟨nt.heap.size,0,none⟩:al)=ci at U⊢;have KO:∀{w:ak} {us},TS w0 us w->aJ ci [ah af ((0:Nat):Int)]∈us->at_ w ci (ah af ((0:Nat):Int)):=λ q y=>q.ei y
  refine⟨_,KO U (by simp),_,_,_,ae U (by simp),aT rfl ?_⟩;have Aa:=U.drew;refine⟨_,KO Aa (by simp),aT rfl ?_⟩;unfold xG;have G:=Aa.drew;refine⟨_,a1 G (by simp),_,_,_,ae G (by simp),_,KO G (by simp), ?_⟩;refine Sl.ix (enc:=gr) (z:=2) (l:=[(([]:Wd),iw T 0)]) (λ _=>rfl) (by omega) (Sl.aH E G.1) (by omega) (by simp) (λ a _ N=>⟨_,N 1 _ rfl, ?_⟩);have q17:TS w0 (gu cv c1 fi fs fD ci ce R H 1 [] p cc ep ec++ts) oz.drew.drew:=G.perm (by
   unfold gu;exact vN ts (ama (aJ ci _) (aJ cv _) (aJ fs _) (aJ fi _) (aO jH 1 _ _) (aO bx 1 _ _) (aJ ce _) (aJ fD _) (aJ c1 _)))
  refine aF (Vv (J:=JP w0 (aN v) refs cv c1 fi fs fD ci ce R p cc ep ec) (us:=_) (ts:=ts) (i0:=0) (n:=1) (nm:=[]) hR qg hT gQ (by omega) (by omega) (λ k hk=> ?_) (λ k hk us ts w hJ q=> ?_) ⟨H,1,rfl⟩ q17) ?_
  ·have mm:k=0:=by omega
   subst mm;have e:T[0+0]=([],[],off):=Z;rw[e]
  ·have mm:k=0:=by omega
   subst mm;have e:T[0+0]=([],[],off):=Z;rw[e];exact al2 (al3 hR qi ho iS hd hJ q)
  ·rintro _ SN ⟨rfl,us',⟨P,C,g,I,hg,rfl⟩,W⟩;refine⟨_,rfl,W.ei (a:=ci) (v:=ah af ((0:Nat):Int)) (by simp[gu]),W.ei (a:=ce) (v:=aa ep 1 ec) (by simp[gu]),_,λ w=>cE _ w,_,rfl,aT rfl ⟨⟨rfl,rfl,rfl,rfl,rfl, .inr ⟨P,C,g,I,cv,ci,hg,W⟩⟩, ?_⟩⟩;have e1:=VH (W.ei (a:=fs) (v:=ah af ((1:Nat):Int)) (by simp[gu]));have e2:=VH (ai (n:=0) u (by simp));rw[e1,e2];decide
 ·unfold BR;refine⟨_,u.ei (a:=fs) (v:=ah af ((1:Nat):Int)) (by simp[gu]),_,_,_,X u (by simp[gu]),aT rfl ?_⟩;unfold BQ;refine⟨_,_,_,u.ei (a:=fi) (v:=aa P 1 C) (by simp[gu]), ?_⟩;have ho:cP jH 1 gA (aa P 1 C) [g]:=u.get (t:=aO jH 1 (aa P 1 C) [g]) (by simp[gu]);refine aF (al' ho.cV) ?_;rintro _ gn ⟨rfl,iK⟩;refine⟨_,rfl,g,I,rfl,hg,(u.aH iK).sub (.cons_cons _ ?_)⟩;exact List.sublist_append_right _ _
end
section
variable{w0 w w':ak}{ts us:List LT}{b0:Option Nat}{B rest l:Wd}{p po:Option al}{cc co pt:Nat}{R g b:al}{v:ay}{S:List Wd}{m:Wd->Option (List cQ)}{T:List (Wd×Wd×Nat)}
theorem VJ{w:ak}:au ag 251 #[] w λ r w'=>r=aV #[]/\aS w w':=by
 apply acx;exact⟨rfl,bA _ _⟩
theorem VK{i:Nat}(Q:gd w0 R v B S m pt)(U:S.length<=100000)(hi:i<S.length)(q:TS w0 ts w):
  au ag 120 #[an (some R),aV #[],ah aL (i:Int)] w λ r w'=>r=aZ #[aC (bs S[i]),aA]/\TS w0 ts w':=by
 apply ab2;unfold PS;refine vG (λ x X z1=> ?_);have G:=q.aH X;have y:=Q.aH G.1;obtain⟨c,tc,sy,dc,st,pm,I,po,co,g,H,h2,u,J,h5,K,N,h8⟩:=y.ex;refine⟨_,H.at 6 rfl, ?_⟩;have h:=(pg zC oG (z:=aC ⟨#[]⟩) (λ w=>by kernel_rfl) K i).1;cases E:g i with
 |some n=>
  rw[E] at h;obtain⟨hn,W⟩:=N i n E;have h:(dJ 195 (.map (some I)) (ah aL (i:Int)) true).run ag x= .ok (aZ #[aC (bs n),aQ true]) x:=h;refine⟨_,_,h,_,_,rfl,_,rfl,_,rfl,cJ rfl ⟨?_,G⟩⟩;have e:S[i]=n:=by
   subst W;exact List.getElem_idxOf _
  rw[e]
 |none=>
  rw[E] at h;have h:(dJ 195 (.map (some I)) (ah aL (i:Int)) true).run ag x= .ok (aZ #[aC ⟨#[]⟩,aQ false]) x:=h;refine⟨_,_,h,_,_,rfl,_,rfl,_,rfl,aT rfl ⟨_,H.at 5 rfl,_,u.at 0 rfl,_,u.at 1 rfl,_,u.at 2 rfl,_,_,_,u.at 3 rfl,_,u.at 4 rfl, ?_⟩⟩;refine aF (S7 J hi U rfl) ?_;rintro _ w2 ⟨rfl,Z⟩;exact⟨_,_,rfl,_,rfl,_,rfl,rfl,G.aH Z⟩
theorem VL{w:ak}{x y:ay}{K:ay->ak->Prop}(h:au ag 120 #[an (some R),x,y] w K):eJ ag (.func (.func 120) #[an (some R)] #[]) #[x,y] w K:=⟨120,_,by kernel_rfl,h⟩
def gG(b:al)(v:ay)(l:eh):LT:=
 ⟨λ x=>x=b.block\/aN v=some x,λ w=>SB w b v l (bs []),λ h q r=>⟨h.1.fr q (λ o _ _ c=>r _ o c (.inl rfl)),h.2.1.fr q (λ x u o c=>r x o c (.inr u)),h.2.2⟩⟩
theorem TS.sb{y c:ay}{J u:eh}(q:TS w0 (gG b y J::ts) w)(H:Fr (CJ b y) w w')(h:SB w' b c u (bs []))(G:aN c=aN y\/∃g,aN c=some g/\w.heap.size<=g):TS w0 (gG b c u::ts) w':=by
 refine q.ey (t':=gG b c u) H (λ x o E=> ?_) h (λ x r=> ?_)
 ·rcases E with h|h
  ·exact .inl h.1
  ·exact .inr h
 ·rcases r with r|r
  ·exact .inl (.inl r)
  ·rcases G with e|⟨g,e,I⟩
   ·exact .inl (.inr (by rw[<-e];exact r))
   ·rw[e] at r;cases r;exact .inr ⟨I,h.2.1.lt e⟩
theorem TS.CK{h:ay}{r:eh}(q:TS w0 (gG b h r::ts) w):au ag 211 #[an (some b)] w λ _ w'=>∃c,TS w0 (gG b c []::ts) w':=by
 refine aF (Go.Proofs.CK (q.get (t:=gG b h r) (by simp))) ?_;rintro _ w' ⟨c,u,x,y⟩;exact⟨c,q.sb x u (.inl y)⟩
theorem TS.Im{r:ay}{h:eh}{x:Wd×Wd}(q:TS w0 (gG b r h::ts) w)(G:h.length<=1000):au ag 252 #[an (some b),aC (bs x.1),aC (bs x.2)] w λ _ w'=>∃c,TS w0 (gG b c (h++[x])::ts) w':=by
 refine aF (Go.Proofs.Im (q.get (t:=gG b r h) (by simp)) G) ?_;rintro _ w' ⟨c,u,y,E⟩;exact⟨c,q.sb y u E⟩
end
theorem VM(a b:Int):aq af (aq af a+aq af (b-a))=aq af b:=by
 rw[re,re a,re (b-a),re b];omega
theorem VN{n:Nat}(h:n<18446744073709551616):aq aj (aq af (n:Int))=(n:Int):=by
 rw[re,wrap_u64];omega
section
variable{w0 w w':ak}{ts us:List LT}{b0:Option Nat}{B rest l:Wd}{p po:Option al}{cc co pt:Nat}{R g b ch dc d:al}{v:ay}{S:List Wd}{m:Wd->Option (List cQ)}{T:List (Wd×Wd×Nat)}
def VO(w0:ak)(b0:Option Nat)(ch d:al)(C:List iq)(ts:List LT)(c:Int)(j:Nat)(t:Int)(w:ak):Prop:=
 ∃v y r,1<=j/\j<=C.length/\c=aq af ((r:Nat):Int)/\ -1152921504606846976<=t/\t<=1152921504606846976/\Bz w0 b0 v (kX t r (C.drop j))/\ju t (C.drop j)/\TS w0 (aO dN 4 y (C.take j)::aJ ch [y]::dF d v::ts) w
theorem amg{K:ay->ak->Prop}{C:List iq}{G t0:Int}(hC:C.length<=10)(h:VO w0 b0 ch d C ts G 1 t0 w)(hK:∀w' y,TS w0 (aO dN 4 y C::aJ ch [y]::ts) w'->K aA w'):
  He K (some ch) d (C.length:Int) t0 G 1 w:=by
 refine acr (λ c' d' k t0 G i w'=>some ch=c'/\d=d'/\k=(C.length:Int)/\∃j:Nat,i=(j:Int)/\VO w0 b0 ch d C ts G j t0 w') (λ _ _ k _ _ i _=>(k-i).toNat) ⟨rfl,rfl,rfl,1,rfl,h⟩ ?_;rintro _ _ _ t G _ w1 ⟨rfl,rfl,rfl,j,rfl,v,y,r,h1,h2,rfl,t1,t2,N,hT,q⟩;unfold Hd;have qD:∀{w:ak} {v y:ay} {l:List iq},TS w0 (aO dN 4 y l::aJ ch [y]::dF d v::ts) w->TS w0 (dF d v::aO dN 4 y l::aJ ch [y]::ts) w:=λ q=>q.perm (gI (l₁:=[_,_]))
 have qE:∀{w:ak} {v y:ay} {l:List iq},TS w0 (dF d v::aO dN 4 y l::aJ ch [y]::ts) w->TS w0 (aO dN 4 y l::aJ ch [y]::dF d v::ts) w:=λ q=>q.perm (gI (l₁:=[_,_])).symm
 refine bn (λ U=> ?_) (λ U=> ?_)
 ·have J:j<C.length:=by simp at U;omega
  rw[gS J] at N hT;obtain⟨c1,c2,c3,c4,c5,c6⟩:=hT;generalize W:C[j]=c at*;obtain⟨H,u,E⟩:=c;dsimp only at c1 c2 c3 c4 c5 c6;have N:Bz w0 b0 v (bm (u-t).toNat++(bm (E-u).toNat++(bm (eO (aq af ((H:Int)-r)))++kX E H (C.drop (j+1))))):=N;have JZ:=re ((H:Int)-r);refine aF ((qD q).mh N (by omega)) ?_;rintro _ w2 ⟨v2,X,q2,rfl⟩;refine⟨_,rfl,aF (q2.mh X (by omega)) ?_⟩;rintro _ w3 ⟨v3,Z,q3,rfl⟩;refine⟨_,rfl,aF (q3.Cz Z (by omega) (by omega)) ?_⟩;rintro _ w4 ⟨v4,Q,q4,rfl⟩;refine⟨_,rfl,aF (q4.fU Q) ?_⟩;rintro _ w4 ⟨rfl,rfl⟩;refine⟨_,rfl,_,λ w=>cE _ w,_,rfl,aT rfl ?_⟩;have q5:=qE q4;have ho:cP dN 4 w4 y (C.take j):=q5.get (t:=aO dN 4 y (C.take j)) (by simp);obtain⟨yp,yc,rfl,_⟩:=aX.ex ho.cV;have T7:(C.take j).length=j:=by rw[fS];omega
  refine⟨_,_,_,q5.ei (a:=ch) (v:=aa yp (C.take j).length yc) (by simp), ?_⟩;have e1:aq af ((aq af (((u-t).toNat:Nat):Int))+t)=u:=by
   rw[bk (x:=(((u-t).toNat:Nat):Int)) (by omega) (by omega),bk (by omega) (by omega)];omega
  have e2:aq af ((aq af (((E-u).toNat:Nat):Int))+u)=E:=by
   rw[bk (x:=(((E-u).toNat:Nat):Int)) (by omega) (by omega),bk (by omega) (by omega)];omega
  have e3:aq aj (aq af (aq af ((r:Nat):Int)+aq af ((H:Int)-r)))=(H:Int):=by
   rw[VM,VN c5]
  dsimp only;rw[e1,e2,e3];refine q5.kB Kl (x:=(H,u,E)) (Km (H,u,E) w4) (by omega) (by omega) (λ p6 I w6 q6 _=> ?_);obtain⟨g1,q7⟩:=q6.fq (pre:=[aO dN 4 _ _]) (a:=ch) (cs:=[_]) 0 (by simp) (aa p6 ((C.take j).length+1) I);rw[add_zero] at g1 q7;refine⟨⟨trivial,g1⟩, ?_⟩;rw[show aq af ((j:Int)+1)=((j+1:Nat):Int) by rw[bk (by omega) (by omega)];omega];refine⟨⟨rfl,rfl,rfl,j+1,rfl,v4,aa p6 ((C.take j).length+1) I,H,by omega,by omega, ?_,by omega,by omega,Q,c6, ?_⟩,by omega⟩
  ·rw[VM]
  ·have e:C.take j++[(H,u,E)]=C.take (j+1):=by rw[jm J,W]
   rw[e] at q7;exact q7
 ·have he:j=C.length:=by simp at U;omega
  subst he;refine aF ((qD q).fU N) ?_;rintro _ w1 ⟨rfl,rfl⟩;rw[fY] at q;exact⟨_,rfl,hK _ _ (q.sub (.cons_cons _ (.cons_cons _ (.cons _ (lE _)))))⟩
theorem amh{x:bI}{bv:ay}{lb:eh}(hR:gd w0 R v B S m pt)(hS:S.length<=100000)(J:at_ w0 dc (.func (.func 120) #[an (some R)] #[]))(hx:x.labels.length<=10)(mr:∀y∈x.labels,y.1∈S/\y.2∈S)(Cp:x.chunks.length<=10/\ju (-2305843009213693952) x.chunks)
  (hz:Bz w0 b0 (aa p (cA S x).length cc) (cA S x))(q:TS w0 (gG b bv lb::aJ ch [ba]::ts) w):
  au ag 212 #[an (some dc),aa p (cA S x).length cc,an (some b),an (some ch)] w λ r w'=>r=aA/\∃bv' y,TS w0 (gG b bv' x.labels::aJ ch [y]::aO dN 4 y x.chunks::ts) w':=by
 obtain⟨fj,kL⟩:=Cp;apply acu;unfold v212;refine aF q.CK ?_;rintro _ w1 ⟨VQ,q1⟩;refine⟨_,λ w=>by kernel_rfl,_,rfl,cJ rfl ?_⟩;have VR:∀{w:ak} {us} {y:ay},TS w0 us w->aJ ch [y]∈us->at_ w ch y:=λ q hm=>q.ei hm
 refine⟨_,_,_,VR (y:=ba) q1 (by simp),_,λ w=>gV (e:=133) (by kernel_rfl) (z:=4) (by kernel_rfl) none 0 0 0 0 (bB _) (bB _) none _ (.inl ⟨rfl,rfl⟩) (.inr ⟨_,rfl⟩) w,_,_,_,rfl, ?_⟩;obtain⟨g2,q2⟩:=q1.fq (pre:=[gG _ _ _]) (a:=ch) (cs:=[ba]) 0 (by simp) ba;rw[add_zero] at g2 q2;refine⟨⟨trivial,g2⟩, ?_⟩;generalize DV:w1.setCell ch _=w2;have q2:TS w0 (gG b VQ []::aJ ch [ba]::ts) w2:=by rw[<-DV];exact q2
 unfold B8;refine Kp q2 trivial (λ w3 q3=> ?_);generalize (⟨w2.heap.size,0,none⟩:al)=d at q3⊢;generalize (aa p (cA S x).length cc)=sv at hz q3;unfold cA at hz;refine aF (q3.kI hz (by omega)) ?_;rintro _ w4 ⟨v4,Ke,q4,rfl⟩;refine⟨_,rfl, ?_⟩;refine acs (λ a b' c' d' k i w'=>dc=a/\some b=b'/\some ch=c'/\d=d'/\k=(x.labels.length:Int)/\∃(j:Nat) (v bv:ay),i=(j:Int)/\j<=x.labels.length/\Bz w0 b0 v (fy S (x.labels.drop j)++(bm x.chunks.length++lP x.chunks))/\TS w0 (dF d v::gG b bv (x.labels.take j)::aJ ch [ba]::ts) w') (λ _ _ _ _ k i _=>(k-i).toNat) ⟨rfl,rfl,rfl,rfl,rfl,0,v4,VQ,rfl,dO _,Ke,q4⟩ ?_;rintro _ _ _ _ _ _ w5 ⟨rfl,rfl,rfl,rfl,rfl,j,v5,I,rfl,hj,E,q5⟩;unfold Hf;refine bn (λ hc=> ?_) (λ hc=> ?_)
 ·have X:j<x.labels.length:=by simp at hc;omega
  have W:=mr _ (iy X);have vn:=oH W.1;have UH:=oH W.2;have E:Bz w0 b0 v5 (bm (bo S (x.labels[j]).1)++(bm (bo S (x.labels[j]).2)++(fy S (x.labels.drop (j+1))++(bm x.chunks.length++lP x.chunks)))):=by
   rw[gS X] at E;unfold fy at E⊢;rw[fG] at E;simpa only[dx] using E
  refine aF (q5.kI E (by omega)) ?_;rintro _ w6 ⟨v6,G,q6,rfl⟩;refine⟨_,rfl,aF (q6.kI G (by omega)) ?_⟩;rintro _ w7 ⟨v7,K,q7,rfl⟩;refine⟨_,rfl,aF (q7.fU K) ?_⟩;rintro _ w7 ⟨rfl,rfl⟩;refine⟨_,rfl,_,λ w=>cE _ w,_,rfl,aT rfl ?_⟩;have q8:=q7.drew;refine⟨_,q8.1.at J,aF VJ ?_⟩;rintro _ w9 ⟨rfl,k9⟩;have q9:=q8.aH k9;rw[iY (by omega) (by omega)];refine⟨rfl,q9.1.at J,VL (aF (VK hR hS vn q9) ?_)⟩;rintro _ jg ⟨rfl,Z⟩;refine⟨_,_,rfl,_,rfl,_,rfl,_,λ w=>cE _ w,_,rfl,aT rfl ?_⟩;have Q:=Z.drew;refine⟨_,Q.1.at J,aF VJ ?_⟩;rintro _ gn ⟨rfl,iK⟩;have H:=Q.aH iK;rw[iY (by omega) (by omega)];refine⟨rfl,H.1.at J,VL (aF (VK hR hS UH H) ?_)⟩;rintro _ nt ⟨rfl,z_⟩;refine⟨_,_,rfl,_,rfl,_,rfl,_,λ w=>cE _ w,_,rfl,aT rfl ?_⟩;have e1:S[bo S (x.labels[j]).1]=(x.labels[j]).1:=List.getElem_idxOf _;have e2:S[bo S (x.labels[j]).2]=(x.labels[j]).2:=List.getElem_idxOf _;rw[e1,e2];have nr:=z_.perm (d_ _ _ _);refine aF (nr.Im (x:=x.labels[j]) (by rw[fS];omega)) ?_;rintro _ zd ⟨amj,Aa⟩;rw[<-jm X] at Aa;rw[show aq af ((j:Int)+1)=((j+1:Nat):Int) by rw[bk (by omega) (by omega)];omega];exact⟨⟨rfl,rfl,rfl,rfl,rfl,j+1,v7,amj,rfl,by omega,K,Aa.perm (d_ _ _ _)⟩,by omega⟩
 ·have he:j=x.labels.length:=by simp at hc;omega
  subst he;rw[fY] at q5;rw[List.drop_length] at E;have E:Bz w0 b0 v5 (bm x.chunks.length++lP x.chunks):=E;refine⟨_,λ w=>by kernel_rfl,_,rfl,aT rfl (aF (q5.kI E (by omega)) ?_)⟩;rintro _ w6 ⟨v6,G,q6,rfl⟩;refine⟨_,rfl, ?_⟩;cases Et:x.chunks with
  |nil=>
   refine cJ rfl (aF (q6.fU G) ?_);rintro _ w6 ⟨rfl,rfl⟩;refine⟨_,rfl,rfl,I,ba, ?_⟩;have q7:=q6.tail.new (t:=aO dN 4 ba ([]:List iq)) (Fr.refl _ _) (Own.nil _ _) (λ b hb=>by cases hb);exact q7.perm (gI (l₁:=[_,_])).symm
  |cons c cs=>
   rw[Et] at G fj kL;obtain⟨U,u,h⟩:=c;obtain⟨d1,d2,d3,d4,d5,d6⟩:=kL;dsimp only at d1 d2 d3 d4 d5 d6;have G:Bz w0 b0 v6 (bm (eO u)++(bm (h-u).toNat++(bm U++kX h U cs))):=G;refine aT (by rw[beq_eq_false_iff_ne,dH];omega) (aF (q6.Cz G (by omega) (by omega)) ?_);rintro _ w7 ⟨v7,K,q7,rfl⟩;refine⟨_,rfl,aF (q7.mh K (by omega)) ?_⟩;rintro _ w8 ⟨v8,IZ,q8,rfl⟩;refine⟨_,rfl,aF (q8.mh IZ (by omega)) ?_⟩;rintro _ w9 ⟨v9,hv9,q9,rfl⟩;refine⟨_,rfl,_,_,_,VR (y:=ba) q9 (by simp), ?_⟩;have e2:aq af ((aq af (((h-u).toNat:Nat):Int))+u)=h:=by
    rw[bk (x:=(((h-u).toNat:Nat):Int)) (by omega) (by omega),bk (by omega) (by omega)];omega
   dsimp only;rw[e2,VN d5];have Z:=q9.new (t:=aO dN 4 ba ([]:List iq)) (Fr.refl _ _) (Own.nil _ _) (λ b hb=>by cases hb);refine Z.kB Kl (x:=(U,u,h)) (Km (U,u,h) w9) (by simp) (by simp) (λ N o_ gA Q _=> ?_);obtain⟨g12,H⟩:=Q.fq (pre:=[aO dN 4 _ _,dF _ _,gG _ _ _]) (a:=ch) (cs:=[ba]) 0 (by simp) (aa N 1 o_);rw[add_zero] at g12 H;refine⟨⟨trivial,g12⟩, ?_⟩;generalize aml:gA.setCell ch _=gn;have H:TS w0 (aO dN 4 (aa N 1 o_) [(U,u,h)]::dF d v9::gG b I x.labels::aJ ch [aa N 1 o_]::ts) gn:=by rw[<-aml];exact H
   refine amg (C:=(U,u,h)::cs) (ts:=gG b I x.labels::ts) fj ⟨v9,aa N 1 o_,U,bB _,by simp,rfl,by omega,by omega,hv9,d6, ?_⟩ (λ w' y q'=>⟨rfl,I,y, ?_⟩)
   ·exact H.perm ((gI (l₁:=[dF d v9,gG b I x.labels])).cons _)
   ·exact q'.perm (vN ts (List.reverse_perm [gG b I x.labels,aJ ch [y],aO dN 4 y ((U,u,h)::cs)]))
end
section
variable{w0 w w':ak}{ts us:List LT}{b0:Option Nat}{B rest l:Wd}{p po:Option al}{cc co pt:Nat}{R g b ch dc d:al}{v:ay}{S:List Wd}{m:Wd->Option (List cQ)}{T:List (Wd×Wd×Nat)}
theorem TS.KP{c:Wd}{off:Nat}{t:al}{K:ay->ak->Prop}(q:TS w0 us w)(h:Bz w0 b0 (aa p B.length cc) B)(N:lK w t)(u:0<c.length)(hd:B.drop off=fk c++rest)
  (I:∀pv x w',Bz w0 b0 (aa pv c.length x) c->TS w0 us w'->K (aV #[aa pv c.length x,aA]) w'):au ag 114 #[cW (aa p B.length cc),ah af (off:Int),an (some t)] w K:=by
 have y:=h.len;have r:B.drop off=bm c.length++(c++(be 4 (cI 0 c)++rest)):=by
  rw[hd,fk];simp only[dx]
 have J:c.length<=B.length:=by
  have:=congrArg fZ r;rw[hY] at this;simp only[aY] at this;omega
 refine aF (adN iO (h.now q.1) N y u r) ?_;rintro _ w' ⟨v,rfl,G,E,k⟩;obtain⟨pv,x,rfl,_⟩:=aX.ex G;have H:=q.aH k;exact I pv x w' (Bz.of H.1 G (E.trans h.aN) h.lt (by omega)) H
structure KQ(S:List Wd)(x:bI):Prop where
 fQ:0<x.labels.length/\x.labels.length<=10
 short:ia x.labels
 sym:∀y∈x.labels,y.1∈S/\y.2∈S
 gk:x.chunks.length<=10/\ju (-2305843009213693952) x.chunks
theorem amm{x:bI}{ref:Nat}{bv:ay}{lb:eh}(U:gd w0 R v B S m pt)(qi:B≠[])(hS:S.length<=100000)(hx:KQ S x)(hr:ref<4294967296)(hd:B.drop (16*ref)=fk (cA S x)++rest)(q:TS w0 (gG b bv lb::aJ ch [ba]::ts) w):
  au ag 167 #[an (some R),ah aj (ref:Int),an (some b),an (some ch)] w λ r w'=>r=aA/\∃h y,TS w0 (gG b h x.labels::aJ ch [y]::aO dN 4 y x.chunks::ts) w':=by
 have W:=U.bz qi;obtain⟨c,tc,sy,dc,st,pm,ns,po,co,g,h1,h2,h3,h4,h5,h6,h7,h8⟩:=id U.ex;obtain⟨pB,cB,rfl,_⟩:=aX.ex W.eD;generalize aN (aa pB B.length cB)=b0 at W;have E:0<(cA S x).length:=by
  unfold cA;rw[aY];have:=jB x.labels.length;omega
 apply ab';unfold v167;have G:∀{w:ak} {us},TS w0 us w->at_ w R (cW (aa pB B.length cB))/\at_ w (R.add 9) (ah af 2)/\at_ w (R.add 7) (an st)/\at_ w (R.add 8) (an (some dc)):=λ q=>⟨q.1.at U.eM,q.1.at U.at9,q.1.at (h1.at 7 rfl),q.1.at (h1.at 8 rfl)⟩
 refine⟨_,(G q).2.1,cJ rfl ?_⟩;rw[show aq aj ((ref:Int)*16)=((16*ref:Nat):Int) by rw[dV (by omega) (by omega)];omega];unfold BW;have qd:=q.drew;refine⟨_,(G qd).1, ?_⟩;rw[bk (by omega) (by omega)];have fin:∀{w:ak} {d:Nat} {pv:Option al} {u:Nat},Bz w0 b0 (aa pv (cA S x).length u) (cA S x)->TS w0 (dF ⟨d,0,none⟩ (aa pv (cA S x).length u)::gG b bv lb::aJ ch [ba]::ts) w->
   au ag 105 #[(an (some ⟨d,0,none⟩))] w λ tk w6=>aM (ax tk) λ zW=>bb ag (bq .neq 86 (br 42) (bt aA) zW aA) λ e=>aW (ax e) λ b_=>aB b_
    (au ag 105 #[(an (some ⟨d,0,none⟩))] w6 λ zU w7=>aM (ax zU) λ zY=>((λ r w'=>r=aA/\∃h y,TS w0 (gG b h x.labels::aJ ch [y]::aO dN 4 y x.chunks::ts) w'):ay->ak->Prop) zY w7)
    (bf (at_ w6 (aw R 7)) λ p_1=>au ag 210 #[(an (some b)),(an p_1)] w6 λ vm w8=>au ag 211 #[(an (some b))] w8 λ DA w9=>bf (at_ w9.drew (aw R 8)) λ X=>
     au ag 115 #[(an (some ⟨d,0,none⟩))] w9.drew λ vD jg=>az (ax vD) λ sP sL sC=>aK jg (aw R 8) [(an X)] 0 (au ag 212 #[(an X),(aa sP sL sC),(an (some b)),(an (some ch))] jg λ zB K=>aM (ax zB) λ v_3=>bb ag (bq .neq 86 (br 61) (bt aA) v_3 aA) λ e_1=>aW (ax e_1) λ b_1=>aB b_1 (((λ r w'=>r=aA/\∃h y,TS w0 (gG b h x.labels::aJ ch [y]::aO dN 4 y x.chunks::ts) w'):ay->ak->Prop) v_3 K) (((λ r w'=>r=aA/\∃h y,TS w0 (gG b h x.labels::aJ ch [y]::aO dN 4 y x.chunks::ts) w'):ay->ak->Prop) aA K))):=by
  intro w d pv u hz q;refine aF (q.fU hz) ?_;rintro _ w6 ⟨rfl,rfl⟩;refine⟨_,rfl,_,λ w=>cE _ w,_,rfl,aT rfl ⟨_,(G q).2.2.1,aF aev ?_⟩⟩;rintro _ w7 e;subst e;have qs:=q.perm (d_ _ _ _);refine aF qs.CK ?_;rintro _ w9 ⟨bv9,q9⟩;have H:=(q9.perm (d_ _ _ _)).drew;refine⟨_,(G H).2.2.2,aF (H.Cx hz) ?_⟩;rintro _ K ⟨rfl,rfl⟩;refine⟨_,_,_,rfl,(G H).2.2.2, ?_⟩;refine aF (amh (dc:=dc) (x:=x) U hS (by
   have:=h8.at 0 rfl;rwa[add_zero] at this) hx.fQ.2 hx.sym hx.gk hz H.tail) ?_
  rintro _ gn⟨rfl,Q,y,nu⟩;exact⟨_,rfl,_,λ w=>cE _ w,_,rfl,aT rfl ⟨rfl,Q,y,nu⟩⟩
 refine⟨?_, ?_⟩
 ·refine qd.tt (λ t w2 ht N=>⟨_,rfl,(G N).1, ?_, ?_⟩)
  ·refine N.KP W ht E hd (λ pv u w3 jU J=>⟨_,_,_,_,rfl, ?_⟩);have Z:=J.vH;exact TS.vI trivial Z (λ w5 q5=>fin jU q5)
  ·have J:=N.vH;refine⟨(G J).1, ?_⟩;refine J.KP W ((bA _ _).at ht) E hd (λ pv u w4 I Z=>⟨_,_,_,_,rfl, ?_⟩);exact TS.vI trivial Z (λ w5 q5=>fin I q5)
 ·have N:=qd.vH;refine⟨(G N).1, ?_⟩;refine N.tt (λ t w3 ht J=>⟨_,rfl,(G J).1, ?_⟩);refine J.KP W ht E hd (λ pv u w4 I Z=>⟨_,_,_,_,rfl, ?_⟩);exact TS.vI trivial Z (λ w5 q5=>fin I q5)
end
section
variable{w0 w w':ak}{ts us:List LT}{b0:Option Nat}{B rest l:Wd}{p po:Option al}{cc co pt:Nat}{R g b ch dc d:al}{v:ay}{S:List Wd}{m:Wd->Option (List cQ)}{T:List (Wd×Wd×Nat)}
def KR(B:Nat->Prop):LT:=⟨B,λ _=>True,λ _ _ _=>trivial⟩
theorem amr:gW ag 45 94 ff 3 24 [ah aj 0,ah af 0,ah af 0]:=
 ⟨⟨by kernel_rfl,by kernel_rfl,rfl,by decide⟩,λ _=>rfl,λ x u c=>by simp[ff] at c;rcases c with rfl|rfl|rfl<;>rfl⟩
theorem ams(x:iq)(w:ak):(bw 45 1 #[(0,aV #[ah aj (x.1:Int),ah af x.2.1,ah af x.2.2])]).run ag w= .ok (aa (some ⟨w.heap.size,0,none⟩) 1 1) (w.alloc (.cells ⟨ff x⟩ 94)):=by kernel_rfl
theorem k99{x:bI}{ref:Nat}(hR:gd w0 R v B S m pt)(qi:B≠[])(hS:S.length<=100000)(hx:KQ S x)(hr:ref<4294967296)(hd:B.drop (16*ref)=fk (cA S x)++rest)(hle:(bh x.labels).length<=1073741824)(q:TS w0 ts w):
  au ag 99 #[an (some R),ah aj (ref:Int)] w λ r w'=>∃lv cv,r=aZ #[aV #[ah aj (ref:Int),lv,cv],aQ true]/\TS w0 (aO db 2 lv x.labels::aO ff 3 cv x.chunks::ts) w':=by
 obtain⟨zL,sD,hx3,zR⟩:=id hx;have jW:=zR.1;apply c99;unfold PN;refine gf (cs:=[ah aj 0,ba,ba]) (by simp) (λ w1 o1 k1 z1=> ?_);have q1:=q.ob o1 k1 rfl (by omega);generalize (⟨w.heap.size,0,none⟩:al)=t4 at q1⊢;refine gf (cs:=[ba,aC (bs []),ba]) (by simp) (λ w2 o2 k2 z2=> ?_);have o2':Ob w2 ⟨w1.heap.size,0,none⟩ [ba,aC (bs [])]:=⟨o2.1,λ i u hi=>o2.2 i u (by
  rcases i with _|_|i
  ·exact hi
  ·exact hi
  ·cases hi)⟩
 have q2:=q1.new (t:=gG ⟨w1.heap.size,0,none⟩ ba []) k2 ⟨o2',Own.nil _ _,λ e=>by cases e⟩ (λ b K=>by
  rcases K with e|e
  ·have e':b=w1.heap.size:=e;omega
  ·cases e)
 generalize (⟨w1.heap.size,0,none⟩:al)=sb at q2⊢;refine gf (cs:=[ba]) (by simp) (λ w3 o3 k3 z3=> ?_);have q3:=q2.ob o3 k3 rfl (by omega);generalize (⟨w2.heap.size,0,none⟩:al)=ch at q3⊢;refine aF (amm (x:=x) (ref:=ref) hR qi hS hx hr hd (q3.perm (d_ _ _ _))) ?_;rintro _ w4 ⟨rfl,bv,y,q4⟩;refine⟨_,rfl,_,λ w=>cE _ w,_,rfl,aT rfl ?_⟩;refine aF (aex (q4.get (t:=gG sb bv x.labels) (by simp)) sD zL.1 hle) ?_;rintro _ w5 ⟨rfl,f5⟩;have q5:=(q4.ey (t':=KR (gG sb bv x.labels).B) f5 (λ x o hS=>by
  rcases hS with h|h
  ·exact .inl h.1
  ·exact .inr h) trivial (λ b K=> .inl K)).tail
 refine⟨_,rfl, ?_⟩;refine aF (aes sD (by omega) hle) ?_;rintro lv w6 ⟨o6,k6,b6⟩;obtain⟨lp,G,rfl,_⟩:=aX.ex o6.cV;have q6:=q5.new (t:=aO db 2 (aa lp x.labels.length G) x.labels) k6 o6 (λ b K=>⟨b6 b K,o6.lt K⟩);refine⟨_,_,_,rfl, ?_⟩;refine vA (a:=ah aj (ref:Int)) (b:=aa lp x.labels.length G) (c:=ba) trivial trivial trivial (λ w7 o7 k7 z7=> ?_);have q7:=q6.ob o7 k7 rfl (by omega);generalize (⟨w6.heap.size,0,none⟩:al)=out at q7⊢;have pw:cP dN 4 w7 y x.chunks:=q7.get (t:=aO dN 4 y x.chunks) (by simp);obtain⟨Q,N,rfl,_⟩:=aX.ex pw.cV;refine⟨_,_,_,q7.ei (a:=ch) (v:=aa Q x.chunks.length N) (by simp), ?_⟩;have q8:=q7.new (t:=aO ff 3 ba ([]:List iq)) (Fr.refl _ _) (Own.nil _ _) (λ b K=>by cases K);refine ab0 (λ a b P n C len i w'=>t4=a/\out=b/\Q=P/\n=x.chunks.length/\N=C/\len=(x.chunks.length:Int)/\∃(j:Nat) (z:ay),i=(j:Int)/\j<=x.chunks.length/\TS w0 (aO ff 3 z (x.chunks.take j)::aJ out [ah aj (ref:Int),aa lp x.labels.length G,z]::aO db 2 (aa lp x.labels.length G) x.labels::aJ ch [aa Q x.chunks.length N]::aO dN 4 (aa Q x.chunks.length N) x.chunks::aJ t4 [ah aj 0,ba,ba]::ts) w') (λ _ _ _ _ _ k i _=>(k-i).toNat) ⟨rfl,rfl,rfl,rfl,rfl,rfl,0,ba,rfl,dO _,q8⟩ ?_;rintro _ _ _ _ _ _ _ w9 ⟨rfl,rfl,rfl,rfl,rfl,rfl,j,z,rfl,hj,Z⟩;unfold G4;refine bn (λ hc=> ?_) (λ hc=> ?_)
 ·have gU:j<x.chunks.length:=by simp at hc;omega
  have Dc:cP dN 4 w9 (aa Q x.chunks.length N) x.chunks:=Z.get (t:=aO dN 4 (aa Q x.chunks.length N) x.chunks) (by simp);refine Sl.ix (enc:=dN) (z:=4) (l:=x.chunks) (λ _=>rfl) (by omega) Dc.cV (by omega) (by omega) (λ a _ ha=>⟨_,ha 0 _ rfl,_,ha 1 _ rfl,_,ha 2 _ rfl,_,ha 3 _ rfl, ?_⟩);have e:x.chunks[((j:Nat):Int).toNat]'(by simp;omega)=x.chunks[j]:=by congr 1
  rw[e];generalize hcj:x.chunks[j]=cj;refine Ds (a:=ah aj (cj.1:Int)) (b:=aA) (c:=ah af cj.2.1) (d:=ah af cj.2.2) trivial trivial trivial trivial (λ jg W dj z10=> ?_);have H:=Z.aH dj;have r0:=W.at 0 rfl;rw[add_zero] at r0;have U:cP ff 3 jg z (x.chunks.take j):=H.get (t:=aO ff 3 z (x.chunks.take j)) (by simp);obtain⟨J,I,rfl,_⟩:=aX.ex U.cV;refine⟨_,_,_,H.at (a:=out) (cs:=[ah aj (ref:Int),aa lp x.labels.length G,aa J (x.chunks.take j).length I]) (by simp) 2 rfl,_,r0,_,W.at 2 rfl,_,W.at 3 rfl, ?_⟩;have T7:(x.chunks.take j).length=j:=by rw[fS];omega
  refine H.kB amr (x:=cj) (ams cj jg) (by omega) (by omega) (λ VS o_ gA X _=> ?_);obtain⟨g12,E⟩:=X.fq (pre:=[aO ff 3 _ _]) (a:=out) 2 (by simp) (aa VS ((x.chunks.take j).length+1) o_);refine⟨⟨trivial,g12⟩, ?_⟩;rw[show aq af ((j:Int)+1)=((j+1:Nat):Int) by rw[bk (by omega) (by omega)];omega];refine⟨⟨rfl,rfl,rfl,rfl,rfl,rfl,j+1,aa VS ((x.chunks.take j).length+1) o_,rfl,by omega, ?_⟩,by omega⟩;rw[<-hcj,<-jm gU] at E;exact E
 ·have he:j=x.chunks.length:=by simp at hc;omega
  subst he;rw[fY] at Z;have U:cP ff 3 w9 z x.chunks:=Z.get (t:=aO ff 3 z x.chunks) (by simp);obtain⟨J,I,rfl,_⟩:=aX.ex U.cV;have ao:∀{w':ak} {us},TS w0 us w'->aJ out [ah aj (ref:Int),aa lp x.labels.length G,aa J x.chunks.length I]∈us->at_ w' (out.add 0) (ah aj (ref:Int))/\at_ w' (out.add 1) (aa lp x.labels.length G)/\at_ w' (out.add 2) (aa J x.chunks.length I):=λ q hm=>⟨q.at hm 0 rfl,q.at hm 1 rfl,q.at hm 2 rfl⟩
  obtain⟨a0,a1,a2⟩:=ao Z (by simp);refine⟨_,a0,_,_,_,a1,_,_,_,a2, ?_⟩;obtain⟨g1,H⟩:=Z.fq (pre:=[aO ff 3 _ _,aJ out _,aO db 2 _ _,aJ ch _,aO dN 4 _ _]) (a:=t4) 0 (by simp) (ah aj (ref:Int));refine⟨⟨trivial,g1⟩, ?_⟩;obtain⟨g2,X⟩:=H.fq (pre:=[aO ff 3 _ _,aJ out _,aO db 2 _ _,aJ ch _,aO dN 4 _ _]) (a:=t4) 1 (by simp) (aa lp x.labels.length G);refine⟨⟨trivial,g2⟩, ?_⟩;obtain⟨g3,E⟩:=X.fq (pre:=[aO ff 3 _ _,aJ out _,aO db 2 _ _,aJ ch _,aO dN 4 _ _]) (a:=t4) 2 (by simp) (aa J x.chunks.length I);refine⟨⟨trivial,g3⟩, ?_⟩;generalize nI _ _ _=gn at E⊢;have E:TS w0 (aO ff 3 (aa J x.chunks.length I) x.chunks::aJ out [ah aj (ref:Int),aa lp x.labels.length G,aa J x.chunks.length I]::aO db 2 (aa lp x.labels.length G) x.labels::aJ ch [aa Q x.chunks.length N]::aO dN 4 (aa Q x.chunks.length N) x.chunks::aJ t4 [ah aj (ref:Int),aa lp x.labels.length G,aa J x.chunks.length I]::ts) gn:=E;have gB:∀i {v},[ah aj (ref:Int),aa lp x.labels.length G,aa J x.chunks.length I][i]? =some v->at_ gn (t4.add i) v:=λ i v hv=>E.at (a:=t4) (cs:=[ah aj (ref:Int),aa lp x.labels.length G,aa J x.chunks.length I]) (by simp) i hv
  refine⟨_,gB 0 rfl,_,_,_,gB 1 rfl,_,_,_,gB 2 rfl,_,_,rfl, ?_⟩;have z_:=E.sub (us:=aO ff 3 (aa J x.chunks.length I) x.chunks::aO db 2 (aa lp x.labels.length G) x.labels::ts) (.cons_cons _ (.cons _ (.cons_cons _ (.cons _ (.cons _ (.cons _ (lE _)))))));exact z_.perm (d_ _ _ _)
end
theorem amw:gW ag 30 22 dd 1 24 [aa none 0 0]:=
 ⟨⟨by kernel_rfl,by kernel_rfl,rfl,by decide⟩,λ _=>rfl,λ x u c=>by simp[dd] at c;subst c;rfl⟩
theorem amx(x:dg)(w:ak):(bw 30 1 #[(0,b9 x)]).run ag w= .ok (aa (some ⟨w.heap.size,0,none⟩) 1 1) (w.alloc (.cells ⟨dd x⟩ 22)):=by kernel_rfl
def ie{α:Type}(enc:α->List ay)(z:Nat)(v:ay)(l:List α):LT:=
 ⟨λ b=>aN v=some b,λ w=>Sl enc z w v l,λ h r u=>aX.fr h r (λ a l c e o _ _ q=>u a.block o q (by rw[e];rfl))⟩
section
variable{w0 w w':ak}{ts us:List LT}{b0:Option Nat}{B rest l:Wd}{p po:Option al}{cc co pt:Nat}{R g b ch dc d out:al}{v:ay}{S:List Wd}{m:Wd->Option (List cQ)}{T:List (Wd×Wd×Nat)}
theorem TS.Ab{x:dg}{K:Option al->Nat->Nat->ak->Prop}(q:TS w0 us w)(y:∀p w',TS w0 (ie dd 1 (aa p 1 1) [x]::us) w'->K p 1 1 w'):
  aP ag (bw 30 1 #[(0,b9 x)]) w λ r E=>az (ax r) λ p n c=>K p n c E:=
 ⟨_,_,amx x w,_,_,_,rfl,y _ _ (q.new (t:=ie dd 1 (aa (some ⟨w.heap.size,0,none⟩) 1 1) [x]) (bA _ _) (aX.new w 1 (dd x) 22 1 1 rfl (bB _)) (λ b u=>by
  have h:some w.heap.size=some b:=u;cases h;simp))⟩
theorem TS.vJ{x:dg}{l:List dg}{v:ay}{P:Option al}{K:Option al->Nat->Nat->ak->Prop}(q:TS w0 (aO dd 1 v l::us) w)(X:ie dd 1 (aa P 1 1) [x]∈us)(hl:l.length<=1000)
  (W:∀p c w',TS w0 (aO dd 1 (aa p (l.length+1) c) (l++[x])::us) w'->K p (l.length+1) c w'):
  aP ag (cM #[30,30] 30 #[v,aa P 1 1]) w λ r w2=>az (ax r) λ p n c=>K p n c w2:=by
 have Z:cP dd 1 w v l:=q.get (t:=aO dd 1 v l) (by simp);have hx:Sl dd 1 w (aa P 1 1) [x]:=q.get (t:=ie dd 1 (aa P 1 1) [x]) (jI _ X);refine oi (enc:=dd) (l:=l) (m:=[x]) amw Z hx (by simp;omega) (by simp;omega) (λ I y w3 u U G=> ?_);refine W _ _ _ (q.ey (t':=aO dd 1 (aa I (l.length+1) y) (l++[x])) (U.mono (λ b o _ E=>E.1)) (λ b o E=>E) (by
  have e:(l++[x]).length=l.length+[x].length:=by simp
  exact u) (λ b J=> ?_))
 rcases G with Q|⟨g,N,H⟩
 ·have h:aN (aa I (l.length+[x].length) y)=some b:=J;exact .inl (show aN v=some b by rw[<-Q];exact h)
 ·have h:aN (aa I (l.length+[x].length) y)=some b:=J;rw[N] at h;cases h;exact .inr ⟨H,u.lt N⟩
theorem amy{α:Type}(a b c d:α):[a,b,c,d].Perm [d,b,a,c]:=by
 classical
 rw[oV];intro z;simp only[oW];omega
def de(c h:Int)(v2 v3 v4 v5 v6 v7:ay):List ay:=[ah af c,ah af h,v2,v3,v4,v5,v6,v7]
theorem amz{K:ay->ak->Prop}{N8:Option al->al->al->Option al->Nat->Nat->Int->Int->ak->Prop}{U W:Int}{v2 v3 v6 v7:ay}{N I:Option al}{J H c4 c5:Nat}{G l5:List dg}{x y:dg}{x':al}{P:Option al}{n C:Nat}{a i:Int}(mW:G.length<=1000)(sF:l5.length<=1000)
  (q:TS w0 (aO dd 1 (aa N J c4) G::aO dd 1 (aa I H c5) l5::aJ out (de U W v2 v3 (aa N J c4) (aa I H c5) v6 v7)::ts) w)
  (hN:∀w' r c u h,TS w0 (aO dd 1 (aa r (G.length+1) c) (G++[x])::aO dd 1 (aa u (l5.length+1) h) (l5++[y])::aJ out (de U W v2 v3 (aa r (G.length+1) c) (aa u (l5.length+1) h) v6 v7)::ts) w'->N8 p out x' P n C a (aq af (i+1)) w'):
  BL K N8 p out x' x.1 x.2.1 x.2.2 y.1 y.2.1 y.2.2 P n C a i w:=by
 unfold BL;have X:=q.drew;have ao:∀{w:ak} {us},TS w0 us w->aJ out (de U W v2 v3 (aa N J c4) (aa I H c5) v6 v7)∈us->at_ w (out.add 4) (aa N J c4)/\at_ w (out.add 5) (aa I H c5):=λ q hm=>⟨q.at hm 4 rfl,q.at hm 5 rfl⟩
 obtain⟨g4,g5⟩:=ao X (by simp);refine⟨_,_,_,g4,_,_,_,g5, ?_⟩;have fin:∀{w:ak} {r u:Option al} {c h:Nat} {ra rb:LT},TS w0 (aO dd 1 (aa u (l5.length+1) h) (l5++[y])::aO dd 1 (aa r (G.length+1) c) (G++[x])::ra::rb::aJ out (de U W v2 v3 (aa N J c4) (aa I H c5) v6 v7)::ts) w->
   wr w (aw out 4) (aa r (G.length+1) c) λ ze=>wr ze (aw out 5) (aa u (l5.length+1) h) λ qU=>N8 p out x' P n C a (aq af (i+1)) qU:=by
  intro w r u c h ra rb q;obtain⟨h1,q1⟩:=q.fq (pre:=[aO dd 1 _ _,aO dd 1 _ _,ra,rb]) (a:=out) 4 (by simp[de]) (aa r (G.length+1) c);refine⟨⟨trivial,h1⟩, ?_⟩;obtain⟨h2,q2⟩:=q1.fq (pre:=[aO dd 1 _ _,aO dd 1 _ _,ra,rb]) (a:=out) 5 (by simp[de]) (aa u (l5.length+1) h);refine⟨⟨trivial,h2⟩,hN _ r c u h ?_⟩;have q3:=q2.sub (us:=aO dd 1 (aa u (l5.length+1) h) (l5++[y])::aO dd 1 (aa r (G.length+1) c) (G++[x])::aJ out (de U W v2 v3 (aa r (G.length+1) c) (aa u (l5.length+1) h) v6 v7)::ts) (.cons_cons _ (.cons_cons _ (.cons _ (.cons _ (lE _)))));exact q3.perm (d_ _ _ _)
 have E:∀{w:ak} {us},TS w0 us w->aJ out (de U W v2 v3 (aa N J c4) (aa I H c5) v6 v7)∈us->at_ w (out.add 5) (aa I H c5):=λ q hm=>(ao q hm).2
 have h4:∀{w:ak} {ra rb:LT},TS w0 (ra::rb::aO dd 1 (aa N J c4) G::aO dd 1 (aa I H c5) l5::aJ out (de U W v2 v3 (aa N J c4) (aa I H c5) v6 v7)::ts) w->
   TS w0 (aO dd 1 (aa N J c4) G::aO dd 1 (aa I H c5) l5::ra::rb::aJ out (de U W v2 v3 (aa N J c4) (aa I H c5) v6 v7)::ts) w:=λ q=>q.perm (vN (l₁:=[_,_,_,_]) (l₂:=[_,_,_,_]) (_::ts) (List.perm_append_comm (l₁:=[_,_]) (l₂:=[_,_])))
 have s5:∀{w:ak} {a b:LT} {us},TS w0 (a::b::us) w->TS w0 (b::a::us) w:=λ q=>q.perm (d_ _ _ _)
 refine⟨?_, ?_⟩
 ·refine X.Ab (x:=x) (λ pa wa Z=>⟨E Z (by simp),(ao Z (by simp)).1, ?_, ?_⟩)
  ·have qa':=Z.perm (us:=aO dd 1 (aa N J c4) G::ie dd 1 (aa pa 1 1) [x]::aO dd 1 (aa I H c5) l5::aJ out (de U W v2 v3 (aa N J c4) (aa I H c5) v6 v7)::ts) (d_ _ _ _);refine qa'.vJ (x:=x) (P:=pa) (by simp) mW (λ pb cb wb qb=>⟨E qb (by simp), ?_⟩);refine qb.Ab (x:=y) (λ pc wc Q=>⟨E Q (by simp), ?_⟩);have qc':TS w0 (aO dd 1 (aa I H c5) l5::aO dd 1 (aa pb (G.length+1) cb) (G++[x])::ie dd 1 (aa pc 1 1) [y]::ie dd 1 (aa pa 1 1) [x]::aJ out (de U W v2 v3 (aa N J c4) (aa I H c5) v6 v7)::ts) wc:=Q.perm (vN (_::ts) (amy _ _ _ _));exact qc'.vJ (x:=y) (P:=pc) (by simp) sF (λ pd cd wd X=>fin X)
  ·refine Z.Ab (x:=y) (λ pc wc Q=>⟨E Q (by simp),(ao Q (by simp)).1, ?_⟩);refine(h4 Q).vJ (x:=x) (P:=pa) (by simp) mW (λ pb cb wb qb=>⟨E qb (by simp), ?_⟩);exact(s5 qb).vJ (x:=y) (P:=pc) (by simp) sF (λ pd cd wd X=>fin X)
 ·refine X.Ab (x:=y) (λ pa wa Z=>⟨E Z (by simp),(ao Z (by simp)).1, ?_⟩);refine Z.Ab (x:=x) (λ pc wc Q=>⟨E Q (by simp),(ao Q (by simp)).1, ?_⟩);refine(h4 Q).vJ (x:=x) (P:=pc) (by simp) mW (λ pb cb wb qb=>⟨E qb (by simp), ?_⟩);exact(s5 qb).vJ (x:=y) (P:=pa) (by simp) sF (λ pd cd wd X=>fin X)
end
def jl(y:Nat×dg×dg):List ay:=[ah aj (y.1:Int),b9 y.2.1,b9 y.2.2]
theorem amC:gW ag 23 47 jl 3 56 [ah aj 0,aa none 0 0,aa none 0 0]:=
 ⟨⟨by kernel_rfl,by kernel_rfl,rfl,by decide⟩,λ _=>rfl,λ x u c=>by simp[jl] at c;rcases c with rfl|rfl|rfl<;>rfl⟩
theorem amD(y:Nat×dg×dg)(w:ak):(bw 23 1 #[(0,aV #[ah aj (y.1:Int),b9 y.2.1,b9 y.2.2])]).run ag w= .ok (aa (some ⟨w.heap.size,0,none⟩) 1 1) (w.alloc (.cells ⟨jl y⟩ 47)):=by kernel_rfl
abbrev vK:=dg×dg×bI
def mE(ss:List vK):List LT:=ss.flatMap λ y=>[aO db 2 (b9 y.1) y.2.2.labels,aO ff 3 (b9 y.2.1) y.2.2.chunks]
def fx(ss:List vK):List (Nat×dg×dg):=ss.map λ y=>(y.2.2.ref,y.1,y.2.1)
theorem amE{α:Type}(a b c d e:α):[a,b,c,d,e].Perm [c,d,e,b,a]:=by
 classical
 rw[oV];intro z;simp only[oW];omega
theorem amF{α:Type}(a b c d e:α)(ss ts:List α):(a::b::c::d::e::(ss++ts)).Perm (a::b::c::((ss++[e,d])++ts)):=by
 classical
 rw[oV];intro z;simp only[oW,List.count_append,List.count_nil];omega
section
variable{w0 w w':ak}{ts us:List LT}{b0:Option Nat}{B rest l:Wd}{p po:Option al}{cc co pt:Nat}{R g b ch dc d out:al}{v:ay}{S:List Wd}{m:Wd->Option (List cQ)}{T:List (Wd×Wd×Nat)}{Lr:List bI}{refs:List Nat}
theorem amG(x:Wd)(w:ak):cP bx 1 (w.alloc (.cells ⟨bx x⟩ 9)) (aa (some ⟨w.heap.size,0,none⟩) 1 1) [x]:=
 ⟨rfl, .inr ⟨w.heap.size,1,⟨bx x⟩,9,rfl,by unfold World.alloc;simp,bB _,by decide,by simp[bx],rfl⟩⟩
def KS(S:List Wd)(B:Wd)(refs:List Nat)(Lr:List bI):Prop:=
 Lr.length=refs.length/\∀j (c:j<Lr.length) (h:j<refs.length),Lr[j].ref=refs[j]/\refs[j]<4294967296/\KQ S Lr[j]/\(bh Lr[j].labels).length<=1073741824/\∃r,B.drop (16*refs[j])=fk (cA S Lr[j])++r
theorem amH{K:ay->ak->Prop}{H I:Int}{v2 v3 v4 v5:ay}{u:Option al}{c6:Nat}(hv:(∃p n c,v2=aa p n c)/\(∃p n c,v3=aa p n c)/\(∃p n c,v4=aa p n c)/\∃p n c,v5=aa p n c)(hR:gd w0 R v B S m pt)(qi:B≠[])(hS:S.length<=100000)(hA:KS S B refs Lr)(hl:refs.length<=1000)
  (q:TS w0 (aO jl 3 ba []::aJ out (de H I v2 v3 v4 v5 (aa u refs.length c6) ba)::aO cO 1 (aa u refs.length c6) refs::ts) w)
  (hK:∀w' v7 (ss:List vK),ss.map (·.2.2)=Lr->TS w0 (aO jl 3 v7 (fx ss)::aJ out (de H I v2 v3 v4 v5 (aa u refs.length c6) v7)::aO cO 1 (aa u refs.length c6) refs::(mE ss++ts)) w'->K (aZ #[aV ⟨de H I v2 v3 v4 v5 (aa u refs.length c6) v7⟩,aQ true]) w'):
  GU K (some R) out u refs.length c6 (refs.length:Int) 0 w:=by
 obtain⟨J9,hA2⟩:=hA;refine abA (λ r o P n C len i w'=>some R=r/\out=o/\u=P/\n=refs.length/\c6=C/\len=(refs.length:Int)/\∃(j:Nat) (v7:ay) (ss:List vK),i=(j:Int)/\j<=refs.length/\ss.map (·.2.2)=Lr.take j/\TS w0 (aO jl 3 v7 (fx ss)::aJ out (de H I v2 v3 v4 v5 (aa u refs.length c6) v7)::aO cO 1 (aa u refs.length c6) refs::(mE ss++ts)) w') (λ _ _ _ _ _ len i _=>(len-i).toNat) ⟨rfl,rfl,rfl,rfl,rfl,rfl,0,ba,[],rfl,dO _,rfl,q⟩ ?_;rintro _ _ _ _ _ _ _ w1 ⟨rfl,rfl,rfl,rfl,rfl,rfl,j,v7,ss,rfl,hj,U,G⟩;unfold GS;have iP:ss.length=j:=by
  have:=congrArg fZ U;rw[fu,fS] at this;omega
 have pw:cP jl 3 w1 v7 (fx ss):=G.get (t:=aO jl 3 v7 (fx ss)) (by simp);obtain⟨J,c7,rfl,_⟩:=aX.ex pw.cV;refine bn (λ hc=> ?_) (λ hc=> ?_)
 ·have gU:j<refs.length:=by simp at hc;omega
  have X:j<Lr.length:=by omega
  obtain⟨e1,e2,e3,e4,rest,e5⟩:=hA2 j X gU;have iJ:cP cO 1 w1 (aa u refs.length c6) refs:=G.get (t:=aO cO 1 (aa u refs.length c6) refs) (by simp);refine Sl.ix (enc:=cO) (z:=1) (l:=refs) (λ _=>rfl) (by omega) iJ.cV (by omega) (by omega) (λ a _ ha=>⟨_,by
   have:=ha 0 _ rfl;rwa[add_zero] at this, ?_⟩)
  have e:refs[((j:Nat):Int).toNat]'(by simp;omega)=refs[j]:=by congr 1
  rw[e];refine aF (k99 (x:=Lr[j]) hR qi hS e3 e2 e5 e4 G) ?_;rintro _ w2 ⟨lv,cv,rfl,q2⟩;have pR:cP db 2 w2 lv Lr[j].labels:=q2.get (t:=aO db 2 lv Lr[j].labels) (by simp);have I_:cP ff 3 w2 cv Lr[j].chunks:=q2.get (t:=aO ff 3 cv Lr[j].chunks) (by simp);obtain⟨lp,W,rfl,_⟩:=aX.ex pR.cV;obtain⟨Q,y,rfl,_⟩:=aX.ex I_.cV;refine⟨_,_,rfl,_,_,_,_,_,_,_,rfl,_,rfl, ?_⟩;refine vA (a:=ah aj (refs[j]:Int)) (b:=aa lp Lr[j].labels.length W) (c:=aa Q Lr[j].chunks.length y) trivial trivial trivial (λ w3 o3 k3 z3=> ?_);have q3:=q2.aH k3;refine aT rfl ⟨_,_,_,q3.at (a:=out) (cs:=de H I v2 v3 v4 v5 (aa u refs.length c6) (aa J (fx ss).length c7)) (by simp) 7 rfl,_,o3.at 0 rfl,_,_,_,o3.at 1 rfl,_,_,_,o3.at 2 rfl, ?_⟩;have q4:=q3.perm (us:=aO jl 3 (aa J (fx ss).length c7) (fx ss)::aJ out (de H I v2 v3 v4 v5 (aa u refs.length c6) (aa J (fx ss).length c7))::aO cO 1 (aa u refs.length c6) refs::aO ff 3 (aa Q Lr[j].chunks.length y) Lr[j].chunks::aO db 2 (aa lp Lr[j].labels.length W) Lr[j].labels::(mE ss++ts)) (by
   refine vN (l₁:=[_,_,_,_,_]) (l₂:=[_,_,_,_,_]) (mE ss++ts) ?_;exact amE _ _ _ _ _)
  refine q4.kB amC (x:=(refs[j],(lp,Lr[j].labels.length,W),(Q,Lr[j].chunks.length,y))) (amD (refs[j],(lp,Lr[j].labels.length,W),(Q,Lr[j].chunks.length,y)) w3) (by unfold fx;rw[fu];omega) (by unfold fx;rw[fu];omega) (λ p8 c8 w8 q8 _=> ?_);obtain⟨g9,N⟩:=q8.fq (pre:=[aO jl 3 _ _]) (a:=out) 7 (by simp[de]) (aa p8 ((fx ss).length+1) c8);refine⟨⟨trivial,g9⟩, ?_⟩;rw[show aq af ((j:Int)+1)=((j+1:Nat):Int) by rw[bk (by omega) (by omega)];omega];refine⟨⟨rfl,rfl,rfl,rfl,rfl,rfl,j+1,aa p8 ((fx ss).length+1) c8,ss++[((lp,Lr[j].labels.length,W),(Q,Lr[j].chunks.length,y),Lr[j])],rfl,by omega, ?_, ?_⟩,by omega⟩
  ·rw[iE,U,jm X];rfl
  ·have er:fx (ss++[((lp,Lr[j].labels.length,W),(Q,Lr[j].chunks.length,y),Lr[j])])=fx ss++[(refs[j],(lp,Lr[j].labels.length,W),(Q,Lr[j].chunks.length,y))]:=by
    unfold fx;rw[iE,<-e1];rfl
   have es:mE (ss++[((lp,Lr[j].labels.length,W),(Q,Lr[j].chunks.length,y),Lr[j])])=mE ss++[aO db 2 (aa lp Lr[j].labels.length W) Lr[j].labels,aO ff 3 (aa Q Lr[j].chunks.length y) Lr[j].chunks]:=by
    unfold mE;rw[jK];rfl
   rw[er,es];exact N.perm (amF _ _ _ _ _ _ _)
 ·have he:j=refs.length:=by simp at hc;omega
  subst he;rw[<-J9,fY] at U;obtain⟨⟨Z,b2,d2,rfl⟩,⟨a3,b3,d3,rfl⟩,⟨a4,b4,d4,rfl⟩,⟨a5,b5,d5,rfl⟩⟩:=hv;have h:∀{w':ak} {us},TS w0 us w'->aJ out (de H I (aa Z b2 d2) (aa a3 b3 d3) (aa a4 b4 d4) (aa a5 b5 d5) (aa u refs.length c6) (aa J (fx ss).length c7))∈us->∀i {v},(de H I (aa Z b2 d2) (aa a3 b3 d3) (aa a4 b4 d4) (aa a5 b5 d5) (aa u refs.length c6) (aa J (fx ss).length c7))[i]? =some v->at_ w' (out.add i) v:=λ q hm i v hv=>q.at hm i hv
  have E:∀{w':ak} {us} (i:Nat) {v},(de H I (aa Z b2 d2) (aa a3 b3 d3) (aa a4 b4 d4) (aa a5 b5 d5) (aa u refs.length c6) (aa J (fx ss).length c7)).set i v=de H I (aa Z b2 d2) (aa a3 b3 d3) (aa a4 b4 d4) (aa a5 b5 d5) (aa u refs.length c6) (aa J (fx ss).length c7)->i<8->gj v->TS w0 (aO jl 3 (aa J (fx ss).length c7) (fx ss)::aJ out (de H I (aa Z b2 d2) (aa a3 b3 d3) (aa a4 b4 d4) (aa a5 b5 d5) (aa u refs.length c6) (aa J (fx ss).length c7))::us) w'->
    ∀{K:ak->Prop},(∀w'',TS w0 (aO jl 3 (aa J (fx ss).length c7) (fx ss)::aJ out (de H I (aa Z b2 d2) (aa a3 b3 d3) (aa a4 b4 d4) (aa a5 b5 d5) (aa u refs.length c6) (aa J (fx ss).length c7))::us) w''->K w'')->wr w' (aw out i) v K:=by
   intro w' us i v he hi h1 q K hk;obtain⟨g,q'⟩:=q.fq (pre:=[aO jl 3 _ _]) (a:=out) i (by simp[de];omega) v;refine⟨⟨h1,g⟩,hk _ ?_⟩;rw[he] at q';exact q'
  refine⟨_,h G (by simp) 0 rfl,_,h G (by simp) 1 rfl,_,_,_,h G (by simp) 2 rfl,_,_,_,h G (by simp) 3 rfl,_,_,_,h G (by simp) 4 rfl,_,_,_,h G (by simp) 5 rfl,_,_,_,h G (by simp) 6 rfl,_,_,_,h G (by simp) 7 rfl, ?_⟩;refine E 0 rfl (by omega) trivial G (λ w2 q2=> ?_);refine E 1 rfl (by omega) trivial q2 (λ w3 q3=> ?_);refine E 2 rfl (by omega) trivial q3 (λ w4 q4=> ?_);refine E 3 rfl (by omega) trivial q4 (λ w5 q5=> ?_);refine E 4 rfl (by omega) trivial q5 (λ w6 q6=> ?_);refine E 5 rfl (by omega) trivial q6 (λ w7 q7=> ?_);refine E 6 rfl (by omega) trivial q7 (λ w8 q8=> ?_);refine E 7 rfl (by omega) trivial q8 (λ w9 N=> ?_);refine⟨_,h N (by simp) 0 rfl,_,h N (by simp) 1 rfl,_,_,_,h N (by simp) 2 rfl,_,_,_,h N (by simp) 3 rfl,_,_,_,h N (by simp) 4 rfl,_,_,_,h N (by simp) 5 rfl,_,_,_,h N (by simp) 6 rfl,_,_,_,h N (by simp) 7 rfl, ?_⟩;exact hK w9 _ ss U N
end
abbrev vM:=dg×dg×List Wd
def lA(ws:List vM):List LT:=ws.flatMap λ y=>[aO bx 1 (b9 y.1) y.2.2,aO bx 1 (b9 y.2.1) y.2.2]
theorem amJ{α:Type}(a b c d e f:α)(vs ts:List α):(a::b::c::d::e::f::(vs++ts)).Perm (a::b::c::f::((vs++[e,d])++ts)):=by
 classical
 rw[oV];intro z;simp only[oW,List.count_append,List.count_nil];omega
theorem amK{α:Type}(a b c:α)(ss vs:List α):(ss++(a::b::c::vs)).Perm (a::b::c::(ss++vs)):=by
 classical
 rw[oV];intro z;simp only[oW,List.count_append];omega
theorem amL{α:Type}(a b c d e f:α):[a,b,c,d,e,f].Perm [c,d,e,a,b,f]:=by
 classical
 rw[oV];intro z;simp only[oW];omega
section
variable{w0 w w':ak}{ts us:List LT}{b0:Option Nat}{B rest l:Wd}{p po:Option al}{cc co pt:Nat}{R g b ch dc d out:al}{v:ay}{S:List Wd}{m:Wd->Option (List cQ)}{T:List (Wd×Wd×Nat)}{Lr:List bI}{refs:List Nat}
structure Ac(w0:ak)(R:al)(v:ay)(B:Wd)(S:List Wd)(m:Wd->Option (List cQ))(pt:Nat)(T:List (Wd×Wd×Nat))(refs:List Nat)(Lr:List bI)(N:List Wd)(c:Wd->List Wd):Prop where
 rd:gd w0 R v B S m pt
 pt:qh B T pt
 tb:nE T B
 Bl:B.length<=67108864
 sl:S.length<=1000
 key:∀k,(m k).isSome->k=[]\/k∈S
 nm:WS N/\N.length<=1000/\∀n,n∈N↔n≠[]/\(m n).isSome
 vl:∀n∈N,∃i0 k,zZ T m n i0 k (c n)
 m0:m []=some [([],iw T 0)]
 T0:∃off rest,(∃h:0<T.length,T[0]=([],[],off))/\B.drop off=dh (fM refs)++rest/\off<9223372036854775808
 rl:refs.length<=1000
 fT:∀x∈refs,x<4294967296
 sr:KS S B refs Lr
theorem Ac.ne{N:List Wd}{c:Wd->List Wd}(h:Ac w0 R v B S m pt T refs Lr N c):B≠[]:=λ e=>by
 have:=h.pt.1;rw[e] at this;simp at this
theorem amM{K:ay->ak->Prop}{N:List Wd}{u:Wd->List Wd}{x0 x1:Int}{v2:ay}{G:Option al}{E:Nat}{x':al}(hv:∃p n c,v2=aa p n c)(h:Ac w0 R v B S m pt T refs Lr N u)
  (q:TS w0 (aO dd 1 ba []::aO dd 1 ba []::aJ out (de x0 x1 v2 (aa G N.length E) ba ba ba ba)::aO bx 1 (aa G N.length E) N::ts) w)
  (hK:∀w' H c4 I c5 v6 v7 (ws:List vM) (ss:List vK),ws.map (·.2.2)=N.map u->ss.map (·.2.2)=Lr->TS w0 (aO jl 3 v7 (fx ss)::aO cO 1 v6 refs::aO dd 1 (aa H ws.length c4) (ws.map (·.1))::aO dd 1 (aa I ws.length c5) (ws.map (·.2.1))::aO bx 1 (aa G N.length E) N::(mE ss++(lA ws++ts))) w'->K (aZ #[aV ⟨de x0 x1 v2 (aa G N.length E) (aa H ws.length c4) (aa I ws.length c5) v6 v7⟩,aQ true]) w'):
  GW K (some R) out x' G N.length E (N.length:Int) 0 w:=by
 obtain⟨hR,U,hT,Q,hS,hmk,⟨hN1,hN2,VT⟩,hV,Ka,⟨off,rest,zG,hd,JO⟩,W,yt,hA⟩:=id h;refine abB (λ r o x P n C len i w'=>some R=r/\out=o/\x'=x/\G=P/\n=N.length/\E=C/\len=(N.length:Int)/\∃(j:Nat) (ws:List vM) (H I:Option al) (c4 c5:Nat),i=(j:Int)/\j<=N.length/\ws.map (·.2.2)=(N.take j).map u/\TS w0 (aO dd 1 (aa H ws.length c4) (ws.map (·.1))::aO dd 1 (aa I ws.length c5) (ws.map (·.2.1))::aJ out (de x0 x1 v2 (aa G N.length E) (aa H ws.length c4) (aa I ws.length c5) ba ba)::aO bx 1 (aa G N.length E) N::(lA ws++ts)) w')
  (λ _ _ _ _ _ _ len i _=>(len-i).toNat) ⟨rfl,rfl,rfl,rfl,rfl,rfl,rfl,0,[],none,none,0,0,rfl,dO _,rfl,q⟩ ?_
 rintro _ _ _ _ _ _ _ _ w1⟨rfl,rfl,rfl,rfl,rfl,rfl,rfl,j,ws,H,I,c4,c5,rfl,hj,J,q1⟩;unfold GV;have hwl:ws.length=j:=by
  have:=congrArg fZ J;rw[fu,fu,fS] at this;omega
 refine bn (λ hc=> ?_) (λ hc=> ?_)
 ·have gU:j<N.length:=by simp at hc;omega
  have lL:cP bx 1 w1 (aa G N.length E) N:=q1.get (t:=aO bx 1 (aa G N.length E) N) (by simp);refine Sl.ix (enc:=bx) (z:=1) (l:=N) (λ _=>rfl) (by omega) lL.cV (by omega) (by omega) (λ a _ ha=>⟨_,by
   have:=ha 0 _ rfl;rwa[add_zero] at this, ?_⟩)
  have e:N[((j:Nat):Int).toNat]'(by simp;omega)=N[j]:=by congr 1
  rw[e];obtain⟨i0,k,hB⟩:=hV _ (iy gU);refine aF (Vz hR U hT Q hB q1) ?_;rintro _ Z ⟨xa,rfl,q2⟩;have Ij:cP bx 1 Z xa (u N[j]):=q2.get (t:=aO bx 1 xa (u N[j])) (by simp);obtain⟨pa,ca,rfl,_⟩:=aX.ex Ij.cV;refine⟨_,_,rfl,_,_,_,rfl,_,rfl, ?_⟩;refine aF (k96 hR U hT Q hB q2) ?_;rintro _ w3 ⟨xb,rfl,q3⟩;have DB:cP bx 1 w3 xb (u N[j]):=q3.get (t:=aO bx 1 xb (u N[j])) (by simp);obtain⟨pb,cb,rfl,_⟩:=aX.ex DB.cV;refine⟨_,_,rfl,_,_,_,rfl,_,rfl,_,λ w=>cE _ w,_,rfl,aT rfl ⟨_,λ w=>cE _ w,_,rfl,aT rfl ?_⟩⟩;have q4:=q3.perm (us:=aO dd 1 (aa H ws.length c4) (ws.map (·.1))::aO dd 1 (aa I ws.length c5) (ws.map (·.2.1))::aJ out (de x0 x1 v2 (aa G N.length E) (aa H ws.length c4) (aa I ws.length c5) ba ba)::aO bx 1 (aa pb (u N[j]).length cb) (u N[j])::aO bx 1 (aa pa (u N[j]).length ca) (u N[j])::aO bx 1 (aa G N.length E) N::(lA ws++ts))
   (vN (l₁:=[_,_,_,_,_,_]) (l₂:=[_,_,_,_,_,_]) (lA ws++ts) (amL _ _ _ _ _ _))
  refine amz (x:=(pa,(u N[j]).length,ca)) (y:=(pb,(u N[j]).length,cb)) (by rw[fu];omega) (by rw[fu];omega) q4 (λ w5 p4' c4' p5' Ku q5=> ?_);rw[show aq af ((j:Int)+1)=((j+1:Nat):Int) by rw[bk (by omega) (by omega)];omega];refine⟨⟨rfl,rfl,rfl,rfl,rfl,rfl,rfl,j+1,ws++[((pa,(u N[j]).length,ca),(pb,(u N[j]).length,cb),u N[j])],p4',p5',c4',Ku,rfl,by omega, ?_, ?_⟩,by omega⟩
  ·rw[iE,J,jm gU,iE];rfl
  ·rw[fu,fu] at q5;have ev:lA (ws++[((pa,(u N[j]).length,ca),(pb,(u N[j]).length,cb),u N[j])])=lA ws++[aO bx 1 (aa pa (u N[j]).length ca) (u N[j]),aO bx 1 (aa pb (u N[j]).length cb) (u N[j])]:=by
    unfold lA;rw[jK];rfl
   rw[ev,aY,iE,iE];exact q5.perm (amJ _ _ _ _ _ _ _ _)
 ·have he:j=N.length:=by simp at hc;omega
  subst he;rw[fY] at J;refine aF (c97 (K:=λ r w'=>r=aZ #[aC (bs []),aC (bs [])]/\w'=w1) ⟨rfl,rfl⟩) ?_;rintro _ Z ⟨rfl,e⟩;subst e;refine⟨_,_,rfl,_,rfl,_,rfl, ?_⟩;refine⟨_,_,vi [] Z,_,_,_,rfl, ?_⟩;have q3:=q1.new (t:=aO bx 1 (aa (some ⟨Z.heap.size,0,none⟩) 1 1) [([]:Wd)]) (bA Z (.cells ⟨bx []⟩ 9)) (amG [] Z) (λ b hb=>by
   have gD:some Z.heap.size=some b:=hb;cases gD;simp)
  refine aF (k98 hR U hT Q Ka zG hd W JO q3) ?_;rintro _ w4 ⟨g,gv,rfl,hg,q4⟩;refine⟨_,_,rfl,_,rfl,_,rfl,_,λ w=>cE _ w,_,rfl,aT rfl ?_⟩;refine aF (Da q4 hg yt W) ?_;rintro _ w5 ⟨v6,rfl,q5⟩;have iJ:cP cO 1 w5 v6 refs:=q5.get (t:=aO cO 1 v6 refs) (by simp);obtain⟨X,c6,rfl,_⟩:=aX.ex iJ.cV;refine⟨_,_,rfl,_,_,_,rfl,_,rfl, ?_⟩;obtain⟨g6,q6⟩:=q5.fq (pre:=[aO cO 1 _ _,aO dd 1 _ _,aO dd 1 _ _]) (a:=out) 6 (by simp[de]) (aa X refs.length c6);refine⟨⟨trivial,g6⟩,aT rfl ?_⟩;generalize uF:w5.setCell _ _=w6;have q6:TS w0 (aO cO 1 (aa X refs.length c6) refs::aO dd 1 (aa H ws.length c4) (ws.map (·.1))::aO dd 1 (aa I ws.length c5) (ws.map (·.2.1))::aJ out (de x0 x1 v2 (aa G N.length E) (aa H ws.length c4) (aa I ws.length c5) (aa X refs.length c6) ba)::aO bx 1 (aa G N.length E) N::(lA ws++ts)) w6:=by rw[<-uF];exact q6
  refine⟨_,_,_,q6.at (a:=out) (cs:=de x0 x1 v2 (aa G N.length E) (aa H ws.length c4) (aa I ws.length c5) (aa X refs.length c6) ba) (by simp) 6 rfl, ?_⟩;have q7:=(q6.perm (us:=aJ out (de x0 x1 v2 (aa G N.length E) (aa H ws.length c4) (aa I ws.length c5) (aa X refs.length c6) ba)::aO cO 1 (aa X refs.length c6) refs::aO dd 1 (aa H ws.length c4) (ws.map (·.1))::aO dd 1 (aa I ws.length c5) (ws.map (·.2.1))::aO bx 1 (aa G N.length E) N::(lA ws++ts)) (gI (l₁:=[_,_,_]))).new (t:=aO jl 3 ba ([]:List (Nat×dg×dg))) (Fr.refl _ _) (Own.nil _ _) (λ b hb=>by cases hb);refine amH (ts:=aO dd 1 (aa H ws.length c4) (ws.map (·.1))::aO dd 1 (aa I ws.length c5) (ws.map (·.2.1))::aO bx 1 (aa G N.length E) N::(lA ws++ts)) ⟨hv,⟨_,_,_,rfl⟩,⟨_,_,_,rfl⟩,⟨_,_,_,rfl⟩⟩ hR h.ne (by omega) hA W q7 (λ w8 v7 ss hss q8=>hK w8 H c4 I c5 _ v7 ws ss J hss ?_);refine(q8.sub (us:=aO jl 3 v7 (fx ss)::aO cO 1 (aa X refs.length c6) refs::(mE ss++(aO dd 1 (aa H ws.length c4) (ws.map (·.1))::aO dd 1 (aa I ws.length c5) (ws.map (·.2.1))::aO bx 1 (aa G N.length E) N::(lA ws++ts)))) (.cons_cons _ (.cons _ (lE _)))).perm ?_;refine List.Perm.cons _ (List.Perm.cons _ ?_);exact amK _ _ _ _ _
end
def rz(w:ak)(v:ay)(ls:List (List Wd)):Prop:=∃c:List dg,c.length=ls.length/\Sl dd 1 w v c/\∀i (h:i<c.length) (q:i<ls.length),dK w (b9 c[i]) ls[i]
theorem rz.aH{w w':ak}{v:ay}{ls:List (List Wd)}(h:rz w v ls)(c:aS w w'):rz w' v ls:=by
 obtain⟨x,q,r,u⟩:=h;exact⟨x,q,Sl.aH r c,λ i a b=>Sl.aH (u i a b) c⟩
structure rA(w:ak)(B:Wd)(S:List Wd)(N:List Wd)(Vf:Wd->List Wd)(refs:List Nat)(Lr:List bI)(v2 v3 v4 v5 v6 v7:ay):Prop where
 sy:dK w v2 S
 nm:dK w v3 N
 vs:rz w v4 (N.map Vf)
 ss:rz w v5 (N.map Vf)
 rf:Refs w v6 refs
 sr:im w v7 Lr
theorem rA.aH{w w':ak}{B:Wd}{S N:List Wd}{Vf:Wd->List Wd}{refs:List Nat}{Lr:List bI}{v2 v3 v4 v5 v6 v7:ay}(h:rA w B S N Vf refs Lr v2 v3 v4 v5 v6 v7)(c:aS w w'):rA w' B S N Vf refs Lr v2 v3 v4 v5 v6 v7:=
 ⟨Sl.aH h.sy c,Sl.aH h.nm c,h.vs.aH c,h.ss.aH c,Sl.aH h.rf c,h.sr.aH c⟩
def tv(base:Nat)(w:ak)(B:Wd)(S:List Wd)(N:List Wd)(Vf:Wd->List Wd)(refs:List Nat)(Lr:List bI)(v2 v3 v4 v5 v6 v7:ay):Prop:=
 ∃us:List LT,(∀t∈us,t.F w/\∀b,t.B b->base<=b)/\∀w',(∀t∈us,t.F w')->rA w' B S N Vf refs Lr v2 v3 v4 v5 v6 v7
theorem tv.fr{base:Nat}{S':Nat->Nat->Prop}{w w':ak}{B:Wd}{S N:List Wd}{Vf:Wd->List Wd}{refs:List Nat}{Lr:List bI}{v2 v3 v4 v5 v6 v7:ay}(h:tv base w B S N Vf refs Lr v2 v3 v4 v5 v6 v7)(y:Fr S' w w')(u:∀b o,S' b o->b<base):tv base w' B S N Vf refs Lr v2 v3 v4 v5 v6 v7:=by
 obtain⟨us,c,r⟩:=h;refine⟨us,λ t q=>⟨t.st (c t q).1 y (λ b o E x=> ?_),(c t q).2⟩,r⟩;have:=(c t q).2 b x;have:=u b o E;omega
theorem tv.get{base:Nat}{w:ak}{B:Wd}{S N:List Wd}{Vf:Wd->List Wd}{refs:List Nat}{Lr:List bI}{v2 v3 v4 v5 v6 v7:ay}(h:tv base w B S N Vf refs Lr v2 v3 v4 v5 v6 v7):rA w B S N Vf refs Lr v2 v3 v4 v5 v6 v7:=by
 obtain⟨us,c,q⟩:=h;exact q w (λ t r=>(c t r).1)
section
variable{w0 w w':ak}{ts us:List LT}{b0:Option Nat}{B rest l:Wd}{p po:Option al}{cc co pt:Nat}{R g b ch dc d out:al}{v:ay}{S:List Wd}{m:Wd->Option (List cQ)}{T:List (Wd×Wd×Nat)}{Lr:List bI}{refs:List Nat}{N:List Wd}{Vf:Wd->List Wd}
theorem VU{G H I:Option al}{c3 c4 c5:Nat}{v2 v6 v7:ay}{ws:List vM}{ss:List vK}(u:ws.map (·.2.2)=N.map Vf)(K:ss.map (·.2.2)=Lr)
  (q:∀t∈(aO jl 3 v7 (fx ss)::aO cO 1 v6 refs::aO dd 1 (aa H ws.length c4) (ws.map (·.1))::aO dd 1 (aa I ws.length c5) (ws.map (·.2.1))::aO bx 1 (aa G N.length c3) N::(mE ss++(lA ws++aO bx 1 v2 S::ts))),t.F w):
  rA w B S N Vf refs Lr v2 (aa G N.length c3) (aa H ws.length c4) (aa I ws.length c5) v6 v7:=by
 have X:cP bx 1 w v2 S:=q (aO bx 1 v2 S) (by simp);have Z:cP bx 1 w (aa G N.length c3) N:=q (aO bx 1 (aa G N.length c3) N) (by simp);have o4:cP dd 1 w (aa H ws.length c4) (ws.map (·.1)):=q (aO dd 1 (aa H ws.length c4) (List.map (λ y:vM=>y.1) ws)) (by simp);have o5:cP dd 1 w (aa I ws.length c5) (ws.map (·.2.1)):=q (aO dd 1 (aa I ws.length c5) (List.map (λ y:vM=>y.2.1) ws)) (by simp);have o6:cP cO 1 w v6 refs:=q (aO cO 1 v6 refs) (by simp);have o7:cP jl 3 w v7 (fx ss):=q (aO jl 3 v7 (fx ss)) (by simp);have E:ws.length=(N.map Vf).length:=by rw[<-u,fu]
 have U:∀i (c:i<ws.length),cP bx 1 w (b9 ws[i].1) ws[i].2.2/\cP bx 1 w (b9 ws[i].2.1) ws[i].2.2:=λ i c=>by
  have r:=iy c;generalize ws[i]=y at r⊢;have J:aO bx 1 (b9 y.1) y.2.2∈lA ws:=jJ.2 ⟨y,r,by simp⟩;have x:aO bx 1 (b9 y.2.1) y.2.2∈lA ws:=jJ.2 ⟨y,r,by simp⟩;exact⟨q (aO bx 1 (b9 y.1) y.2.2) (by simp[J]),q (aO bx 1 (b9 y.2.1) y.2.2) (by simp[x])⟩
 have W:∀i (c:i<ss.length),cP db 2 w (b9 ss[i].1) ss[i].2.2.labels/\cP ff 3 w (b9 ss[i].2.1) ss[i].2.2.chunks:=λ i c=>by
  have r:=iy c;generalize ss[i]=y at r⊢;have J:aO db 2 (b9 y.1) y.2.2.labels∈mE ss:=jJ.2 ⟨y,r,by simp⟩;have x:aO ff 3 (b9 y.2.1) y.2.2.chunks∈mE ss:=jJ.2 ⟨y,r,by simp⟩;exact⟨q (aO db 2 (b9 y.1) y.2.2.labels) (by simp[J]),q (aO ff 3 (b9 y.2.1) y.2.2.chunks) (by simp[x])⟩
 refine⟨X.cV,Z.cV,⟨ws.map (·.1),by rw[fu,E], ?_,λ i c Q=> ?_⟩,⟨ws.map (·.2.1),by rw[fu,E], ?_,λ i c Q=> ?_⟩,o6.cV, ?_⟩
 ·exact o4.cV
 ·have h:i<ws.length:=by rwa[fu] at c
  have e:(N.map Vf)[i]=ws[i].2.2:=by
   simp only[<-u,mJ]
  rw[e,mJ];exact(U i h).1.cV
 ·exact o5.cV
 ·have h:i<ws.length:=by rwa[fu] at c
  have e:(N.map Vf)[i]=ws[i].2.2:=by
   simp only[<-u,mJ]
  rw[e,mJ];exact(U i h).2.cV
 ·subst K;refine⟨(fx ss).map λ y=>(y.1,b9 y.2.1,b9 y.2.2),by unfold fx;simp, ?_,λ i c Q=> ?_⟩
  ·have e:((fx ss).map λ y=>(y.1,b9 y.2.1,b9 y.2.2)).flatMap yG=(fx ss).flatMap jl:=by
    rw[List.flatMap_map];rfl
   have:=o7.cV;show aX w 3 v7 _ _;rw[e,fu];exact this
  ·have h:i<ss.length:=by unfold fx at c;simpa using c
   obtain⟨a,b⟩:=W i h;have e:((fx ss).map λ y=>(y.1,b9 y.2.1,b9 y.2.2))[i]=(ss[i].2.2.ref,b9 ss[i].1,b9 ss[i].2.1):=by
    unfold fx;simp
   have x:(ss.map (·.2.2))[i]=ss[i].2.2:=mJ _;rw[e,x];exact⟨rfl,a.cV,b.cV⟩
theorem k38(h:Ac w R v B S m pt T refs Lr N Vf):
  au ag 38 #[an (some R)] w λ r w'=>∃v2 v3 v4 v5 v6 v7,r=aZ #[aV ⟨de 2 (B.length:Int) v2 v3 v4 v5 v6 v7⟩,aQ true]/\(∃c n2 c2 q n3 c3 p4 n4 c4 p5 n5 c5 p6 n6 c6 p7 n7 c7,v2=aa c n2 c2/\v3=aa q n3 c3/\v4=aa p4 n4 c4/\v5=aa p5 n5 c5/\v6=aa p6 n6 c6/\v7=aa p7 n7 c7)/\tv w.heap.size w' B S N Vf refs Lr v2 v3 v4 v5 v6 v7/\aS w w':=by
 obtain⟨U,hN2,W⟩:=h.nm;have y:=h.sl;apply c38;unfold Pj;refine gf (cs:=de 0 0 ba ba ba ba ba ba) (by simp[de]) (λ w1 o1 k1 z1=> ?_);have q1:=(TS.nil (Fr.refl _ w)).ob o1 k1 rfl (by omega);generalize (⟨w.heap.size,0,none⟩:al)=out at q1⊢;refine aF k49 ?_;rintro _ w2 ⟨rfl,k2⟩;have q2:=q1.aH k2;refine⟨rfl,vG (λ w3 k3 z3=> ?_)⟩;have q3:=q2.aH k3;refine aF (k90 (h.rd.aH q3.1)) ?_;rintro _ w3' ⟨rfl,e⟩;subst e;refine⟨_,rfl,aF (k91 (h.rd.aH q3.1)) ?_⟩;rintro _ aqi ⟨rfl,e⟩;subst e;refine⟨_,rfl,aF (k93 h.rd h.ne (by omega) q3) ?_⟩;rintro _ w4 ⟨n,v',rfl,lO,q4⟩;refine⟨_,rfl,aF (k92 q4 lO y) ?_⟩;rintro v2 w5 q5;have gy:cP bx 1 w5 v2 S:=q5.get (t:=aO bx 1 v2 S) (by simp);obtain⟨c,c2,rfl,_⟩:=aX.ex gy.cV;refine⟨_,_,_,rfl, ?_⟩;obtain⟨g1,q6⟩:=q5.fq (pre:=[aO bx 1 _ _]) (a:=out) 0 (by simp[de]) (ah af 2);rw[add_zero] at g1 q6;refine⟨⟨trivial,g1⟩, ?_⟩;obtain⟨g2,q7⟩:=q6.fq (pre:=[aO bx 1 _ _]) (a:=out) 1 (by simp[de]) (ah af (B.length:Int));refine⟨⟨trivial,g2⟩, ?_⟩;obtain⟨g3,q8⟩:=q7.fq (pre:=[aO bx 1 _ _]) (a:=out) 2 (by simp[de]) (aa c S.length c2);refine⟨⟨trivial,g3⟩, ?_⟩;generalize hw8:nI _ (out.add 2) _=w8;have q8:TS w (aO bx 1 (aa c S.length c2) S::[aJ out (de 2 (B.length:Int) (aa c S.length c2) ba ba ba ba ba)]) w8:=by rw[<-hw8];exact q8
 refine aF (k94 h.rd y h.key q8) ?_;rintro _ w9 ⟨v3,l,rfl,X,Z,q9⟩;have hlN:l=N:=CU X U (λ x=>by rw[Z,W]);subst hlN;have lL:cP bx 1 w9 v3 l:=q9.get (t:=aO bx 1 v3 l) (by simp);obtain⟨q,c3,rfl,_⟩:=aX.ex lL.cV;refine⟨_,_,rfl,_,_,_,rfl,_,rfl,_,λ w=>cE _ w,_,rfl,aT rfl ?_⟩;obtain⟨g4,u⟩:=q9.fq (pre:=[aO bx 1 _ _,aO bx 1 _ _]) (a:=out) 3 (by simp[de]) (aa q l.length c3);refine⟨⟨trivial,g4⟩, ?_⟩;generalize I:nI _ (out.add 3) _=jg;have u:TS w (aO bx 1 (aa q l.length c3) l::aO bx 1 (aa c S.length c2) S::[aJ out (de 2 (B.length:Int) (aa c S.length c2) (aa q l.length c3) ba ba ba ba)]) jg:=by rw[<-I];exact u
 have C7:=((u.perm (us:=aJ out (de 2 (B.length:Int) (aa c S.length c2) (aa q l.length c3) ba ba ba ba)::aO bx 1 (aa q l.length c3) l::aO bx 1 (aa c S.length c2) S::[]) (gI (l₁:=[_,_]) (l₂:=[]))).new (t:=aO dd 1 ba ([]:List dg)) (Fr.refl _ _) (Own.nil _ _) (λ b E=>by cases E)).new (t:=aO dd 1 ba ([]:List dg)) (Fr.refl _ _) (Own.nil _ _) (λ b E=>by cases E);refine amM ⟨_,_,_,rfl⟩ h C7 (λ w' p4 c4 p5 c5 v6 v7 ws ss J H Q=> ?_);have G:=VU (B:=B) J H (λ t K=>(Q.2.1 t K).1);obtain⟨p6,c6,rfl,_⟩:=aX.ex G.rf;obtain⟨p7,c7,rfl,_⟩:=G.sr.ex;exact⟨_,_,_,_,_,_,rfl,⟨_,_,_,_,_,_,_,_,_,_,_,_,_,_,_,_,_,_,rfl,rfl,rfl,rfl,rfl,rfl⟩,⟨_,λ t K=>⟨(Q.2.1 t K).1,λ b E=>((Q.2.1 t K).2 b E).1⟩,λ w'' h=>VU J H h⟩,Q.1⟩
end
theorem VV:gW ag 26 5 fK 1 1 [ah aG 0]:=
 ⟨qH,λ _=>rfl,λ x u c=>by simp[fK] at c;subst c;rfl⟩
section
variable{w0 w w':ak}{ts us:List LT}{b0:Option Nat}{B rest l:Wd}{p po:Option al}{cc co pt:Nat}{R g b ch dc d out:al}{v:ay}{S:List Wd}{m:Wd->Option (List cQ)}{T:List (Wd×Wd×Nat)}{L Lr:List bI}{refs Rf:List Nat}{N:List Wd}{Vf:Wd->List Wd}{c0 c1 c2:al}
structure Ad(B:Wd)(S:List Wd)(T:List (Wd×Wd×Nat))(refs:List Nat)(Lr:List bI)(N:List Wd)(Vf:Wd->List Wd):Prop where
 tb:nE T B
 Bl:B.length<=67108864
 ws:WS S
 sl:S.length<=1000
 key:∀k,(g_ T k).isSome->k=[]\/k∈S
 nm:WS N/\N.length<=1000/\∀n,n∈N↔n≠[]/\(g_ T n).isSome
 vl:∀n∈N,∃i0 k,zZ T (g_ T) n i0 k (Vf n)
 m0:g_ T []=some [([],iw T 0)]
 T0:∃off rest,(∃c:0<T.length,T[0]=([],[],off))/\B.drop off=dh (fM refs)++rest/\off<9223372036854775808
 rl:refs.length<=1000
 fT:∀x∈refs,x<4294967296
 sr:KS S B refs Lr
theorem Ad.of(h:Ad B S T refs Lr N Vf)(c:gd w R v B S (g_ T) pt)(q:qh B T pt):Ac w R v B S (g_ T) pt T refs Lr N Vf:=
 ⟨c,q,h.tb,h.Bl,h.sl,h.key,h.nm,h.vl,h.m0,h.T0,h.rl,h.fT,h.sr⟩
theorem KU{x0 x1 y0 y1:Int}{v2 v3 v4 v5 v6 v7 y E G H I J:ay}{base:Nat}{K:ak->Prop}(q:TS w0 (aJ c1 (de x0 x1 v2 v3 v4 v5 v6 v7)::ts) w)
  (h:gj y/\gj E/\gj G/\gj H/\gj I/\gj J)
  (r:∀w',TS w0 (aJ c1 (de y0 y1 y E G H I J)::ts) w'->Fr (λ b _=>b=c1.block) w w'->K w'):
  wr w (aw c1 0) (ah af y0) λ Q=>wr Q (aw c1 1) (ah af y1) λ U=>wr U (aw c1 2) y λ W=>wr W (aw c1 3) E λ X=>wr X (aw c1 4) G λ Z=>wr Z (aw c1 5) H λ w6=>wr w6 (aw c1 6) I λ w7=>wr w7 (aw c1 7) J K:=by
 have st:∀{w' w'':ak} {cs:List ay} (i:Nat) {u:ay} {K:ak->Prop},gj u->i<cs.length->Fr (λ b _=>b=c1.block) w w'->TS w0 (aJ c1 cs::ts) w'->(∀w'',Fr (λ b _=>b=c1.block) w w''->TS w0 (aJ c1 (cs.set i u)::ts) w''->K w'')->wr w' (aw c1 i) u K:=by
  intro w' w'' cs i u K h hi hf q r;obtain⟨g,q'⟩:=q.wr i hi u;have c:Fr (λ b _=>b=c1.block) w' (w'.setCell (c1.add i) u):=(Fr.set w' (c1.add i) u).mono (λ b o _ hS=>by rw[hS.1,cT]);exact⟨⟨h,g⟩,r _ (hf.step c (λ _ _ x _=>x)) q'⟩
 obtain⟨a2,a3,a4,a5,a6,a7⟩:=h;refine st (w'':=w) 0 trivial (by simp[de]) (Fr.refl _ _) q (λ Q f1 q1=> ?_);refine st (w'':=w) 1 trivial (by simp[de]) f1 q1 (λ U c q2=> ?_);refine st (w'':=w) 2 a2 (by simp[de]) c q2 (λ W f3 q3=> ?_);refine st (w'':=w) 3 a3 (by simp[de]) f3 q3 (λ X f4 q4=> ?_);refine st (w'':=w) 4 a4 (by simp[de]) f4 q4 (λ Z f5 q5=> ?_);refine st (w'':=w) 5 a5 (by simp[de]) f5 q5 (λ w6 f6 q6=> ?_);refine st (w'':=w) 6 a6 (by simp[de]) f6 q6 (λ w7 f7 q7=> ?_);refine st (w'':=w) 7 a7 (by simp[de]) f7 q7 (λ w8 f8 q8=> ?_);exact r w8 q8 f8
end
theorem amV{α:Type}(a b c d:α):[a,b,c,d].Perm [c,b,d,a]:=by
 classical
 rw[oV];intro z;simp only[oW];omega
section
variable{w0 w w':ak}{ts us:List LT}{b0:Option Nat}{B rest l:Wd}{p po:Option al}{cc co pt:Nat}{R g b ch dc d out:al}{v:ay}{S:List Wd}{m:Wd->Option (List cQ)}{T:List (Wd×Wd×Nat)}{L Lr:List bI}{refs Rf:List Nat}{N:List Wd}{Vf:Wd->List Wd}{c0 c1 c2:al}
def VW(v2 v3 v4 v5 v6 v7:ay):Prop:=∃y c c2 E h c3 G q c4 H r c5 I u c6 J x c7,v2=aa y c c2/\v3=aa E h c3/\v4=aa G q c4/\v5=aa H r c5/\v6=aa I u c6/\v7=aa J x c7
theorem amW{w:ak}{a b c:Option al}{K:ay->ak->Prop}(h:au ag 36 #[an a,an b,an c] w K):eJ ag (.func (.func 36) #[] #[an a,an b,an c]) #[] w K:=⟨36,_,by kernel_rfl,h⟩
theorem amX{v:ay}{K:Option al->Nat->Nat->ak->Prop}(q:TS w0 ts w)(hv:v=aa p B.length cc)(h:cz w0 v B)(hB:B.length<=1073741824)
  (hk:∀y u w',TS w0 ts w'->(w.heap.size<=w'.heap.size/\∀b,aN (aa y B.length u)=some b->w.heap.size<=b)->cz w' (aa y B.length u) B->K y B.length u w'){J:Option al}{I H:Nat}(hs:J=some ⟨w.heap.size,0,none⟩/\I=0/\H=0):
  aP ag (cM #[26,26] 26 #[aa J I H,v]) (w.alloc (.cells #[] 5)) λ r w2=>az (ax r) λ p n c=>K p n c w2:=by
 obtain⟨rfl,rfl,rfl⟩:=hs;subst hv;have q1:=q.aH (bA w (.cells #[] 5));refine oi (enc:=fK) (l:=([]:Wd)) (m:=B) VV (va w 1 5) (aX.aH h q1.1) (by simp;omega) (by simp;omega) (λ y u Q G X x=> ?_);have k3:aS w Q:=Fr.new (bA w (.cells #[] 5)) X (λ b o W=>by
  have h:some w.heap.size=some b:=W.1;cases h;exact bB _)
 have e:([]:Wd).length+B.length=B.length:=by simp
 rw[e] at G⊢;rw[e] at x;refine hk y u Q (q.aH k3) ⟨k3.size,λ b h=> ?_⟩ G.cV;rcases x with U|⟨g,Z,E⟩
 ·rw[U] at h;cases h;exact bB _
 ·rw[Z] at h;cases h;simp at E;omega
theorem uY(y:cz w0 (aa p B.length cc) B)(Z:jV S L B Rf T)(c:Ad B S T refs Lr N Vf)(q:TS w0 (aJ c1 (de 0 0 ba ba ba ba ba ba)::aJ c2 [aQ false]::aJ c0 [aa p B.length cc]::ts) w):
  au ag 36 #[an (some c0),an (some c1),an (some c2)] w λ r w'=>∃v2 v3 v4 v5 v6 v7,VW v2 v3 v4 v5 v6 v7/\tv w.heap.size w' B S N Vf refs Lr v2 v3 v4 v5 v6 v7/\TS w0 (aJ c1 (de 2 (B.length:Int) v2 v3 v4 v5 v6 v7)::aJ c2 [aQ true]::aJ c0 [aa p B.length cc]::ts) w':=by
 have X:=c.Bl;have lx:=c.sl;apply c36;unfold Ph;refine⟨_,_,Ju w,_,_,_,rfl, ?_⟩;have q1:=q.aH (bA w (.cells #[] 5));refine⟨_,_,_,q1.ei (a:=c0) (v:=aa p B.length cc) (by simp), ?_⟩;dsimp only;refine amX (p:=p) (cc:=cc) (B:=B) q rfl y (by omega) (λ p' c' w3 q3 lJ E=> ?_) ⟨rfl,rfl,rfl⟩;refine aF (k37 E Z c.ws (by omega) c.tb c.key) ?_;rintro _ w4 ⟨R,pt,rfl,hR,G,K⟩;refine⟨_,_,rfl,_,rfl,_,rfl,_,λ w=>pK _ w,_,rfl,cJ rfl ?_⟩;refine aF (k38 (c.of hR G)) ?_;rintro _ w5 ⟨v2,v3,v4,v5,v6,v7,rfl,h,hU,k5⟩;have q5:=(q3.aH K).aH k5;obtain⟨p2,n2,d2,p3,n3,d3,p4,n4,d4,p5,n5,d5,p6,n6,d6,p7,n7,d7,rfl,rfl,rfl,rfl,rfl,rfl⟩:=id h;refine⟨_,_,rfl,_,_,_,_,_,_,_,_,_,_,_,_,_,_,_,_,_,_,_,_,rfl,_,rfl, ?_⟩;have fj:c1.block<w.heap.size:=q.blt (t:=aJ c1 (de 0 0 ba ba ba ba ba ba)) (by simp) rfl;have kL:c2.block<w.heap.size:=q.blt (t:=aJ c2 [aQ false]) (by simp) rfl;have ko:=K.size;refine KU (base:=0) q5 ⟨trivial,trivial,trivial,trivial,trivial,trivial⟩ (λ w6 q6 U=> ?_);have u:=hU.fr U (λ b o c=>by omega);obtain⟨H,Q⟩:=q6.fq (pre:=[aJ c1 _]) (a:=c2) (cs:=[aQ false]) 0 (by simp) (aQ true);rw[add_zero] at H Q;refine⟨⟨trivial,H⟩,_,_,_,_,_,_,h, ?_,Q⟩;have x:=u.fr (Fr.set w6 c2 (aQ true)) (λ b o c=>by rw[c.1];omega);obtain⟨us,I,W⟩:=x;exact⟨us,λ t J=>⟨(I t J).1,λ b y=>by have:=(I t J).2 b y;omega⟩,W⟩
theorem dj(G:cz w (aa p B.length cc) B)(hI:jV S L B Rf T)(E:Ad B S T refs Lr N Vf):
  au ag 10 #[aa p B.length cc] w λ r w'=>∃v2 v3 v4 v5 v6 v7,r=aZ #[aV ⟨de 2 (B.length:Int) v2 v3 v4 v5 v6 v7⟩,aQ true]/\VW v2 v3 v4 v5 v6 v7/\rA w' B S N Vf refs Lr v2 v3 v4 v5 v6 v7/\aS w w':=by
 apply c10;unfold v10;refine gf (cs:=[aa p B.length cc]) (by simp) (λ w1 o1 k1 z1=> ?_);have q1:=(TS.nil (Fr.refl _ w)).ob o1 k1 rfl (by omega);generalize (⟨w.heap.size,0,none⟩:al)=c0 at q1⊢;refine gf (cs:=de 0 0 ba ba ba ba ba ba) (by simp[de]) (λ w2 o2 k2 z2=> ?_);have q2:=q1.ob o2 k2 rfl (by omega);generalize (⟨w1.heap.size,0,none⟩:al)=c1 at q2⊢;refine gf (cs:=[aQ false]) (by simp) (λ w3 o3 k3 z3=> ?_);have H:=q2.ob o3 k3 rfl (by omega);generalize (⟨w2.heap.size,0,none⟩:al)=c2 at H⊢;have fj:c1.block<w3.heap.size:=H.blt (t:=aJ c1 (de 0 0 ba ba ba ba ba ba)) (by simp) rfl;have kL:c2.block<w3.heap.size:=H.blt (t:=aJ c2 [aQ false]) (by simp) rfl;refine DT (λ w4 g k4 hg og=> ?_);have k4s:=k4.size;have J:=og.lt (by simp);have q4:TS w (aJ ⟨g,0,none⟩ [aQ false]::aJ c2 [aQ false]::aJ c1 (de 0 0 ba ba ba ba ba ba)::aJ c0 [aa p B.length cc]::[]) w4:=by
  have h:=H.aH k4;refine⟨h.1,λ t ht=> ?_,iF.2 ⟨λ u hu b G hub=> ?_,h.2.2⟩⟩
  ·rcases dX.1 ht with rfl|ht
   ·refine⟨og,λ b G=> ?_⟩;have gD:b=g:=G;have:=H.1.size;simp only at J;omega
   ·exact h.2.1 t ht
  ·have gD:b=g:=G;have:=((H.2.1 u hu).2 b hub).2;omega
 have q5:=q4.perm (us:=aJ c1 (de 0 0 ba ba ba ba ba ba)::aJ c2 [aQ false]::aJ c0 [aa p B.length cc]::[aJ ⟨g,0,none⟩ [aQ false]]) (amV _ _ _ _);refine amW (aF (uY G hI E q5) ?_);rintro _ w6 ⟨v2,v3,v4,v5,v6,v7,K,hU,q6⟩;refine⟨q6.get (t:=aJ ⟨g,0,none⟩ [aQ false]) (by simp),λ w7 f7=>⟨_,rfl,aT rfl ?_⟩⟩;obtain⟨p2,n2,Q,p3,n3,U,p4,n4,W,p5,n5,X,p6,n6,Z,p7,n7,d7,rfl,rfl,rfl,rfl,rfl,rfl⟩:=id K;simp only at J;have hU7:=hU.fr f7 (λ b o E=>by omega);have x:=(q6.perm (us:=aJ ⟨g,0,none⟩ [aQ false]::aJ c1 (de 2 (B.length:Int) (aa p2 n2 Q) (aa p3 n3 U) (aa p4 n4 W) (aa p5 n5 X) (aa p6 n6 Z) (aa p7 n7 d7))::aJ c2 [aQ true]::[aJ c0 [aa p B.length cc]]) (gI (l₁:=[_,_,_]) (l₂:=[]))).ey (t':=KR (λ b=>b=g)) f7 (λ b o E=>E) trivial (λ b G=> .inl G);have x:=x.tail;refine⟨_,x.ei (a:=c2) (v:=aQ true) (by simp),aT rfl ?_⟩;unfold GQ;have c:∀{w':ak} {us},TS w us w'->aJ c1 (de 2 (B.length:Int) (aa p2 n2 Q) (aa p3 n3 U) (aa p4 n4 W) (aa p5 n5 X) (aa p6 n6 Z) (aa p7 n7 d7))∈us->∀i {v},(de 2 (B.length:Int) (aa p2 n2 Q) (aa p3 n3 U) (aa p4 n4 W) (aa p5 n5 X) (aa p6 n6 Z) (aa p7 n7 d7))[i]? =some v->at_ w' (c1.add i) v:=λ q hm i v hv=>q.at hm i hv
 refine⟨_,c x (by simp) 0 rfl,_,c x (by simp) 1 rfl,_,_,_,c x (by simp) 2 rfl,_,_,_,c x (by simp) 3 rfl,_,_,_,c x (by simp) 4 rfl,_,_,_,c x (by simp) 5 rfl,_,_,_,c x (by simp) 6 rfl,_,_,_,c x (by simp) 7 rfl, ?_⟩;have hu7:=f7.size;refine KU (base:=0) x ⟨trivial,trivial,trivial,trivial,trivial,trivial⟩ (λ w8 q8 f8=> ?_);have hU8:=hU7.fr f8 (λ b o E=>by omega);obtain⟨g9,y⟩:=q8.fq (pre:=[aJ c1 _]) (a:=c2) (cs:=[aQ true]) 0 (by simp) (aQ true);rw[add_zero] at g9 y;have I:=hU8.fr (Fr.set w8 c2 (aQ true)) (λ b o E=>by rw[E.1];omega);refine⟨⟨trivial,g9⟩, ?_⟩;generalize w8.setCell c2 _=w9 at y I⊢;refine⟨_,c y (by simp) 0 rfl,_,c y (by simp) 1 rfl,_,_,_,c y (by simp) 2 rfl,_,_,_,c y (by simp) 3 rfl,_,_,_,c y (by simp) 4 rfl,_,_,_,c y (by simp) 5 rfl,_,_,_,c y (by simp) 6 rfl,_,_,_,c y (by simp) 7 rfl,_,y.ei (a:=c2) (v:=aQ true) (by simp), ?_⟩;exact⟨_,_,_,_,_,_,rfl,K,I.get,y.1⟩
end
section
variable{S:List Wd}{L:List bI}{B:Wd}{R:List Nat}{T:List (Wd×Wd×Nat)}
def withRef(x:bI)(r:Nat):bI:=⟨r,x.labels,x.chunks⟩
def tw(L:List bI)(R:List Nat):List bI:=List.zipWith withRef L R
abbrev gR(L:List bI):List Wd:=ni (L.map (·.labels))
abbrev jw(L:List bI)(n:Wd):List Wd:=valuesOf (L.map (·.labels)) n
theorem dE.VX(h:dE S L){n v:Wd}:v∈jw L n↔∃x∈L,(n,v)∈x.labels:=by
 rw[CV (λ x c=>by
   obtain⟨y,q,rfl⟩:=dt.1 c;exact⟨h.names q,λ z u=>((h.fQ y q).2.2.1.1 z u).2⟩)]
 constructor
 ·rintro⟨x,c,r⟩;obtain⟨y,q,rfl⟩:=dt.1 c;exact⟨y,q,r⟩
 ·rintro⟨x,c,r⟩;exact⟨_,dt.2 ⟨x,c,rfl⟩,r⟩
theorem VY{n:Wd}:n∈gR L↔∃x∈L,∃v,(n,v)∈x.labels:=by
 rw[Sc];constructor
 ·rintro⟨x,h,c⟩;obtain⟨y,q,rfl⟩:=dt.1 h;exact⟨y,q,c⟩
 ·rintro⟨x,h,c⟩;exact⟨_,dt.2 ⟨x,h,rfl⟩,c⟩
theorem dE.D5(h:dE S L){n:Wd}(r:n∈gR L):n∈S/\n≠[]/\n.length<=200:=by
 obtain⟨x,q,v,c⟩:=VY.1 r;exact⟨(h.sym x q _ c).1,((h.fQ x q).2.2.1.1 _ c).1,((h.fQ x q).2.2.2 _ c).1⟩
theorem dE.KV(h:dE S L):(gR L).length<=200:=by
 have c:gR L⊆S:=λ n q=>(h.D5 q).1
 have r:(gR L).length<=S.length:=(ow (ox _:WS (gR L))).length_le_of_subset c;have:=h.sl;omega
theorem dE.VZ(h:dE S L)(n:Wd):(jw L n).length<=20:=by
 have c:(jw L n).length<=L.length:=by
  unfold jw valuesOf;refine eX (yQ _) (eX (List.length_filter_le _ _) ?_);simp
 have:=h.ll;omega
def lX(L:List bI):List (Wd×List Wd):=([],[[]])::(gR L).map λ n=>(n,jw L n)
theorem am1(L:List bI):(lX L).flatMap (λ b=>b.2.map λ v=>(b.1,v))=([],[])::kr L:=by
 unfold lX kr;rw[fG,List.flatMap_map];rfl
theorem dE.V0(h:dE S L):(∀b∈lX L,b.2≠[]/\b.2.length<=32)/\((lX L).map (·.1)).Nodup:=by
 refine⟨λ b q=> ?_, ?_⟩
 ·rcases dX.1 q with rfl|q
  ·simp
  ·obtain⟨n,r,rfl⟩:=dt.1 q;obtain⟨x,w,v,u⟩:=VY.1 r;have c:v∈jw L n:=h.VX.2 ⟨x,w,u⟩;have:=h.VZ n;refine⟨λ e=> ?_, ?_⟩
   ·have e:jw L n=[]:=e;rw[e] at c;cases c
   ·show(jw L n).length<=32;omega
 ·unfold lX;rw[hW,List.map_map,List.nodup_cons];have e:(gR L).map ((·.1)∘λ n=>(n,jw L n))=gR L:=List.map_id _;rw[e];exact⟨λ c=>(h.D5 c).2.1 rfl,ow (ox _)⟩
theorem dE.am2(h:dE S L)(K:jV S L B R T):∃bs:ry,lz T=kA bs/\bs.map (λ b=>(b.1,b.2.map (·.1)))=lX L/\(∀b∈bs,g_ T b.1=some (tm b.2))/\∀n,n∉bs.map (·.1)->g_ T n=none:=by
 have e:(lz T).map (λ y=>(y.1,y.2.1))=(lX L).flatMap (λ b=>b.2.map λ v=>(b.1,v)):=by rw[akP,K.Iw,am1]
 obtain⟨bs,E,u⟩:=akQ (lX L) e;have c:bs.map (·.1)=(lX L).map (·.1):=by rw[<-u,List.map_map];rfl
 obtain⟨I,J⟩:=h.V0;have q:(bs.map (·.1)).Nodup:=by rw[c];exact J
 have w:∀b∈bs,b.2≠[]/\b.2.length<=32:=λ b w=>by
  have Q:(b.1,b.2.map (·.1))∈lX L:=by rw[<-u];exact dt.2 ⟨b,w,rfl⟩
  obtain⟨x,r⟩:=I _ Q;dsimp only at x r;rw[fu] at r;exact⟨λ e=>x (by rw[e];rfl),r⟩
 have N:g_ T=tn bs (λ _=>none):=by
  unfold g_ jv;rw[<-DZ T,fY,E];exact akN bs (s:=DW) (λ z U=>by cases U) w q (λ b _=>rfl)
 obtain⟨G,H⟩:=akO bs (f:=λ _=>none) q;rw[N];exact⟨bs,E,u,G,H⟩
theorem V1{bs pre post:ry}{b:Wd×List cQ}(h:lz T=kA bs)(G:bs=pre++b::post):(kA pre).length+b.2.length<=T.length/\
  ∀k (r:k<b.2.length) (c:(kA pre).length+k<T.length),(T[(kA pre).length+k]).1=b.1/\(T[(kA pre).length+k]).2.1=(b.2[k]).1/\iw T ((kA pre).length+k)=(b.2[k]).2:=by
 have e:lz T=kA pre++((b.2.map λ y=>(b.1,y))++kA post):=by
  rw[h,G];unfold kA;rw[jK,fG]
 have H:=congrArg fZ e;rw[DZ,aY,aY,fu] at H;refine⟨by omega,λ k r c=> ?_⟩;have u:=Ky c;rw[e,rE (by omega),tz,oT (by rw[fu];exact r),List.getElem?_map,gH r] at u;have q:=iW u;have w:=congrArg Prod.fst q;have x:=congrArg (λ y=>y.2.1) q;have E:=congrArg (λ y=>y.2.2) q;exact⟨w.symm,x.symm,E.symm⟩
theorem am3{bs:ry}{b:Wd×List cQ}{m:Wd->Option (List cQ)}(h:lz T=kA bs)(W:b∈bs)(Z:m b.1=some (tm b.2))(K:b.2≠[])(I:(b.2.map (·.1)).Nodup):∃i0,zZ T m b.1 i0 b.2.length (b.2.map (·.1)):=by
 obtain⟨pre,post,e⟩:=List.append_of_mem W;obtain⟨U,E⟩:=V1 h e;have c:=List.length_pos_iff.2 K;refine⟨(kA pre).length,c,U,λ k H=>(E k H (by omega)).1,by simp,λ k H=> ?_,I, ?_⟩
 ·rw[(E k H (by omega)).2.1,mJ]
 ·obtain⟨y,r,J⟩:=List.exists_cons_of_ne_nil K;have N:=(E 0 c (by omega)).2.2;have Q:(b.2[0]'c)=y:=by simp[J]
  rw[Q] at N;have q:∀(X:b.2.length-1<(b.2.map (·.1)).length),(b.2.map (·.1))[b.2.length-1]=((y::r).getLast (by simp)).1:=λ X=>by
   simp only[mJ,J];rw[List.getLast_eq_getElem]
  refine⟨y,r.getLast?.toList,by rw[Z,J];rfl,N.symm, ?_, ?_⟩
  ·cases r.getLast? <;>simp
  ·rw[q];cases G:r.getLast? with
   |none=>
    have:r=[]:=by simpa using G
    subst this;rfl
   |some u=>
    have w:r≠[]:=by rintro rfl;cases G
    have x:=List.getLast?_eq_some_getLast w;rw[G] at x;have x:=iW x;rw[List.getLast_cons w,<-x];rfl
end
section
variable{S:List Wd}{L:List bI}{B:Wd}{R:List Nat}{T:List (Wd×Wd×Nat)}
theorem am4:∀{l:eh},ia l->(bh l).length<=402*l.length:=by
 intro l;induction l with
 |nil=>intro _;simp[bh]
 |cons x l q=>
  intro h;have r:=h x (by simp);have u:=q (λ y c=>h y (by simp[c]));rw[kK,aY,aY,eK,eK,dH];omega
theorem dE.V2(h:dE S L){x:Wd×Wd}(q:x∈kr L):x.1≠[]/\x.1.length<=200/\x.2.length<=200:=by
 obtain⟨n,w,q⟩:=jJ.1 q;obtain⟨v,c,rfl⟩:=dt.1 q;obtain⟨y,u,c⟩:=h.VX.1 c;have r:=(h.fQ y u).2.2.2 _ c;exact⟨((h.fQ y u).2.2.1.1 _ c).1,r.1,r.2⟩
theorem KW(c:jV S L B R T){i:Nat}(hi:i<T.length):(i=0/\(T[i]).1=[]/\(T[i]).2.1=[])\/(0<i/\((T[i]).1,(T[i]).2.1)∈kr L):=by
 have h:(T.map λ t=>(t.1,t.2.1))[i]? =(([],[])::kr L)[i]? :=by rw[c.Iw]
 rw[List.getElem?_map,gH hi] at h;rcases i with _|i
 ·have h:=iW h;exact .inl ⟨rfl,congrArg Prod.fst h,congrArg Prod.snd h⟩
 ·have h:some ((T[i+1]).1,(T[i+1]).2.1)=(kr L)[i]? :=h;exact .inr ⟨by omega,List.mem_of_getElem? h.symm⟩
theorem Ae(c:R.length=L.length):(tw L R).length=L.length:=by
 unfold tw;rw[List.length_zipWith];omega
theorem am5(h:dE S L)(c:jV S L B R T):Ad B S T R (tw L R) (gR L) (jw L):=by
 obtain⟨bs,jE,u,W,yB⟩:=h.am2 c;have oD:T.length=(kr L).length+1:=by
  have:=congrArg fZ c.Iw;rw[fu,dH] at this;exact this
 have sU:=h.U0;have iP:=h.sl;have jF:=h.ll;have gQ:=c.len;have X:∀b∈bs,(b.1,b.2.map (·.1))∈lX L:=λ b J=>by rw[<-u];exact dt.2 ⟨b,J,rfl⟩
 have G:∀y∈lX L,∃b∈bs,b.1=y.1/\b.2.map (·.1)=y.2:=λ y hy=>by
  rw[<-u] at hy;obtain⟨b,J,rfl⟩:=dt.1 hy;exact⟨b,J,rfl,rfl⟩
 have H:∀k,(g_ T k).isSome->k=[]\/k∈gR L:=λ k Z=>by
  by_cases w:k∈bs.map (·.1)
  ·obtain⟨b,J,rfl⟩:=dt.1 w;rcases dX.1 (X b J) with e|e
   ·exact .inl (congrArg Prod.fst e)
   ·obtain⟨n,Q,e⟩:=dt.1 e;have q:n=b.1:=congrArg Prod.fst e;rw[<-q];exact .inr Q
  ·rw[yB k w] at Z;cases Z
 have E:0<T.length:=by omega
 have K:(T[0]).1=[]/\(T[0]).2.1=[]:=by
  rcases KW c E with h|h
  ·exact h.2
  ·omega
 refine⟨⟨by omega,λ t ht=> ?_,λ i hi h0=> ?_,λ h0=>K.1⟩,gQ,h.ws,by omega,λ k Z=> ?_,⟨ox _,by have:=h.KV;omega,λ n=>⟨λ Q=>⟨(h.D5 Q).2.1, ?_⟩,λ Q=>(H n Q.2).resolve_left Q.1⟩⟩,λ n Q=> ?_, ?_, ?_,by rw[c.yS];omega,λ x hx=>(c.fT x hx).2, ?_⟩
 ·obtain⟨i,hi,rfl⟩:=List.mem_iff_getElem.1 ht;have hp:=(c.post _ ht).1;rcases KW c hi with⟨_,q,I⟩|⟨_,w⟩
  ·rw[q,I];exact⟨by simp,by simp,by omega⟩
  ·have:=h.V2 w;dsimp only at this;exact⟨by omega,by omega,by omega⟩
 ·rcases KW c hi with⟨e,_⟩|⟨_,w⟩
  ·omega
  ·exact(h.V2 w).1
 ·rcases H k Z with e|e
  ·exact .inl e
  ·exact .inr (h.D5 e).1
 ·obtain⟨b,J,q,_⟩:=G (n,jw L n) (jI _ (dt.2 ⟨n,Q,rfl⟩));have q:b.1=n:=q;rw[<-q,W b J];rfl
 ·have w:(n,jw L n)∈lX L:=jI _ (dt.2 ⟨n,Q,rfl⟩);obtain⟨b,J,q,I⟩:=G _ w;have q:b.1=n:=q;have I:b.2.map (·.1)=jw L n:=I;have eY:b.2≠[]:=λ e=>by
   have:=(h.V0.1 _ w).1;rw[e] at I;exact this I.symm
  obtain⟨i0,Z⟩:=am3 jE J (W b J) eY (by rw[I];exact ow (ox _));rw[q,I] at Z;exact⟨i0,_,Z⟩
 ·cases N:bs with
  |nil=>rw[N] at u;cases u
  |cons b bs'=>
   rw[N] at u;have e:=List.head_eq_of_cons_eq u;have q:b.1=[]:=congrArg Prod.fst e;have I:b.2.map (·.1)=[[]]:=congrArg Prod.snd e;obtain⟨y,hy,Kx⟩:=List.map_eq_singleton_iff.1 I;have w:=W b (by rw[N];simp);obtain⟨_,hp⟩:=V1 (pre:=[]) (post:=bs') jE (by rw[N];rfl);have U:=(hp 0 (by rw[hy];simp) (by show 0+0<_;omega)).2.2;rw[q,hy] at w;rw[w];have e5:(b.2[0]'(by rw[hy];simp))=y:=by simp[hy]
   rw[e5] at U;have U:iw T 0=y.2:=U;rw[U];have:y=([],y.2):=Prod.ext Kx rfl
   conv=>lhs;rw[this]
   rfl
 ·obtain⟨sE,r,uH⟩:=c.post _ (iy E);refine⟨(T[0]).2.2,r,⟨E, ?_⟩, ?_,by omega⟩
  ·exact Prod.ext K.1 (Prod.ext K.2 rfl)
  ·unfold yR at uH;rw[if_pos K.1] at uH;exact uH
 ·refine⟨by rw[Ae c.yS,c.yS],λ j h1 h2=> ?_⟩;have hj:j<L.length:=by rw[Ae c.yS] at h1;exact h1
  have e:(tw L R)[j]=withRef L[j] R[j]:=List.getElem_zipWith;obtain⟨a1,a2,a3,a4⟩:=h.fQ _ (iy hj);obtain⟨r,hr,_⟩:=c.ser j hj h2;have sJ:=am4 a4;rw[e];exact⟨rfl,(c.fT _ (iy h2)).2,⟨⟨a1,a2⟩,a4,h.sym L[j] (iy hj),h.gk L[j] (iy hj)⟩,by show(bh L[j].labels).length<=_;omega,r,hr⟩
end
section
variable{w0 w w':ak}{ts us:List LT}{p:Option al}{cc:Nat}{f g:al}{r:Option Nat}{l:List Nat}{v x:ay}
theorem k53{refs:List Nat}(q:TS w0 ts w)(Q:ie cO 1 (aa p refs.length cc) refs∈ts)(hl:refs.length<=1000):
  au ag 53 #[aa p refs.length cc] w λ r w'=>TS w0 (aO cO 1 r refs::ts) w':=by
 apply YH;unfold v53;have W:=q.new (t:=aO cO 1 ba ([]:List Nat)) (Fr.refl _ _) (Own.nil _ _) (λ b K=>by cases K);refine YG (λ P k C U R I X Z w'=>p=U/\R=refs.length/\cc=I/\X=(refs.length:Int)/\Z=(k:Int)/\k<=refs.length/\TS w0 (aO cO 1 (aa P k C) (refs.take k)::ts) w') (λ _ k _ _ _ _ _ _ _=>refs.length-k) ⟨rfl,rfl,rfl,rfl,rfl,dO _,W⟩ ?_;rintro P k C _ _ _ _ _ H ⟨rfl,rfl,rfl,rfl,rfl,hk,c⟩;unfold FO;refine bn (λ h=> ?_) (λ h=> ?_)
 ·have y:k<refs.length:=by simp at h;omega
  have E:Sl cO 1 H (aa p refs.length cc) refs:=c.get (t:=ie cO 1 (aa p refs.length cc) refs) (jI _ Q);refine Sl.ix (enc:=cO) (z:=1) (l:=refs) (λ _=>rfl) (by omega) E (by omega) (by omega) (λ a _ J=>⟨_,by
   have:=J 0 _ rfl;rwa[add_zero] at this, ?_⟩)
  have u:(refs.take k).length=k:=by rw[fS];omega
  have e:refs[((k:Nat):Int).toNat]'(by simp;omega)=refs[k]:=by congr 1
  rw[e];refine c.kB KK (x:=refs[k]) (KL _ H) (by omega) (by omega) (λ p6 c6 w6 G _=> ?_);rw[u] at G⊢;rw[<-jm y] at G;rw[show aq af ((k:Int)+1)=((k+1:Nat):Int) by rw[bk (by omega) (by omega)];omega];exact⟨⟨rfl,rfl,rfl,rfl,rfl,by omega,G⟩,by omega⟩
 ·have N:k=refs.length:=by simp at h;omega
  subst N;rw[fY] at c;exact c
def dG(f:al)(r:Option Nat)(l:List Nat)(cur:Nat):LT:=
 ⟨λ b=>b=f.block\/r=some b,λ w=>∃v,Ob w f [v,ah aj (cur:Int)]/\Sl cO 1 w v l/\aN v=r/\r≠some f.block,by
  rintro S w w'⟨v,E,G,q,H⟩u y;exact⟨v,E.fr u (λ o _ _ h=>y _ o h (.inl rfl)),aX.fr G u (λ a l c e o _ _ h=>y a.block o h (.inr (by rw[<-q,e];rfl))),q,H⟩⟩
theorem k52{refs:List Nat}(q:TS w0 (aO cO 1 x refs::ts) w):au ag 52 #[x] w λ r w'=>∃f b,r=cG 208 (an (some f))/\TS w0 (dG f b refs 0::ts) w':=by
 have u:cP cO 1 w x refs:=q.get (t:=aO cO 1 x refs) (by simp);obtain⟨p,c,rfl,_⟩:=aX.ex u.cV;apply Yz;unfold MT;refine aF (YA (K:=λ r w'=>∃f,r=an (some f)/\∃b,TS w0 (dG f b refs 0::ts) w') ?_) ?_
 ·unfold MU;refine gf (cs:=[aa p refs.length c,ah aj ((0:Nat):Int)]) (by simp) (λ I G y J=>⟨_,rfl,aN (aa p refs.length c), ?_⟩);have h:∀b,aN (aa p refs.length c)=some b->b<w.heap.size:=λ b e=>u.lt e
  refine q.ey (t':=dG ⟨w.heap.size,0,none⟩ (aN (aa p refs.length c)) refs 0) y (λ b o E=>E.elim) ⟨_,G,aX.aH u.cV y,rfl,λ e=>by have:=h _ e;simp only at this;omega⟩ (λ b h=> ?_);rcases h with e|e
  ·refine .inr ?_;have e:b=w.heap.size:=e;omega
  ·exact .inl e
 ·rintro _ I ⟨f,rfl,b,H⟩;exact⟨_,rfl,f,b,rfl,H⟩
theorem KX{K:ay->ak->Prop}(h:au ag 322 #[an (some f)] w K):cS ag (cG 208 (an (some f))) "Next" #[] w K:=⟨322,_,by kernel_rfl,h⟩
theorem am_{K:ay->ak->Prop}(h:au ag 319 #[an (some f)] w K):cS ag (cG 208 (an (some f))) "At" #[] w K:=⟨319,_,by kernel_rfl,h⟩
theorem V3{K:ay->ak->Prop}(h:au ag 320 #[an (some f)] w K):cS ag (cG 208 (an (some f))) "Err" #[] w K:=⟨320,_,by kernel_rfl,h⟩
theorem am'{cur:Nat}(q:TS w0 us w)(h:dG f r l cur∈us):au ag 319 #[an (some f)] w λ r w'=>r=ah aj (cur:Int)/\w'=w:=by
 obtain⟨v,c,_⟩:=q.get h;exact YC ⟨_,c.at 1 rfl,rfl,rfl⟩
theorem ana{cur:Nat}(q:TS w0 (dG f r [] cur::ts) w):au ag 322 #[an (some f)] w λ r' w'=>r'=aQ false/\TS w0 (dG f r [] 0::ts) w':=by
 obtain⟨v,h,y,E,G⟩:=q.get (t:=dG f r [] cur) (by simp);obtain⟨p,c,rfl,_⟩:=aX.ex y;apply MW;unfold FM;have u:=h.at 0 rfl;rw[add_zero] at u;refine⟨_,_,_,u,aT rfl ⟨⟨trivial,h.can 1 (by simp)⟩,rfl, ?_⟩⟩;have J:=Fr.set w (f.add 1) (ah aj 0);refine q.ey (t':=dG f r [] 0) J (λ b o H=>by rw[H.1,cT];exact .inl rfl) ⟨_,h.set 1 (by simp) (ah aj 0),aX.nil _ _ _ _,E,G⟩ (λ b I=> .inl I)
theorem V4{cur n:Nat}(q:TS w0 (dG f r (n::l) cur::ts) w)(hl:l.length<=1000):au ag 322 #[an (some f)] w λ r' w'=>r'=aQ true/\TS w0 (dG f r l n::ts) w':=by
 obtain⟨v,H,I,J,K⟩:=q.get (t:=dG f r (n::l) cur) (by simp);obtain⟨p,c,rfl,hc⟩:=aX.ex I;apply MW;unfold FM;have G:=H.at 0 rfl;rw[add_zero] at G;refine⟨_,_,_,G,cJ (by rw[decide_eq_true_iff,dH];omega) ⟨_,_,_,G, ?_⟩⟩;refine Sl.ix (enc:=cO) (z:=1) (l:=n::l) (λ _=>rfl) (by omega) I (by omega) (by rw[dH];omega) (λ a _ ha=>⟨_,by
  have:=ha 0 _ rfl;rwa[add_zero] at this,⟨trivial,H.can 1 (by simp)⟩, ?_⟩)
 have Q:=H.set 1 (by simp) (ah aj (n:Int));have R:=Fr.set w (f.add 1) (ah aj (n:Int));have y:=Q.at 0 rfl;rw[add_zero] at y;have s2:Sl cO 1 (w.setCell (f.add 1) (ah aj (n:Int))) (aa p (n::l).length c) (n::l):=aX.fr I R (λ a l' Z e o _ _ h=>K (by rw[<-J,e];have:=h.1;rw[cT] at this;rw[<-this];rfl));refine⟨_,_,_,y,_,λ w=>gV (e:=113) (by kernel_rfl) (z:=1) (by kernel_rfl) p _ c 1 _ (by rw[dH];omega) hc _ none (.inr ⟨_,rfl⟩) (.inl ⟨rfl,rfl⟩) w,_,_,_,rfl, ?_⟩;have u:=Q.can 0 (by simp);rw[add_zero] at u;refine⟨⟨trivial,u⟩,rfl, ?_⟩;have X:=Q.set 0 (by simp) (aa (qa p 1 c 1) ((n::l).length-1) (c-1));rw[add_zero] at X;have U:=Fr.set (w.setCell (f.add 1) (ah aj (n:Int))) f (aa (qa p 1 c 1) ((n::l).length-1) (c-1));have E:Fr (λ b _=>b=f.block) w ((w.setCell (f.add 1) (ah aj (n:Int))).setCell f (aa (qa p 1 c 1) ((n::l).length-1) (c-1))):=(R.mono (λ b o _ h=>by rw[h.1,cT])).step (U.mono (λ b o _ h=>h.1)) (λ _ _ x _=>x);refine q.ey (t':=dG f r l n) E (λ b o h=> .inl h) ⟨_,X, ?_,(mg _ _ _ _ _ _ _).trans J,K⟩ (λ b hb=> .inl hb);have W:=aX.sub s2 1 (n::l).length (by rw[dH];omega) (bB _);have e:(((n::l).flatMap cO).drop (1*1)).take (((n::l).length-1)*1)=l.flatMap cO:=by
  rw[fG];show((l.flatMap cO).take _)=_;rw[lD];rw[kF (enc:=cO) (z:=1) (λ _=>rfl),dH];omega
 rw[e] at W;have N:=aX.fr W U (λ a l' Z e o _ _ h=>K (by
  have e2:aN (aa (qa p 1 c 1) ((n::l).length-1) (c-1))=some a.block:=by rw[e];rfl
  rw[<-J,<-mg p 1 c ((n::l).length-1) (c-1) (n::l).length c,e2,h.1]))
 exact N
end
section
variable{w0 w w':ak}{ts us:List LT}{p:Option al}{cc:Nat}{f g rm:al}{r r':Option Nat}{l l':List Nat}{v x:ay}{o t:LT}
def gh(f g:al)(cur:Nat)(i a b:Bool):List ay:=[cG 208 (an (some f)),cG 208 (an (some g)),ah aj (cur:Int),aQ i,aQ a,aQ b]
theorem V5{K:ay->ak->Prop}{cur n:Nat}(q:TS w0 (o::dG f r (n::l) cur::ts) w)(h:l.length<=1000)(c:∀w',TS w0 (o::dG f r l n::ts) w'->K (aQ true) w'):cS ag (cG 208 (an (some f))) "Next" #[] w K:=
 KX (aF (V4 (q.perm (d_ _ _ _)) h) (by rintro _ w' ⟨rfl,u⟩;exact c w' (u.perm (d_ _ _ _))))
theorem anb{K:ay->ak->Prop}{cur:Nat}(q:TS w0 (o::dG f r [] cur::ts) w)(c:∀w',TS w0 (o::dG f r [] 0::ts) w'->K (aQ false) w'):cS ag (cG 208 (an (some f))) "Next" #[] w K:=
 KX (aF (ana (q.perm (d_ _ _ _))) (by rintro _ w' ⟨rfl,h⟩;exact c w' (h.perm (d_ _ _ _))))
theorem onG{K:ay->ak->Prop}{cur n:Nat}(q:TS w0 (o::t::dG g r (n::l) cur::ts) w)(h:l.length<=1000)(c:∀w',TS w0 (o::t::dG g r l n::ts) w'->K (aQ true) w'):cS ag (cG 208 (an (some g))) "Next" #[] w K:=
 KX (aF (V4 (q.perm (gI (l₁:=[o,t]))) h) (by rintro _ w' ⟨rfl,u⟩;exact c w' (u.perm (gI (l₁:=[o,t])).symm)))
theorem D6{K:ay->ak->Prop}{cur:Nat}(q:TS w0 us w)(h:dG f r l cur∈us)(c:K (ah aj (cur:Int)) w):cS ag (cG 208 (an (some f))) "At" #[] w K:=
 am_ (aF (am' q h) (by rintro _ w' ⟨rfl,rfl⟩;exact c))
def KY(w:ak)(rm:al):Nat:=match w.cell? (rm.add 4) with|some (aQ true)=>1|_=>0
theorem V6{b:Bool}(h:at_ w (rm.add 4) (aQ b)):KY w rm=if b then 1 else 0:=by
 have h:w.cell? (rm.add 4)=some (aQ b):=h;unfold KY;rw[h];cases b<;>rfl
theorem ane(q:TS w0 (aJ rm (gh f g 0 false false false)::dG f r [1,2] 0::dG g r' [2] 0::ts) w):
  au ag 360 #[an (some rm)] w λ x w'=>x=aQ true/\TS w0 (aJ rm (gh f g 1 true true true)::dG f r [] 2::dG g r' [] 2::ts) w':=by
 apply MS;unfold FK;have u:∀{w:ak} {us} {c i a b},TS w0 us w->aJ rm (gh f g c i a b)∈us->at_ w rm (cG 208 (an (some f)))/\at_ w (rm.add 1) (cG 208 (an (some g)))/\at_ w (rm.add 3) (aQ i)/\at_ w (rm.add 4) (aQ a)/\at_ w (rm.add 5) (aQ b):=λ q y=>⟨by
  have:=q.at y 0 rfl;rwa[add_zero] at this,q.at y 1 rfl,q.at y 3 rfl,q.at y 4 rfl,q.at y 5 rfl⟩
 obtain⟨h,E,G,H,I⟩:=u q (c:=0) (i:=false) (a:=false) (b:=false) (by simp);refine⟨_,G,cJ rfl ⟨_,h,V5 q (by simp) (λ w1 q1=>⟨_,rfl, ?_⟩)⟩⟩;obtain⟨g2,J⟩:=q1.wr 4 (by simp[gh]) (aQ true);refine⟨⟨trivial,g2⟩, ?_⟩;have J:TS w0 (aJ rm (gh f g 0 false true false)::dG f r [2] 1::dG g r' [2] 0::ts) (w1.setCell (rm.add 4) (aQ true)):=J;obtain⟨h,E,G,H,I⟩:=u J (c:=0) (i:=false) (a:=true) (b:=false) (by simp);refine⟨_,E,onG J (by simp) (λ w3 q3=>⟨_,rfl, ?_⟩)⟩;obtain⟨g4,q4⟩:=q3.wr 5 (by simp[gh]) (aQ true);refine⟨⟨trivial,g4⟩, ?_⟩;obtain⟨g5,K⟩:=q4.wr 3 (by simp[gh]) (aQ true);refine⟨⟨trivial,g5⟩, ?_⟩;generalize nI _ (rm.add 3) _=w5 at K⊢;have K:TS w0 (aJ rm (gh f g 0 true true true)::dG f r [2] 1::dG g r' [] 2::ts) w5:=K;unfold wV;refine MR (λ c w'=>rm=c/\TS w0 (aJ rm (gh f g 0 true true true)::dG f r [2] 1::dG g r' [] 2::ts) w') (λ _ _=>0) ⟨rfl,K⟩ ?_;rintro _ w6 ⟨rfl,X⟩;unfold wU;obtain⟨h,E,G,H,I⟩:=u X (c:=0) (i:=true) (a:=true) (b:=true) (by simp);have N:=X.drew;obtain⟨Z,b1,b3,b4,b5⟩:=u N (c:=0) (i:=true) (a:=true) (b:=true) (by simp);refine⟨_,H,aT rfl ⟨_,I,aT rfl ⟨_,Z,_,b1,D6 (r:=r) (l:=[2]) (cur:=1) N (by simp) ⟨_,rfl,b1,D6 (r:=r') (l:=[]) (cur:=2) N (by simp) ⟨_,rfl,cJ rfl ?_⟩⟩⟩⟩⟩;obtain⟨g8,Q⟩:=N.wr 2 (by simp[gh]) (ah aj ((1:Nat):Int));refine⟨⟨trivial,g8⟩, ?_⟩;generalize U:nI _ (rm.add 2) _=w8;have Q:TS w0 (aJ rm (gh f g 1 true true true)::dG f r [2] 1::dG g r' [] 2::ts) w8:=by rw[<-U];exact Q
 obtain⟨h,E,G,H,I⟩:=u Q (c:=1) (i:=true) (a:=true) (b:=true) (by simp);refine⟨_,h,V5 Q (by simp) (λ w9 q9=>⟨_,rfl, ?_⟩)⟩;obtain⟨R,W⟩:=q9.wr 4 (by simp[gh]) (aQ true);exact⟨⟨trivial,R⟩,rfl,W⟩
theorem anf(q:TS w0 (aJ rm (gh f g 1 true true true)::dG f r [] 2::dG g r' [] 2::ts) w):
  au ag 360 #[an (some rm)] w λ x w'=>x=aQ false/\TS w0 (aJ rm (gh f g 1 true false true)::dG f r [] 0::dG g r' [] 2::ts) w':=by
 apply MS;unfold FK;have u:∀{w:ak} {us} {c i a b},TS w0 us w->aJ rm (gh f g c i a b)∈us->at_ w rm (cG 208 (an (some f)))/\at_ w (rm.add 1) (cG 208 (an (some g)))/\at_ w (rm.add 3) (aQ i)/\at_ w (rm.add 4) (aQ a)/\at_ w (rm.add 5) (aQ b):=λ q y=>⟨by
  have:=q.at y 0 rfl;rwa[add_zero] at this,q.at y 1 rfl,q.at y 3 rfl,q.at y 4 rfl,q.at y 5 rfl⟩
 obtain⟨K,N,I,h,J⟩:=u q (c:=1) (i:=true) (a:=true) (b:=true) (by simp);refine⟨_,I,aT rfl ?_⟩;unfold wV;refine MR (λ c w'=>rm=c/\(TS w0 (aJ rm (gh f g 1 true true true)::dG f r [] 2::dG g r' [] 2::ts) w'\/TS w0 (aJ rm (gh f g 1 true false true)::dG f r [] 0::dG g r' [] 2::ts) w')) (λ c w=>KY w c) ⟨rfl, .inl q⟩ ?_;rintro _ w6 ⟨rfl,E|E⟩
 ·unfold wU;obtain⟨K,N,I,h,J⟩:=u E (c:=1) (i:=true) (a:=true) (b:=true) (by simp);have R:=V6 h;have G:=E.drew;obtain⟨Q,b1,Z,b4,b5⟩:=u G (c:=1) (i:=true) (a:=true) (b:=true) (by simp);refine⟨_,h,aT rfl ⟨_,J,aT rfl ⟨_,Q,_,b1,D6 (r:=r) (l:=[]) (cur:=2) G (by simp) ⟨_,rfl,b1,D6 (r:=r') (l:=[]) (cur:=2) G (by simp) ⟨_,rfl,aT rfl (aT rfl ⟨_,Q,anb G (λ X W=>⟨_,rfl, ?_⟩)⟩)⟩⟩⟩⟩⟩;obtain⟨U,H⟩:=W.wr 4 (by simp[gh]) (aQ false);refine⟨⟨trivial,U⟩,⟨rfl, .inr H⟩, ?_⟩;have H:TS w0 (aJ rm (gh f g 1 true false true)::dG f r [] 0::dG g r' [] 2::ts) (X.setCell (rm.add 4) (aQ false)):=H;rw[V6 (u H (c:=1) (i:=true) (a:=false) (b:=true) (by simp)).2.2.2.1,R];decide
 ·unfold wU;obtain⟨K,N,I,h,J⟩:=u E (c:=1) (i:=true) (a:=false) (b:=true) (by simp);exact⟨_,h,cJ rfl ⟨rfl,E⟩⟩
end
section
variable{w0 w w':ak}{ts us:List LT}{p:Option al}{cc:Nat}{f g rm:al}{r r':Option Nat}{l l':List Nat}{v x:ay}{o t:LT}
theorem V7{K:ay->ak->Prop}(h:au ag 360 #[an (some rm)] w K):cS ag (cG 319 (an (some rm))) "Next" #[] w K:=⟨360,_,by kernel_rfl,h⟩
theorem ang{K:ay->ak->Prop}(h:au ag 358 #[an (some rm)] w K):cS ag (cG 319 (an (some rm))) "At" #[] w K:=⟨358,_,by kernel_rfl,h⟩
theorem anh{K:ay->ak->Prop}(h:au ag 359 #[an (some rm)] w K):cS ag (cG 319 (an (some rm))) "Err" #[] w K:=⟨359,_,by kernel_rfl,h⟩
theorem ani{c:Nat}{i a b:Bool}(q:TS w0 us w)(u:aJ rm (gh f g c i a b)∈us):au ag 359 #[an (some rm)] w λ x w'=>x=aA/\w'=w:=by
 have h:=q.at u 0 rfl;rw[add_zero] at h;apply Yy;unfold MP;refine⟨_,h,V3 (MV ⟨_,rfl,_,λ w=>cE _ w,_,rfl,aT rfl ⟨_,q.at u 1 rfl,V3 (MV ⟨_,rfl,rfl,rfl⟩)⟩⟩)⟩
theorem anj(q:TS w0 (aJ rm (gh f g 0 false false false)::dG f r [1,2] 0::dG g r' [2] 0::ts) w):
  au ag 141 #[cG 319 (an (some rm))] w λ y w'=>∃x,y=aZ #[x,aA]/\TS w0 (aO cO 1 x [1]::ts) w':=by
 apply MZ;unfold v141;have I:=q.new (t:=aO cO 1 ba ([]:List Nat)) (Fr.refl _ _) (Own.nil _ _) (λ b H=>by cases H);refine MY (λ u P k C w'=>cG 319 (an (some rm))=u/\((k=0/\TS w0 (aO cO 1 (aa P k C) []::aJ rm (gh f g 0 false false false)::dG f r [1,2] 0::dG g r' [2] 0::ts) w')\/(k=1/\TS w0 (aO cO 1 (aa P k C) [1]::aJ rm (gh f g 1 true true true)::dG f r [] 2::dG g r' [] 2::ts) w'))) (λ _ _ k _ _=>1-k) ⟨rfl, .inl ⟨rfl,I⟩⟩ ?_;rintro _ P k C Q ⟨rfl,⟨rfl,E⟩|⟨rfl,E⟩⟩
 ·unfold wW;refine V7 (aF (ane (E.perm (gI (l₁:=[_,_,_]) (l₂:=ts)).symm)) ?_);rintro _ G ⟨rfl,h⟩;refine⟨_,rfl,cJ rfl (ang (Yx ⟨_,h.at (a:=rm) (cs:=gh f g 1 true true true) (by simp) 2 rfl,_,rfl, ?_⟩))⟩;have J:=h.perm (gI (l₁:=[_,_,_]) (l₂:=ts));refine J.kB KK (x:=1) (KL 1 G) (by simp) (by simp) (λ N c6 U K _=> ?_);exact⟨⟨rfl, .inr ⟨rfl,K⟩⟩,by simp⟩
 ·unfold wW;refine V7 (aF (anf (E.perm (gI (l₁:=[_,_,_]) (l₂:=ts)).symm)) ?_);rintro _ G ⟨rfl,h⟩;refine⟨_,rfl,aT rfl (anh (aF (ani (f:=f) (g:=g) (c:=1) (i:=true) (a:=false) (b:=true) h (by simp)) ?_))⟩;rintro _ R ⟨rfl,rfl⟩;exact⟨_,rfl,_,rfl,h.tail.tail.tail⟩
theorem ank(q:TS w0 (aJ rm (gh f g 0 false false false)::dG f r [1,2] 0::dG g r' [2] 0::ts) w):
  au ag 67 #[cG 319 (an (some rm))] w λ y w'=>∃x,y=aZ #[x,aQ true]/\TS w0 (aO cO 1 x [1]::ts) w':=by
 apply MG;unfold FI;refine aF (anj q) ?_;rintro _ H ⟨x,rfl,h⟩;have G:cP cO 1 H x [1]:=h.get (t:=aO cO 1 x [1]) (by simp);obtain⟨p,cc,rfl,_⟩:=aX.ex G.cV;refine⟨_,_,rfl,_,_,_,rfl,_,rfl,_,λ w=>cE _ w,_,rfl,aT rfl ?_⟩;refine aF (VB h (by simp)) ?_;rintro y I u;have c:cP cO 1 I y [1]:=u.get (t:=aO cO 1 y [1]) (by simp);obtain⟨J,E,rfl,_⟩:=aX.ex c.cV;exact⟨_,_,_,rfl,_,rfl,u.sub (.cons_cons _ (.cons _ (lE _)))⟩
theorem anl{refs:List Nat}(q:TS w0 ts w)(c:ie cO 1 (aa p refs.length cc) refs∈ts)(J:refs.length<=1000):
  au ag 68 #[aV #[ah af 0,aa p refs.length cc,ba]] w λ y w'=>∃f b,y=cG 208 (an (some f))/\TS w0 (dG f b refs 0::ts) w':=by
 apply MN;unfold FJ;refine gf (cs:=[ah af 0,aa p refs.length cc,ba]) (by simp) (λ X R N z1=> ?_);have u:=q.ob R N rfl (by omega);generalize (⟨w.heap.size,0,none⟩:al)=s at u⊢;have h:∀{w:ak} {us},TS w0 us w->aJ s [ah af 0,aa p refs.length cc,ba]∈us->at_ w s (ah af 0)/\at_ w (s.add 1) (aa p refs.length cc)/\at_ w (s.add 2) ba:=λ q c=>⟨by
  have:=q.at c 0 rfl;rwa[add_zero] at this,q.at c 1 rfl,q.at c 2 rfl⟩
 refine⟨_,_,_,(h u (by simp)).2.2, ?_⟩;refine MM (λ s' t P n C I Q H a b w'=>s=s'/\a=0/\b=0/\TS w0 (aJ s [ah af 0,aa p refs.length cc,ba]::ts) w') (λ _ _ _ _ _ _ _ _ _ _ _=>0) ⟨rfl,rfl,rfl,u⟩ ?_;rintro _ t P n C I Q H _ _ Z ⟨rfl,rfl,rfl,E⟩;unfold tU;refine aT rfl ⟨_,(h E (by simp)).1,cJ rfl ⟨_,_,_,(h E (by simp)).2.1,aF (k53 E.tail c J) ?_⟩⟩;rintro x W G;have K:cP cO 1 W x refs:=G.get (t:=aO cO 1 x refs) (by simp);obtain⟨xp,xc,rfl,_⟩:=aX.ex K.cV;refine⟨_,_,_,rfl,aF (k52 G) ?_⟩;rintro _ w4 ⟨f,b,rfl,U⟩;exact⟨_,rfl,f,b,rfl,U⟩
theorem V8{w:ak}:au ag 143 #[] w λ r w'=>r=cG 312 (aV #[aA])/\w'=w:=ac2 ⟨rfl,rfl⟩
theorem anm(q:TS w0 ts w):au ag 146 #[cG 208 (an (some f)),cG 208 (an (some g))] w λ y w'=>∃rm,y=cG 319 (an (some rm))/\TS w0 (aJ rm (gh f g 0 false false false)::ts) w':=by
 apply Yu;unfold v146;refine aF V8 ?_;rintro _ c ⟨rfl,rfl⟩;refine⟨_,rfl,aQ false,λ w=>by kernel_rfl,_,rfl,aT rfl (aF V8 ?_)⟩;rintro _ c ⟨rfl,rfl⟩;refine⟨_,rfl,aQ false,λ w=>by kernel_rfl,_,rfl,aT rfl ?_⟩;refine aF (Yv (K:=λ y w'=>∃rm,y=an (some rm)/\TS w0 (aJ rm (gh f g 0 false false false)::ts) w') ?_) ?_
 ·unfold MO;refine D4 (D4 ?_);exact gf (cs:=gh f g 0 false false false) (by simp[gh]) (λ c u h H=>⟨_,rfl,q.ob u h rfl (by omega)⟩)
 ·rintro _ G ⟨rm,rfl,E⟩;exact⟨_,rfl,rm,rfl,E⟩
end
def kO(t:dg):List ay:=[ah af 0,b9 t,ba]
def oK(f:al):List ay:=[cG 208 (an (some f))]
theorem V9:gW ag 242 117 oK 1 16 [aA]:=
 ⟨⟨by kernel_rfl,by kernel_rfl,rfl,by decide⟩,λ _=>rfl,λ x u c=>by simp[oK] at c;subst c;rfl⟩
theorem V_(x:al)(w:ak):(bw 242 1 #[(0,cG 208 (an (some x)))]).run ag w= .ok (aa (some ⟨w.heap.size,0,none⟩) 1 1) (w.alloc (.cells ⟨oK x⟩ 117)):=by kernel_rfl
section
variable{w0 w w':ak}{ts us:List LT}{p:Option al}{cc:Nat}{f g rm:al}{r r':Option Nat}{l l':List Nat}{v x:ay}{o t:LT}{p1 p2 p3:Option al}{d1 d2 d3:Nat}
def lB(p1 p2 p3:Option al)(d1 d2 d3:Nat):List LT:=[ie kO 3 (aa p3 2 d3) [(p1,2,d1),(p2,1,d2)],ie cO 1 (aa p1 2 d1) [1,2],ie cO 1 (aa p2 1 d2) [2]]
theorem ann(q:TS w0 (lB p1 p2 p3 d1 d2 d3++ts) w):
  au ag 68 #[aV #[ah af 4,ba,aa p3 2 d3]] w λ y w'=>∃rm f b g b',y=cG 319 (an (some rm))/\TS w0 (aJ rm (gh f g 0 false false false)::dG f b [1,2] 0::dG g b' [2] 0::ts) w':=by
 apply MN;unfold FJ;refine gf (cs:=[ah af 4,ba,aa p3 2 d3]) (by simp) (λ w1 Q k1 z1=> ?_);have R:=q.ob Q k1 rfl (by omega);generalize (⟨w.heap.size,0,none⟩:al)=s at R⊢;have hs:∀{w:ak} {us},TS w0 us w->aJ s [ah af 4,ba,aa p3 2 d3]∈us->at_ w s (ah af 4)/\at_ w (s.add 2) (aa p3 2 d3):=λ q G=>⟨by
  have:=q.at G 0 rfl;rwa[add_zero] at this,q.at G 2 rfl⟩
 refine⟨_,_,_,(hs R (by simp)).2, ?_⟩;have DJ:=R.new (t:=aO oK 1 ba ([]:List al)) (Fr.refl _ _) (Own.nil _ _) (λ b hb=>by cases hb);have one:∀{w:ak} {us:List LT} {i:Nat} {pi:Option al} {di n:Nat} {refs:List Nat} {N:ay->ak->Prop},TS w0 us w->(hn:n=refs.length)->ie cO 1 (aa pi n di) refs∈us->refs.length<=1000->(∀f b w',TS w0 (dG f b refs 0::us) w'->N (cG 208 (an (some f))) w')->
   a_ w (.cells #[(ah af 0),(aa none 0 0),(aa none 0 0)] 74) λ r w1=>wr w1 (aw ⟨r,0,none⟩ 0) (ah af 0) λ w2=>wr w2 (aw ⟨r,0,none⟩ 1) (aa pi n di) λ w3=>wr w3 (aw ⟨r,0,none⟩ 2) (aa none 0 0) λ w4=>
    aD af (at_ w4 (aw ⟨r,0,none⟩ 0)) λ zT=>az (at_ w4 (aw ⟨r,0,none⟩ 1)) λ y9 X U=>az (at_ w4 (aw ⟨r,0,none⟩ 2)) λ sV Z W=>au ag 68 #[(aV #[(ah af zT),(aa y9 X U),(aa sV Z W)])] w4 λ y8 w5=>aM (ax y8) λ v=>N v w5:=by
  intro w us i pi di n refs N q hn G hl J;subst hn;refine vA (a:=ah af 0) (b:=aa pi refs.length di) (c:=ba) trivial trivial trivial (λ w1 Q k1 z1=> ?_);have R:=q.aH k1;refine⟨_,Q.at 0 rfl,_,_,_,Q.at 1 rfl,_,_,_,Q.at 2 rfl,aF (anl R G hl) ?_⟩;rintro _ w2 ⟨f,b,rfl,E⟩;exact⟨_,rfl,J f b w2 E⟩
 refine MM (λ s' t P n C P' n' C' a b w'=>s=s'/\p3=P'/\n'=2/\d3=C'/\a=2/\((b=0/\n=0/\TS w0 (aO oK 1 (aa P 0 C) []::aJ s [ah af 4,ba,aa p3 2 d3]::(lB p1 p2 p3 d1 d2 d3++ts)) w')\/(b=1/\n=1/\∃f r,TS w0 (aO oK 1 (aa P 1 C) [f]::dG f r [1,2] 0::aJ s [ah af 4,ba,aa p3 2 d3]::(lB p1 p2 p3 d1 d2 d3++ts)) w')\/(b=2/\n=2/\∃f r g r',TS w0 (aO oK 1 (aa P 2 C) [f,g]::dG g r' [2] 0::dG f r [1,2] 0::aJ s [ah af 4,ba,aa p3 2 d3]::(lB p1 p2 p3 d1 d2 d3++ts)) w')))
  (λ _ _ _ _ _ _ _ _ a b _=>(a-b).toNat) ⟨rfl,rfl,rfl,rfl,rfl, .inl ⟨rfl,rfl,DJ⟩⟩ ?_
 have row:∀{w:ak} {us:List LT} {i:Nat} {K:al->Prop},TS w0 us w->ie kO 3 (aa p3 2 d3) [(p1,2,d1),(p2,1,d2)]∈us->(hi:i<2)->(∀a,at_ w (a.add 0) (ah af 0)->at_ w (a.add 1) (b9 ([(p1,2,d1),(p2,1,d2)][i]'hi))->at_ w (a.add 2) ba->K a)->aU p3 2 (i:Int) 3 K:=λ{w us i K} q G hi J=>by
  have h:Sl kO 3 w (aa p3 2 d3) [(p1,2,d1),(p2,1,d2)]:=q.get G;exact Sl.ix (enc:=kO) (z:=3) (l:=[(p1,2,d1),(p2,1,d2)]) (λ _=>rfl) (by omega) h (by omega) (by simp;omega) (λ a _ H=>J a (H 0 _ rfl) (by
   have u:=H 1 _ rfl;have e:([(p1,2,d1),(p2,1,d2)]:List dg)[((i:Nat):Int).toNat]'(by simp;omega)=[(p1,2,d1),(p2,1,d2)][i]:=by congr 1
   rw[e] at u;exact u) (H 2 _ rfl))
 rintro _ t P n C _ _ _ _ b w2⟨rfl,rfl,rfl,rfl,rfl,⟨rfl,rfl,E⟩|⟨rfl,rfl,f,r,E⟩|⟨rfl,rfl,f,r,g,r',E⟩⟩
 ·unfold tU;refine cJ rfl (row (i:=0) E (by simp[lB]) (by omega) (λ a h0 u h2=>⟨_,h0,_,_,_,u,_,_,_,h2, ?_⟩));refine one (i:=0) (refs:=[1,2]) E rfl (by simp[lB]) (by simp) (λ f b w3 I=> ?_);refine(I.perm (d_ _ _ _)).kB V9 (x:=f) (V_ f w3) (by simp) (by simp) (λ p6 c6 w6 q6 _=> ?_);exact⟨⟨rfl,rfl,rfl,rfl,rfl, .inr (.inl ⟨rfl,rfl,f,b,q6⟩)⟩,by decide⟩
 ·unfold tU;refine cJ rfl (row (i:=1) E (by simp[lB]) (by omega) (λ a h0 u h2=>⟨_,h0,_,_,_,u,_,_,_,h2, ?_⟩));refine one (i:=0) (refs:=[2]) E rfl (by simp[lB]) (by simp) (λ g b w3 I=> ?_);refine(I.perm (d_ _ _ _)).kB V9 (x:=g) (V_ g w3) (by simp) (by simp) (λ p6 c6 w6 q6 _=> ?_);exact⟨⟨rfl,rfl,rfl,rfl,rfl, .inr (.inr ⟨rfl,rfl,f,r,g,b,q6⟩)⟩,by decide⟩
 ·unfold tU;have hg:∀{w:ak} {us} {i:Nat} {K:al->Prop},TS w0 us w->aO oK 1 (aa P 2 C) [f,g]∈us->(hi:i<2)->(∀a,at_ w a (cG 208 (an (some ([f,g][i]'hi))))->K a)->aU P 2 (i:Int) 1 K:=λ{w us i K} q G hi J=>by
   have ho:cP oK 1 w (aa P 2 C) [f,g]:=q.get G;exact Sl.ix (enc:=oK) (z:=1) (l:=[f,g]) (λ _=>rfl) (by omega) ho.cV (by omega) (by simp;omega) (λ a _ H=>J a (by
    have u:=H 0 _ rfl;rw[add_zero] at u;have e:[f,g][((i:Nat):Int).toNat]'(by simp;omega)=[f,g][i]:=by congr 1
    rw[e] at u;exact u))
  have I:=E.drew;refine aT rfl ⟨_,(hs E (by simp)).1,aT rfl (aT rfl (aT rfl (aT rfl (cJ rfl ?_))))⟩;refine hg (i:=0) I (by simp) (by omega) (λ a H=>⟨_,H,hg (i:=1) I (by simp) (by omega) (λ a' uK=>⟨_,uK, ?_⟩)⟩);refine aF (anm I) ?_;rintro _ w4 ⟨rm,rfl,q4⟩;refine⟨_,rfl,rm,f,r,g,r',rfl, ?_⟩;have q5:=q4.sub (us:=aJ rm (gh f g 0 false false false)::dG g r' [2] 0::dG f r [1,2] 0::ts) (.cons_cons _ (.cons _ (.cons_cons _ (.cons_cons _ (.cons _ (List.sublist_append_right _ _))))));exact q5.perm (List.Perm.cons _ (d_ _ _ _))
end
theorem permA{α:Type}(a b c d:α)(ss ts:List α):(a::b::c::d::(ss++ts)).Perm (c::b::d::(ss++(a::ts))):=by
 classical
 rw[oV];intro z;simp only[oW,List.count_append];omega
section
variable{w0 w w':ak}{ts us:List LT}{p:Option al}{cc:Nat}{f g rm:al}{r r':Option Nat}{l l':List Nat}{v x:ay}{o t:LT}{p1 p2 p3:Option al}{d1 d2 d3:Nat}{c0 c1 c2:al}
theorem ano{w:ak}{a b c:Option al}{K:ay->ak->Prop}(h:au ag 66 #[an a,an b,an c] w K):eJ ag (.func (.func 66) #[] #[an a,an b,an c]) #[] w K:=⟨66,_,by kernel_rfl,h⟩
theorem TS.flag{us:List LT}{g:Nat}(q:TS w0 us w)(k:aS w w')(y:w.heap.size<=g)(c:Ob w' ⟨g,0,none⟩ [aQ false]):TS w0 (aJ ⟨g,0,none⟩ [aQ false]::us) w':=
 q.new (t:=aJ ⟨g,0,none⟩ [aQ false]) k c (λ b h=>by
  have u:b=g:=h;have:=c.lt (by simp);simp only at this;omega)
theorem TS.V'{us:List LT}{g:Nat}(q:TS w0 (aJ ⟨g,0,none⟩ [aQ false]::us) w)(f:Fr (λ b _=>b=g) w w'):TS w0 us w':=
 (q.ey (t':=KR (λ b=>b=g)) f (λ b o c=>c) trivial (λ b h=> .inl h)).tail
theorem k66(q:TS w0 (aJ c1 [ba]::aJ c2 [aQ false]::aJ c0 [ah af 4,ba,aa p3 2 d3]::(lB p1 p2 p3 d1 d2 d3++ts)) w):
  au ag 66 #[an (some c0),an (some c1),an (some c2)] w λ y w'=>∃P C,TS w0 (aJ c1 [aa P 1 C]::aJ c2 [aQ true]::aO cO 1 (aa P 1 C) [1]::ts) w':=by
 apply Ys;unfold MF;have c:∀{i v},[ah af 4,ba,aa p3 2 d3][i]? =some v->at_ w (c0.add i) v:=λ J=>q.at (a:=c0) (cs:=[ah af 4,ba,aa p3 2 d3]) (by simp) _ J
 refine⟨_,c (i:=0) rfl,_,_,_,c (i:=1) rfl,_,_,_,c (i:=2) rfl, ?_⟩;have K:=q.perm (us:=lB p1 p2 p3 d1 d2 d3++(aJ c1 [ba]::aJ c2 [aQ false]::aJ c0 [ah af 4,ba,aa p3 2 d3]::ts)) (List.perm_append_comm_assoc [_,_,_] (lB p1 p2 p3 d1 d2 d3) ts);refine aF (ann K) ?_;rintro _ W ⟨rm,f,b,g,U,rfl,N⟩;refine⟨_,rfl,aF (ank N) ?_⟩;rintro _ R ⟨x,rfl,E⟩;have I:cP cO 1 R x [1]:=E.get (t:=aO cO 1 x [1]) (by simp);obtain⟨P,C,rfl,_⟩:=aX.ex I.cV;refine⟨_,_,rfl,_,_,_,rfl,_,rfl, ?_⟩;obtain⟨h,G⟩:=E.fq (pre:=[aO cO 1 _ _]) (a:=c1) (cs:=[ba]) 0 (by simp) (aa P 1 C);rw[add_zero] at h G;refine⟨⟨trivial,h⟩, ?_⟩;obtain⟨u,H⟩:=G.fq (pre:=[aO cO 1 _ _,aJ c1 _]) (a:=c2) (cs:=[aQ false]) 0 (by simp) (aQ true);rw[add_zero] at u H;refine⟨⟨trivial,u⟩,P,C, ?_⟩;have Q:=H.sub (us:=aO cO 1 (aa P 1 C) [1]::aJ c1 [aa P 1 C]::aJ c2 [aQ true]::ts) (.cons_cons _ (.cons_cons _ (.cons_cons _ (.cons _ (lE _)))));exact Q.perm (gI (l₁:=[aJ c1 _,aJ c2 _])).symm
theorem k32(q:TS w0 (lB p1 p2 p3 d1 d2 d3++ts) w):
  au ag 32 #[aV #[ah af 4,ba,aa p3 2 d3]] w λ y w'=>∃P C,y=aZ #[aa P 1 C,aQ true]/\TS w0 (aO cO 1 (aa P 1 C) [1]::ts) w':=by
 apply Yr;unfold ME;refine gf (cs:=[ah af 4,ba,aa p3 2 d3]) (by simp) (λ w1 o1 X z1=> ?_);have J:=q.ob o1 X rfl (by omega);generalize (⟨w.heap.size,0,none⟩:al)=c0 at J⊢;refine gf (cs:=[ba]) (by simp) (λ w2 o2 Z z2=> ?_);have K:=J.ob o2 Z rfl (by omega);generalize (⟨w1.heap.size,0,none⟩:al)=c1 at K⊢;refine gf (cs:=[aQ false]) (by simp) (λ w3 o3 k3 z3=> ?_);have N:=K.ob o3 k3 rfl (by omega);generalize (⟨w2.heap.size,0,none⟩:al)=c2 at N⊢;refine DT (λ w4 g k4 W og=> ?_);have q4:=N.flag k4 W og;have q5:=q4.perm (us:=aJ c1 [ba]::aJ c2 [aQ false]::aJ c0 [ah af 4,ba,aa p3 2 d3]::(lB p1 p2 p3 d1 d2 d3++(aJ ⟨g,0,none⟩ [aQ false]::ts))) (permA _ _ _ _ _ _);refine ano (aF (k66 q5) ?_);rintro _ w6 ⟨P,C,Q⟩;refine⟨Q.get (t:=aJ ⟨g,0,none⟩ [aQ false]) (by simp),λ w7 U=>⟨_,rfl, ?_⟩⟩;have u:=(Q.perm (us:=aJ ⟨g,0,none⟩ [aQ false]::aJ c1 [aa P 1 C]::aJ c2 [aQ true]::aO cO 1 (aa P 1 C) [1]::ts) (gI (l₁:=[_,_,_]))).V' U;have E:∀{w:ak} {us},TS w0 us w->aJ c1 [aa P 1 C]∈us->at_ w c1 (aa P 1 C):=λ q h=>q.ei h
 have G:∀{w:ak} {us},TS w0 us w->aJ c2 [aQ true]∈us->at_ w c2 (aQ true):=λ q h=>q.ei h
 refine⟨_,_,_,E u (by simp),_,G u (by simp),cJ rfl ?_⟩;obtain⟨H,R⟩:=u.wr 0 (by simp) (aa P 1 C);rw[add_zero] at H R;refine⟨⟨trivial,H⟩, ?_⟩;obtain⟨I,c⟩:=R.fq (pre:=[aJ c1 _]) (a:=c2) (cs:=[aQ true]) 0 (by simp) (aQ true);rw[add_zero] at I c;refine⟨⟨trivial,I⟩, ?_⟩;generalize nI _ c2 _=w9 at c⊢;have c:TS w0 (aJ c1 [aa P 1 C]::aJ c2 [aQ true]::aO cO 1 (aa P 1 C) [1]::ts) w9:=c;exact⟨_,_,_,E c (by simp),_,G c (by simp),P,C,rfl,c.tail.tail⟩
end
theorem Wa{w0 w:ak}{ts:List LT}{f:ay}{n:Nat}{pr:Nat->Bool}(U:n<=40000)(N:∀k,k<n->∀w,TS w0 ts w->eJ ag f #[ah af (k:Int)] w λ r w'=>r=aQ (pr k)/\TS w0 ts w')(q:TS w0 ts w):
  au ag 148 #[ah af (n:Int),f] w λ r w'=>(∃i:Nat,r=ah af (i:Int)/\i<=n/\(0<i->pr (i-1)=false)/\(i<n->pr i=true))/\TS w0 ts w':=by
 apply Nd;unfold v148;refine Nc (λ J i j w'=>f=J/\∃a b:Nat,i=(a:Int)/\j=(b:Int)/\a<=b/\b<=n/\(0<a->pr (a-1)=false)/\(b<n->pr b=true)/\TS w0 ts w') (λ _ i j _=>(j-i).toNat) ?_ ?_
 ·exact⟨rfl,0,n,rfl,rfl,by omega,by omega,by omega,by omega,q⟩
 ·rintro _ _ _ w ⟨rfl,a,b,rfl,rfl,R,K,u,y,q⟩;unfold A8;refine bn (λ c=> ?_) (λ c=> ?_)
  ·have Q:a<b:=by simp at c;omega
   rw[Vg (by omega)];obtain⟨g,G,H,I⟩:=N ((a+b)/2) (by omega) w q;refine⟨g,G,H,aF I ?_⟩;rintro _ w' ⟨rfl,E⟩;refine⟨_,rfl,bn (λ h=> ?_) (λ h=> ?_)⟩
   ·rw[show aq af ((((a+b)/2:Nat):Int)+1)=(((a+b)/2+1:Nat):Int) by rw[bk (by omega) (by omega)];omega];exact⟨⟨rfl,(a+b)/2+1,b,rfl,rfl,by omega,K,λ _=>by simpa using h,y,E⟩,by omega⟩
   ·exact⟨⟨rfl,a,(a+b)/2,rfl,rfl,by omega,by omega,u,λ _=>by simpa using h,E⟩,by omega⟩
  ·have:a=b:=by simp at c;omega
   subst this;exact⟨⟨a,rfl,by omega,u,y⟩,q⟩
def c_(x:Int×Int):List ay:=[ah af x.1,ah af x.2]
theorem Wb:gW ag 143 145 c_ 2 16 [ah af 0,ah af 0]:=
 ⟨⟨by kernel_rfl,by kernel_rfl,rfl,by decide⟩,λ _=>rfl,λ x u c=>by simp[c_] at c;rcases c with rfl|rfl<;>rfl⟩
theorem anr(x:Int×Int)(w:ak):(bw 143 1 #[(0,aV #[ah af x.1,ah af x.2])]).run ag w= .ok (aa (some ⟨w.heap.size,0,none⟩) 1 1) (w.alloc (.cells ⟨c_ x⟩ 145)):=by kernel_rfl
theorem ans:gW ag 75 78 c_ 2 16 [ah af 0,ah af 0]:=
 ⟨⟨by kernel_rfl,by kernel_rfl,rfl,by decide⟩,λ _=>rfl,λ x u c=>by simp[c_] at c;rcases c with rfl|rfl<;>rfl⟩
theorem ant(x:Int×Int)(w:ak):(bw 75 1 #[(0,aV #[ah af x.1,ah af x.2])]).run ag w= .ok (aa (some ⟨w.heap.size,0,none⟩) 1 1) (w.alloc (.cells ⟨c_ x⟩ 78)):=by kernel_rfl
section
variable{w0 w w':ak}{ts us:List LT}{p:Option al}{cc:Nat}{v x:ay}{ci cn cm:al}{g C:Nat}
theorem anu(q:TS w0 ts w):au ag 70 #[ba,aV #[ah af 1,ah af 2]] w λ y w'=>TS w0 (aO c_ 2 y [(1,2)]::ts) w':=by
 apply M9;unfold v70;refine gf (cs:=[ba]) (by simp) (λ U K I Z=> ?_);have E:=q.ob K I rfl (by omega);generalize (⟨w.heap.size,0,none⟩:al)=ci at E⊢;refine gf (cs:=[ah af 1,ah af 2]) (by simp) (λ h N J z2=> ?_);have c:=E.ob N J rfl (by omega);generalize (⟨U.heap.size,0,none⟩:al)=cn at c⊢;have r:at_ h ci ba:=c.ei (by simp);have u:∀i {v},[ah af 1,ah af 2][i]? =some v->at_ h (cn.add i) v:=λ i v H=>c.at (a:=cn) (cs:=[ah af 1,ah af 2]) (by simp) i H
 refine⟨_,_,_,r,cJ rfl ⟨_,_,_,r,_,u 0 rfl,_,u 1 rfl, ?_⟩⟩;have Q:=c.tail.tail.new (t:=aO c_ 2 ba ([]:List (Int×Int))) (Fr.refl _ _) (Own.nil _ _) (λ b G=>by cases G);refine Q.kB Wb (x:=(1,2)) (anr (1,2) h) (by simp) (by simp) (λ W c6 X R _=>R)
theorem anv{w:ak}{x:ay}{a b:Option al}{K:ay->ak->Prop}(h:au ag 149 #[x,an a,an b] w K):eJ ag (.func (.func 149) #[] #[an a,an b]) #[x] w K:=⟨149,_,by kernel_rfl,h⟩
theorem anw{w:ak}{x:ay}{a b c:Option al}{K:ay->ak->Prop}(h:au ag 150 #[x,an a,an b,an c] w K):eJ ag (.func (.func 150) #[] #[an a,an b,an c]) #[x] w K:=⟨150,_,by kernel_rfl,h⟩
theorem D7{m:Int}{K:al->Prop}(q:TS w0 us w)(u:aO c_ 2 (aa (some ⟨g,0,none⟩) 1 C) [(1,m)]∈us)(r:∀a:al,at_ w a (ah af 1)->at_ w (a.add 1) (ah af m)->K a):aU (some ⟨g,0,none⟩) 1 0 2 K:=by
 have y:cP c_ 2 w (aa (some ⟨g,0,none⟩) 1 C) [(1,m)]:=q.get u;exact Sl.ix (enc:=c_) (z:=2) (l:=[((1:Int),m)]) (λ _=>rfl) (by omega) y.cV (by omega) (by simp) (λ a _ c=>r a (by
  have h:=c 0 _ rfl;rwa[add_zero] at h) (c 1 _ rfl))
theorem anx(q:TS w0 (aO c_ 2 (aa (some ⟨g,0,none⟩) 1 C) [(1,2)]::us) w)(u:aJ ci [aa (some ⟨g,0,none⟩) 1 C]∈us)(y:aJ cn [ah af 3,ah af 4]∈us):
  au ag 149 #[ah af 0,an (some ci),an (some cn)] w λ r w'=>r=aQ true/\TS w0 (aO c_ 2 (aa (some ⟨g,0,none⟩) 1 C) [(1,2)]::us) w':=by
 apply YO;unfold Nf;have c:=q.drew;have h:=c.at (jI _ y) 0 rfl;rw[add_zero] at h;exact⟨_,_,_,c.ei (jI _ u),D7 (C:=C) (m:=2) c (by simp) (λ a _ E=>⟨_,E,_,h,rfl,c⟩)⟩
theorem anz(q:TS w0 (aO c_ 2 (aa (some ⟨g,0,none⟩) 1 C) [(1,2)]::us) w)(h:aJ ci [aa (some ⟨g,0,none⟩) 1 C]∈us)(u:aJ cn [ah af 3,ah af 4]∈us)(y:aJ cm [ah af 0]∈us):
  au ag 150 #[ah af 0,an (some ci),an (some cm),an (some cn)] w λ r w'=>r=aQ false/\TS w0 (aO c_ 2 (aa (some ⟨g,0,none⟩) 1 C) [(1,2)]::us) w':=by
 apply YP;unfold Ng;have c:=q.drew;exact⟨_,_,_,c.ei (jI _ h),_,c.ei (jI _ y),D7 (C:=C) (m:=2) c (by simp) (λ a E _=>⟨_,E,_,c.at (jI _ u) 1 rfl,rfl,c⟩)⟩
theorem anA(q:TS w0 (aO c_ 2 (aa (some ⟨g,0,none⟩) 1 C) [(1,2)]::us) w):V.can w (aw ⟨g,0,none⟩ 1)/\TS w0 (aO c_ 2 (aa (some ⟨g,0,none⟩) 1 C) [(1,4)]::us) (w.setCell (aw ⟨g,0,none⟩ 1) (ah af 4)):=by
 have u:cP c_ 2 w (aa (some ⟨g,0,none⟩) 1 C) [((1:Int),(2:Int))]:=q.get (t:=aO c_ 2 (aa (some ⟨g,0,none⟩) 1 C) [((1:Int),(2:Int))]) (by simp);have c:Ob w ⟨g,0,none⟩ [ah af 1,ah af 2]:=u.ob;have r:=Fr.set w (aw ⟨g,0,none⟩ 1) (ah af 4);refine⟨c.can 1 (by simp),q.ey (t':=aO c_ 2 (aa (some ⟨g,0,none⟩) 1 C) [((1:Int),(4:Int))]) r (λ b o h=>by
  have:=h.1;rw[cT] at this;show some g=some b;rw[this]) ?_ (λ b y=> .inl y)⟩
 exact Own.Iy (vs':=[ah af 1,ah af 4]) u rfl (c.set 1 (by simp) (ah af 4)) r (λ o E h=>by
  have:=h.2;rw[fJ] at this;simp only at this;have e:[((1:Int),(4:Int))].length*2=2:=rfl;omega)
theorem anB(q:TS w0 (aO c_ 2 (aa (some ⟨g,0,none⟩) 1 C) [(1,2)]::ts) w)(hC:1<=C):au ag 70 #[aa (some ⟨g,0,none⟩) 1 C,aV #[ah af 3,ah af 4]] w λ y w'=>TS w0 (aO c_ 2 y [(1,4)]::ts) w':=by
 apply M9;unfold v70;refine gf (cs:=[aa (some ⟨g,0,none⟩) 1 C]) (by simp) (λ w1 o1 k1 z1=> ?_);have q1:=q.ob o1 k1 rfl (by omega);generalize (⟨w.heap.size,0,none⟩:al)=ci at q1⊢;refine gf (cs:=[ah af 3,ah af 4]) (by simp) (λ w2 o2 k2 z2=> ?_);have q2:=q1.ob o2 k2 rfl (by omega);generalize (⟨w1.heap.size,0,none⟩:al)=cn at q2⊢;have ai:∀{w:ak} {us},TS w0 us w->aJ ci [aa (some ⟨g,0,none⟩) 1 C]∈us->at_ w ci (aa (some ⟨g,0,none⟩) 1 C):=λ q K=>q.ei K
 have W:∀{w:ak} {us},TS w0 us w->aJ cn [ah af 3,ah af 4]∈us->at_ w cn (ah af 3)/\at_ w (cn.add 1) (ah af 4):=λ q K=>⟨by
  have:=q.at K 0 rfl;rwa[add_zero] at this,q.at K 1 rfl⟩
 refine⟨_,_,_,ai q2 (by simp),aT rfl ?_⟩;refine lW (a:=ah af 0) trivial (λ w3 o3 k3 z3=> ?_);have N:=q2.ob o3 k3 rfl (by omega);generalize (⟨w2.heap.size,0,none⟩:al)=cm at N⊢;have am:∀{w:ak} {us},TS w0 us w->aJ cm [ah af 0]∈us->at_ w cm (ah af 0):=λ q K=>q.ei K
 refine⟨_,(W N (by simp)).1,cJ rfl ⟨_,_,_,ai N (by simp), ?_⟩⟩;have N:=N.perm (us:=aO c_ 2 (aa (some ⟨g,0,none⟩) 1 C) [(1,2)]::aJ cm [ah af 0]::aJ cn [ah af 3,ah af 4]::aJ ci [aa (some ⟨g,0,none⟩) 1 C]::ts) (gI (l₁:=[_,_,_]));refine aF (Wa (n:=1) (pr:=λ _=>true) (by omega) (λ k hk w q=>anv (by
  have H:k=0:=by omega
  subst H;exact anx q (by simp) (by simp))) N) ?_
 rintro _ w4⟨⟨i,rfl,hi,I,_⟩,q4⟩;have sY:i=0:=by
  rcases Nat.eq_zero_or_pos i with h|h
  ·exact h
  ·exact absurd (I h) (by simp)
 subst sY;obtain⟨g5,u⟩:=q4.fq (pre:=[aO c_ 2 _ _]) (a:=cm) (cs:=[ah af 0]) 0 (by simp) (ah af 0);rw[add_zero] at g5 u;refine⟨_,rfl,⟨trivial,g5⟩, ?_⟩;generalize KE:nI _ cm _=w5;have u:TS w0 (aO c_ 2 (aa (some ⟨g,0,none⟩) 1 C) [(1,2)]::aJ cm [ah af 0]::aJ cn [ah af 3,ah af 4]::aJ ci [aa (some ⟨g,0,none⟩) 1 C]::ts) w5:=by rw[<-KE];exact u
 refine⟨_,am u (by simp),_,_,_,ai u (by simp),aT rfl ?_⟩;unfold A5;refine⟨_,_,_,ai u (by simp),_,(W u (by simp)).2,cJ rfl ⟨_,_,_,ai u (by simp),_,am u (by simp), ?_⟩⟩;refine aF (Wa (n:=1) (pr:=λ _=>false) (by omega) (λ k hk w q=>anw (by
  have H:k=0:=by omega
  subst H;exact anz q (by simp) (by simp) (by simp))) u) ?_
 rintro _ w6⟨⟨i,rfl,hi,_,I⟩,q6⟩;have vn:i=1:=by
  rcases Nat.lt_or_ge i 1 with h|h
  ·exact absurd (I h) (by simp)
  ·omega
 subst vn;refine⟨_,rfl,aT rfl ?_⟩;unfold A4;have U:=q6.drew;refine⟨_,(W U (by simp)).1,_,_,_,ai U (by simp),_,am U (by simp),D7 (C:=C) (m:=2) U (by simp) (λ a Z _=>⟨_,Z,aT rfl ?_⟩)⟩;unfold A3;have J:=U.drew;refine⟨_,_,_,ai J (by simp),_,am J (by simp),_,(W J (by simp)).2,_,_,_,ai J (by simp),_,am J (by simp),D7 (C:=C) (m:=2) J (by simp) (λ a _ Z=>⟨_,Z,⟨by decide,by decide⟩, ?_⟩)⟩;obtain⟨g9,q9⟩:=anA J;refine⟨⟨trivial,g9⟩, ?_⟩;have ew:(if(2:Int)>4 then(2:Int) else 4)=4:=by decide
 rw[ew];generalize hw9:nI _ _ _=w9;have q9:TS w0 (aO c_ 2 (aa (some ⟨g,0,none⟩) 1 C) [(1,4)]::aJ cm [ah af 0]::aJ cn [ah af 3,ah af 4]::aJ ci [aa (some ⟨g,0,none⟩) 1 C]::ts) w9:=by rw[<-hw9];exact q9
 have c:=q9.drew;have ou:∀(k:Nat),qa (some (⟨g,0,none⟩:al)) 0 k 2=some ⟨g,0,none⟩:=λ k=>by
  unfold qa;split<;>simp
 refine⟨_,_,_,ai c (by simp),_,am c (by simp),_,λ w=>gV (e:=145) (by kernel_rfl) (z:=2) (by kernel_rfl) (some ⟨g,0,none⟩) 1 C 0 1 (by omega) hC none _ (.inl ⟨rfl,rfl⟩) (.inr ⟨_,rfl⟩) w,_,_,_,rfl,_,_,_,ai c (by simp),_,am c (by simp),_,λ w=>gV (e:=145) (by kernel_rfl) (z:=2) (by kernel_rfl) (some ⟨g,0,none⟩) 1 C 1 1 (by omega) hC _ none (.inr ⟨_,rfl⟩) (.inl ⟨rfl,rfl⟩) w,_,_,_,rfl, ?_⟩;rw[ou C];have ho:cP c_ 2 w9.drew (aa (some ⟨g,0,none⟩) 1 C) [((1:Int),(4:Int))]:=c.get (t:=aO c_ 2 (aa (some ⟨g,0,none⟩) 1 C) [((1:Int),(4:Int))]) (by simp);refine oi (enc:=c_) (l:=[((1:Int),(4:Int))]) (m:=([]:List (Int×Int))) Wb ho (aX.nil _ _ _ _) (by simp) (by simp) (λ R Q gA G hf lQ=> ?_);have r:=c.ey (t':=aO c_ 2 (aa R 1 Q) [((1:Int),(4:Int))]) (hf.mono (λ b o _ X=>X.1)) (λ b o X=>X) G (λ b hb=>by
  rcases lQ with h1|⟨g,hg,nW⟩
  ·have E:aN (aa R 1 Q)=some b:=hb;exact .inl (show aN (aa (some ⟨g,0,none⟩) 1 C)=some b from(show aN (aa (some ⟨g,0,none⟩) 1 C)=aN (aa R 1 Q) from h1.symm).trans E)
  ·have E:aN (aa R 1 Q)=some b:=hb;have yD:aN (aa R 1 Q)=some g:=hg;rw[yD] at E;cases E;exact .inr ⟨nW,G.lt hg⟩)
 exact⟨am r (by simp),ai r (by simp),am r (by simp),ai r (by simp),r.sub (.cons_cons _ (.cons _ (.cons _ (.cons _ (lE _)))))⟩
end
section
variable{w0 w w':ak}{ts us:List LT}{p:Option al}{cc:Nat}{v x:ay}{c0 c1 e:al}{g C d:Nat}
theorem anC{P:Option al}{a:Int×Int}(h:cP c_ 2 w (aa P 1 C) [a]):∃g,P=some ⟨g,0,none⟩/\1<=C:=by
 rcases h.2 with⟨c,_⟩|⟨g,cap,cur,e,c,_,q,_⟩
 ·cases c
 ·cases c;exact⟨g,rfl,q⟩
theorem KZ{w:ak}{h q a b:ay}{ty:cK}{K:Nat->ak->Prop}(u:gj a)(y:gj b)(E:∀w',Ob w' ⟨w.heap.size,0,none⟩ [a,b]->aS w w'->K w.heap.size w'):
  a_ w (.cells #[h,q] ty) λ r H=>wr H (aw ⟨r,0,none⟩ 0) a λ I=>wr I (aw ⟨r,0,none⟩ 1) b λ J=>K r J:=Ji u y (λ w' G c _=>E w' G c)
theorem k71{l:List (Int×Int)}(q:TS w0 (aO c_ 2 x l::ts) w)(hl:l.length<=1000):
  au ag 71 #[x] w λ r w'=>TS w0 (aO c_ 2 r l::aO c_ 2 x l::ts) w':=by
 have U:cP c_ 2 w x l:=q.get (t:=aO c_ 2 x l) (by simp);obtain⟨p,cc,rfl,_⟩:=aX.ex U.cV;apply YN;unfold Na;have q0:=q.new (t:=aO c_ 2 ba ([]:List (Int×Int))) (Fr.refl _ _) (Own.nil _ _) (λ b Q=>by cases Q);refine YM (λ P k C p' Z N t7 t8 w'=>p=p'/\Z=l.length/\cc=N/\t7=(l.length:Int)/\t8=(k:Int)/\k<=l.length/\TS w0 (aO c_ 2 (aa P k C) (l.take k)::aO c_ 2 (aa p l.length cc) l::ts) w') (λ _ k _ _ _ _ _ _ _=>l.length-k) ⟨rfl,rfl,rfl,rfl,rfl,dO _,q0⟩ ?_;rintro P k C _ _ _ _ _ w1 ⟨rfl,rfl,rfl,rfl,rfl,hk,c⟩;unfold FP;refine bn (λ h=> ?_) (λ h=> ?_)
 ·have E:k<l.length:=by simp at h;omega
  have G:cP c_ 2 w1 (aa p l.length cc) l:=c.get (t:=aO c_ 2 (aa p l.length cc) l) (by simp);refine Sl.ix (enc:=c_) (z:=2) (l:=l) (λ _=>rfl) (by omega) G.cV (by omega) (by omega) (λ a _ I=>⟨_,I 0 _ rfl,_,I 1 _ rfl, ?_⟩);have e:l[((k:Nat):Int).toNat]'(by simp;omega)=l[k]:=by congr 1
  rw[e];generalize W:l[k]=y;refine KZ (a:=ah af y.1) (b:=ah af y.2) trivial trivial (λ w2 J X=> ?_);have q2:=c.aH X;have K:=J.at 0 rfl;rw[add_zero] at K;refine⟨_,K,_,J.at 1 rfl, ?_⟩;have u:(l.take k).length=k:=by rw[fS];omega
  refine q2.kB ans (x:=y) (ant y w2) (by omega) (by omega) (λ p6 c6 w6 H _=> ?_);rw[u] at H⊢;rw[<-W,<-jm E] at H;rw[show aq af ((k:Int)+1)=((k+1:Nat):Int) by rw[bk (by omega) (by omega)];omega];exact⟨⟨rfl,rfl,rfl,rfl,rfl,by omega,H⟩,by omega⟩
 ·have R:k=l.length:=by simp at h;omega
  subst R;rw[fY] at c;exact c
theorem anE{w:ak}{a b:Option al}{K:ay->ak->Prop}(h:au ag 69 #[an a,an b] w K):eJ ag (.func (.func 69) #[] #[an a,an b]) #[] w K:=⟨69,_,by kernel_rfl,h⟩
theorem k69(q:TS w0 (aJ c1 [ba]::aJ c0 [aa p 2 d]::ie c_ 2 (aa p 2 d) [(1,2),(3,4)]::ts) w):
  au ag 69 #[an (some c0),an (some c1)] w λ r w'=>∃P C,TS w0 (aJ c1 [aa P 1 C]::aO c_ 2 (aa P 1 C) [(1,4)]::ts) w':=by
 apply YL;unfold M8;refine⟨_,_,_,q.ei (a:=c0) (v:=aa p 2 d) (by simp), ?_⟩;refine YK (λ c P n C p' n' c' a b w'=>c1=c/\p=p'/\n'=2/\d=c'/\a=2/\((b=0/\P=none/\n=0/\C=0/\TS w0 (aJ c1 [ba]::aJ c0 [aa p 2 d]::ie c_ 2 (aa p 2 d) [(1,2),(3,4)]::ts) w')\/(b=1/\n=1/\TS w0 (aO c_ 2 (aa P 1 C) [(1,2)]::aJ c1 [ba]::aJ c0 [aa p 2 d]::ie c_ 2 (aa p 2 d) [(1,2),(3,4)]::ts) w')\/(b=2/\n=1/\TS w0 (aO c_ 2 (aa P 1 C) [(1,4)]::aJ c1 [ba]::aJ c0 [aa p 2 d]::ie c_ 2 (aa p 2 d) [(1,2),(3,4)]::ts) w')))
  (λ _ _ _ _ _ _ _ a b _=>(a-b).toNat) ⟨rfl,rfl,rfl,rfl,rfl, .inl ⟨rfl,rfl,rfl,rfl,q⟩⟩ ?_
 have row:∀{w:ak} {us:List LT} {i:Nat} {K:al->Prop},TS w0 us w->ie c_ 2 (aa p 2 d) [(1,2),(3,4)]∈us->(hi:i<2)->(∀a,at_ w (a.add 0) (ah af ([((1:Int),(2:Int)),(3,4)][i]'hi).1)->at_ w (a.add 1) (ah af ([((1:Int),(2:Int)),(3,4)][i]'hi).2)->K a)->aU p 2 (i:Int) 2 K:=λ{w us i K} q hm hi hk=>by
  have h:Sl c_ 2 w (aa p 2 d) [((1:Int),(2:Int)),(3,4)]:=q.get hm;exact Sl.ix (enc:=c_) (z:=2) (l:=[((1:Int),(2:Int)),(3,4)]) (λ _=>rfl) (by omega) h (by omega) (by simp;omega) (λ a _ X=>hk a (by
   have u:=X 0 _ rfl;have e:[((1:Int),(2:Int)),(3,4)][((i:Nat):Int).toNat]'(by simp;omega)=[((1:Int),(2:Int)),(3,4)][i]:=by congr 1
   rw[e] at u;exact u) (by
   have u:=X 1 _ rfl;have e:[((1:Int),(2:Int)),(3,4)][((i:Nat):Int).toNat]'(by simp;omega)=[((1:Int),(2:Int)),(3,4)][i]:=by congr 1
   rw[e] at u;exact u))
 rintro _ P n C _ _ _ _ b w2⟨rfl,rfl,rfl,rfl,rfl,⟨rfl,rfl,rfl,rfl,H⟩|⟨rfl,rfl,H⟩|⟨rfl,rfl,H⟩⟩
 ·unfold wX;refine cJ rfl (row (i:=0) H (by simp) (by omega) (λ a U u=>⟨_,U,_,u, ?_⟩));refine KZ (a:=ah af 1) (b:=ah af 2) trivial trivial (λ w3 N k3=> ?_);have Q:=N.at 0 rfl;rw[add_zero] at Q;refine⟨_,Q,_,N.at 1 rfl,aF (anu (H.aH k3)) ?_⟩;rintro y R E;have G:cP c_ 2 R y [((1:Int),(2:Int))]:=E.get (t:=aO c_ 2 y [((1:Int),(2:Int))]) (by simp);obtain⟨J,I,rfl,_⟩:=aX.ex G.cV;exact⟨_,_,_,rfl,⟨rfl,rfl,rfl,rfl,rfl, .inr (.inl ⟨rfl,rfl,E⟩)⟩,by decide⟩
 ·unfold wX;refine cJ rfl (row (i:=1) H (by simp) (by omega) (λ a U u=>⟨_,U,_,u, ?_⟩));refine KZ (a:=ah af 3) (b:=ah af 4) trivial trivial (λ w3 N k3=> ?_);have Q:=N.at 0 rfl;rw[add_zero] at Q;have Z:=H.aH k3;have G:cP c_ 2 w3 (aa P 1 C) [((1:Int),(2:Int))]:=Z.get (t:=aO c_ 2 (aa P 1 C) [((1:Int),(2:Int))]) (by simp);obtain⟨g,rfl,hC⟩:=anC G;refine⟨_,Q,_,N.at 1 rfl,aF (anB Z hC) ?_⟩;rintro y R E;have G:cP c_ 2 R y [((1:Int),(4:Int))]:=E.get (t:=aO c_ 2 y [((1:Int),(4:Int))]) (by simp);obtain⟨J,I,rfl,_⟩:=aX.ex G.cV;exact⟨_,_,_,rfl,⟨rfl,rfl,rfl,rfl,rfl, .inr (.inr ⟨rfl,rfl,E⟩)⟩,by decide⟩
 ·unfold wX;refine aT rfl (aF (k71 H (by simp)) ?_);rintro y R E;have G:cP c_ 2 R y [((1:Int),(4:Int))]:=E.get (t:=aO c_ 2 y [((1:Int),(4:Int))]) (by simp);obtain⟨J,I,rfl,_⟩:=aX.ex G.cV;refine⟨_,_,_,rfl, ?_⟩;obtain⟨W,q5⟩:=E.fq (pre:=[aO c_ 2 _ _,aO c_ 2 _ _]) (a:=c1) (cs:=[ba]) 0 (by simp) (aa J 1 I);rw[add_zero] at W q5;refine⟨⟨trivial,W⟩,J,I, ?_⟩;have q6:=q5.sub (us:=aO c_ 2 (aa J 1 I) [(1,4)]::aJ c1 [aa J 1 I]::ts) (.cons_cons _ (.cons _ (.cons_cons _ (.cons _ (.cons _ (lE _))))));exact q6.perm (d_ _ _ _)
theorem k33(q:TS w0 (ie c_ 2 (aa p 2 d) [(1,2),(3,4)]::ts) w):
  au ag 33 #[aa p 2 d] w λ y w'=>∃P C,y=aa P 1 C/\TS w0 (aO c_ 2 (aa P 1 C) [(1,4)]::ts) w':=by
 apply YJ;unfold M6;refine gf (cs:=[aa p 2 d]) (by simp) (λ U K H z1=> ?_);have c:=q.ob K H rfl (by omega);generalize (⟨w.heap.size,0,none⟩:al)=c0 at c⊢;refine gf (cs:=[ba]) (by simp) (λ W N I z2=> ?_);have h:=c.ob N I rfl (by omega);generalize (⟨U.heap.size,0,none⟩:al)=c1 at h⊢;refine DT (λ X g J G Q=> ?_);have R:=(h.flag J G Q).perm (us:=aJ c1 [ba]::aJ c0 [aa p 2 d]::ie c_ 2 (aa p 2 d) [(1,2),(3,4)]::aJ ⟨g,0,none⟩ [aQ false]::ts) (gI (l₁:=[_,_,_])).symm;refine anE (aF (k69 R) ?_);rintro _ Z ⟨P,C,r⟩;refine⟨r.get (t:=aJ ⟨g,0,none⟩ [aQ false]) (by simp),λ w7 E=>⟨_,rfl, ?_⟩⟩;have u:=(r.perm (us:=aJ ⟨g,0,none⟩ [aQ false]::aJ c1 [aa P 1 C]::aO c_ 2 (aa P 1 C) [(1,4)]::ts) (gI (l₁:=[_,_]))).V' E;exact⟨_,_,_,u.ei (a:=c1) (v:=aa P 1 C) (by simp),P,C,rfl,u.tail⟩
end
section
variable{w0 w w':ak}{ts us:List LT}{p:Option al}{cc:Nat}{v x:ay}{c0 c1 e:al}{g C d:Nat}
def rB(e:al)(v:ay)(l:Wd):LT:=
 ⟨λ b=>b=e.block\/aN v=some b,λ w=>dA w e v l,by
  rintro S w w'⟨r,⟨cs,u,y,E⟩,G,H,I⟩h q;exact⟨r,⟨cs,u.fr h (λ o _ _ c=>q _ o c (.inl rfl)),y,E⟩,G.fr h (λ b J o c=>q b o c (.inr J)),H,I⟩⟩
theorem TS.mf{l:Wd}{n:Nat}(q:TS w0 (rB e v l::ts) w)(J:n<18446744073709551616)(I:l.length+10<=1073741824):
  au ag 81 #[an (some e),ah aj (n:Int)] w λ _ w'=>∃v',TS w0 (rB e v' (l++bm n)::ts) w':=by
 have G:dA w e v l:=q.get (t:=rB e v l) (by simp);refine aF (Go.Proofs.mf G J I) ?_;rintro _ w' ⟨v',r,u,y⟩;refine⟨v',q.ey (t':=rB e v' (l++bm n)) u (λ b o E=> ?_) r (λ b c=> ?_)⟩
 ·rcases E with h|h
  ·exact .inl h.1
  ·exact .inr h
 ·rcases c with c|c
  ·exact .inl (.inl c)
  ·rcases y with h|⟨g,h,H⟩
   ·exact .inl (.inr (by rw[<-h];exact c))
   ·rw[h] at c;cases c;exact .inr ⟨H,r.2.2.1.lt h⟩
def D8(n:Nat):List ay:=[ah af 8,ah aj (n:Int),ba]
theorem k34(q:TS w0 ts w)(Z:ie D8 3 (aa p 1 d) [300]∈ts):
  au ag 34 #[aa p 1 d] w λ y w'=>(∃P C,y=aa P 2 C)/\TS w0 ts w':=by
 apply YR;unfold Ni;refine gf (cs:=ba::jG) (by simp) (λ w1 o1 k1 z1=> ?_);have Q:=q.new (t:=rB ⟨w.heap.size,0,none⟩ ba []) k1 (Kk rfl o1) (λ b I=>by
  rcases I with e|e
  ·have e:b=w.heap.size:=e;omega
  ·cases e)
 generalize (⟨w.heap.size,0,none⟩:al)=e at Q⊢;refine YQ (λ U K n' G a b w'=>e=U/\p=K/\n'=1/\d=G/\a=1/\((b=0/\TS w0 (rB e ba []::ts) w')\/(b=1/\∃v,TS w0 (rB e v (bm 300)::ts) w'))) (λ _ _ _ _ a b _=>(a-b).toNat) ⟨rfl,rfl,rfl,rfl,rfl, .inl ⟨rfl,Q⟩⟩ ?_;rintro _ _ _ _ _ b r ⟨rfl,rfl,rfl,rfl,rfl,⟨rfl,E⟩|⟨rfl,v,E⟩⟩
 ·unfold A9;have h:Sl D8 3 r (aa p 1 d) [300]:=E.get (jI _ Z);refine cJ rfl (Sl.ix (enc:=D8) (z:=3) (l:=[300]) (λ _=>rfl) (by omega) h (by omega) (by simp) (λ a _ H=>⟨_,H 0 _ rfl,_,H 1 _ rfl,_,_,_,H 2 _ rfl, ?_⟩));refine vA (a:=ah af 8) (b:=ah aj ((300:Nat):Int)) (c:=ba) trivial trivial trivial (λ w3 N k3 z3=> ?_);have R:=N.at 0 rfl;rw[add_zero] at R;refine⟨_,R,aT rfl (aT rfl (aT rfl (aT rfl (aT rfl (aT rfl (aT rfl (aT rfl (cJ rfl ⟨_,N.at 1 rfl, ?_⟩))))))))⟩;refine aF ((E.aH k3).mf (by omega) (by simp)) ?_;rintro _ w4 ⟨v',q4⟩;unfold kh;exact⟨⟨rfl,rfl,rfl,rfl,rfl, .inr ⟨rfl,v',q4⟩⟩,by decide⟩
 ·unfold A9;refine aT rfl ⟨_,_,Ju r,_,_,_,rfl, ?_⟩;have q3:=E.aH (bA r (.cells #[] 5));have J:dA _ e v (bm 300):=q3.get (t:=rB e v (bm 300)) (by simp);refine aF (om J) ?_;rintro _ w4 ⟨rfl,rfl⟩;obtain⟨vp,vc,rfl⟩:=J.sl;refine⟨_,_,_,rfl, ?_⟩;have u:(bm 300).length=2:=by
   rw[bm,dif_neg (by omega),dH,bm,dif_pos (by omega)];rfl
  refine oi (enc:=fK) (l:=([]:Wd)) (m:=bm 300) VV (va r 1 5) J.2.2.1.cV (by simp;omega) (by simp;omega) (λ K G w5 ho X _=> ?_);have k5:aS r w5:=Fr.new (bA r (.cells #[] 5)) X (λ b o W=>by
   have I:some r.heap.size=some b:=W.1;cases I;exact bB _)
  rw[u];exact⟨⟨K,G,rfl⟩,(E.aH k5).tail⟩
theorem k9:au ag 9 #[] w λ r w'=>r=aQ true/\aS w w':=by
 apply c9;unfold v9;have rd:∀{α:Type} {enc:α->List ay} {z:Nat} {ty et:cK} {n:Nat} {c:Array (Nat×ay)} {l:List α} {us:List LT} {w':ak} {K:Option al->Nat->Nat->ak->Prop},TS w us w'->(bw ty n c).run ag w'= .ok (aa (some ⟨w'.heap.size,0,none⟩) n n) (w'.alloc (.cells ⟨l.flatMap enc⟩ et))->(l.flatMap enc).length=n*z->l.length=n->
   (∀w'' P,TS w (ie enc z (aa P n n) l::us) w''->K P n n w'')->aP ag (bw ty n c) w' λ r R=>az (ax r) λ sP sL sC=>K sP sL sC R:=by
  intro α enc z ty et n c l us w' K q hr hl hn Z;refine⟨_,_,hr,_,_,_,rfl,Z _ _ (q.new (t:=ie enc z (aa (some ⟨w'.heap.size,0,none⟩) n n) l) (bA _ _) ?_ (λ b X=> ?_))⟩
  ·show aX _ z _ l.length _;rw[hn];exact aX.new w' z (l.flatMap enc) et n n hl (bB _)
  ·have u:some w'.heap.size=some b:=X;cases u;simp
 refine rd (enc:=cO) (z:=1) (et:=43) (l:=[1,2]) (TS.nil (Fr.refl _ w)) (by kernel_rfl) rfl rfl (λ R J q1=> ?_);refine rd (enc:=cO) (z:=1) (et:=43) (l:=[2]) q1 (by kernel_rfl) rfl rfl (λ w2 N q2=> ?_);refine rd (enc:=kO) (z:=3) (et:=74) (l:=[(J,2,2),(N,1,1)]) q2 (by kernel_rfl) rfl rfl (λ w3 W q3=> ?_);have G:TS w (lB J N W 2 1 2++[]) w3:=q3.perm (List.Perm.cons _ (d_ _ _ _));refine aF (k32 G) ?_;rintro _ w4 ⟨P,C,rfl,q4⟩;refine⟨_,_,rfl,_,_,_,rfl,_,rfl, ?_⟩;refine rd (enc:=c_) (z:=2) (et:=78) (l:=[(1,2),(3,4)]) q4 (by kernel_rfl) rfl rfl (λ w5 P5 q5=> ?_);refine aF (k33 q5) ?_;rintro _ U ⟨Q,I,rfl,H⟩;refine⟨_,_,_,rfl,cJ rfl (cJ rfl ?_)⟩;have y:cP cO 1 U (aa P 1 C) [1]:=H.get (t:=aO cO 1 (aa P 1 C) [1]) (by simp);refine Sl.ix (enc:=cO) (z:=1) (l:=[1]) (λ _=>rfl) (by omega) y.cV (by omega) (by simp) (λ a _ h=>⟨_,by
  have:=h 0 _ rfl;rwa[add_zero] at this,cJ rfl (cJ rfl ?_)⟩)
 have E:cP c_ 2 U (aa Q 1 I) [((1:Int),(4:Int))]:=H.get (t:=aO c_ 2 (aa Q 1 I) [((1:Int),(4:Int))]) (by simp);refine Sl.ix (enc:=c_) (z:=2) (l:=[((1:Int),(4:Int))]) (λ _=>rfl) (by omega) E.cV (by omega) (by simp) (λ a _ h=>⟨_,h 1 _ rfl,cJ rfl ?_⟩);refine rd (enc:=D8) (z:=3) (et:=81) (l:=[300]) H (by kernel_rfl) rfl rfl (λ w7 P7 q7=> ?_);refine aF (k34 q7 (by simp)) ?_;rintro _ w8 ⟨⟨P8,C8,rfl⟩,q8⟩;exact⟨_,_,_,rfl,rfl,q8.1⟩
end
def D9(w:ak)(L:List bI)(x y:ay):Prop:=∃S B T,cz w x B/\dK w y S/\ng L/\dE S L/\jV S L B (eC S (eB S) L) T
theorem D9.aH{w w':ak}{L:List bI}{x y:ay}(h:D9 w L x y)(c:aS w w'):D9 w' L x y:=by
 obtain⟨S,B,T,q,r,E⟩:=h;exact⟨S,B,T,aX.aH q c,Sl.aH r c,E⟩
section
variable{w w':ak}{u v:ay}{M:List Wd}{L:List bI}
theorem k8(hu:dK w u M)(H:im w v L)(hM:M.length<=2147483647)(hL:L.length<=2147483647)(hf:∀x∈L,uL x)(hU:DR L):
  au ag 8 #[u,v] w λ r w'=>(r=aZ #[ba,ba,aQ false,aQ false]\/∃x y,r=aZ #[x,y,aQ true,aQ true]/\D9 w' L x y)/\aS w w':=by
 obtain⟨up,uc,rfl,_⟩:=aX.ex hu;obtain⟨vp,vc,rfl,_⟩:=H.ex;apply c8;unfold v8;refine aF (RY hu hM) ?_;rintro _ w1 ⟨⟨b1,rfl,jE⟩,rfl⟩;refine⟨_,rfl,bn (λ c=>⟨.inl rfl,Fr.refl _ _⟩) (λ c=> ?_)⟩;have hM2:=jE (by simpa using c);refine aF (k28 H hL hf) ?_;rintro _ w2 ⟨⟨b2,rfl,je⟩,k2⟩;refine⟨_,rfl,bn (λ c=>⟨.inl rfl,k2⟩) (λ c=> ?_)⟩;have Q:=je (by simpa using c);unfold E7;refine aF (Sh (Sl.aH hu k2) (by omega)) ?_;rintro y w3 ⟨W,k3⟩;obtain⟨K,J,rfl,_⟩:=aX.ex W;refine⟨_,_,_,rfl, ?_⟩;have hwl:=yQ M;have R:∀i (h:i<L.length),(L[i]).labels.length<=10:=λ i h=>(Q.2.1 i h).2.2.2.1
 refine XQ (λ sp sl sc K Z J i w'=>vp=sp/\sl=L.length/\vc=sc/\aS w1 w'/\∃(k:Nat) (S:List Wd),i=(k:Int)/\k<=L.length/\Z=S.length/\S.length<=200+20*k/\dK w' (aa K Z J) S) (λ _ _ _ _ _ _ i _=>(L.length-i).toNat) ⟨rfl,rfl,rfl,k2.trans k3,0,_,rfl,dO _,rfl,by omega,W⟩ ?_;rintro _ _ _ K _ J _ w4 ⟨rfl,rfl,rfl,I,k,S,rfl,hk,rfl,lx,G⟩;unfold E6;have R4:=Q.1;refine bn (λ c=> ?_) (λ c=> ?_)
 ·have E:k<L.length:=by simp at c;omega
  have sJ:=R k E;refine XP (λ sp sl sc K Z J i j w'=>vp=sp/\sl=L.length/\vc=sc/\i=(k:Int)/\aS w1 w'/\∃(q:Nat) (S:List Wd),j=(q:Int)/\q<=(L[k]).labels.length/\Z=S.length/\S.length<=200+20*k+2*q/\dK w' (aa K Z J) S) (λ _ _ _ _ _ _ _ j _=>((L[k]).labels.length-j).toNat) ⟨rfl,rfl,rfl,rfl,I,0,S,rfl,dO _,rfl,by omega,G⟩ ?_;rintro _ _ _ K _ J _ _ w5 ⟨rfl,rfl,rfl,rfl,k5,q,S,rfl,hq,rfl,lx,G⟩;unfold E3;refine kq (H.aH k5) k E rfl (λ a P1 c1 P2 c2 h0 N h2 h3 h4=>⟨_,_,_,N,bn (λ c=> ?_) (λ c=> ?_)⟩)
  ·have U:q<(L[k]).labels.length:=by simp at c;omega
   have k6:=k5.trans (cu w5);refine kq (H.aH k6) k E rfl (λ a P1 c1 P2 c2 h0 N h2 h3 h4=>⟨_,_,_,N, ?_⟩);refine sK h3 q U rfl (λ a2 g1 g2=>⟨_,g1, ?_⟩);refine kq (H.aH k6) k E rfl (λ a3 P3 c3 P4 c4 m0 m1 m2 m3 m4=>⟨_,_,_,m1, ?_⟩);refine sK m3 q U rfl (λ a4 g3 g4=>⟨_,g4, ?_⟩);refine aF (yP (Sl.aH G (cu w5)) (by omega)) ?_;rintro y w6 ⟨W,k7⟩;obtain⟨yp6,yc6,rfl,_⟩:=aX.ex W;have l1:=(Iu (L[k]).labels[q].1 S).1;refine⟨_,_,_,rfl,k7.at g4,k7.at m1,k7.at N, ?_⟩;refine aF (yP W (by omega)) ?_;rintro y w7 ⟨X,k8⟩;obtain⟨yp7,yc7,rfl,_⟩:=aX.ex X;have l2:=(Iu (L[k]).labels[q].2 (gY (L[k]).labels[q].1 S)).1;refine⟨_,_,_,rfl,(k7.trans k8).at m1,(k7.trans k8).at N, ?_⟩;rw[show aq af ((q:Int)+1)=((q+1:Nat):Int) by rw[bk (by omega) (by omega)];omega];exact⟨⟨rfl,rfl,rfl,rfl,(k6.trans k7).trans k8,q+1,_,rfl,by omega,rfl,by omega,X⟩,by omega⟩
  ·rw[show aq af ((k:Int)+1)=((k+1:Nat):Int) by rw[bk (by omega) (by omega)];omega];have:q<=10:=by omega
   exact⟨⟨rfl,rfl,rfl,k5,k+1,S,rfl,by omega,rfl,by omega,G⟩,by omega⟩
 ·refine aF (RY G (by omega)) ?_;rintro _ w5 ⟨⟨b5,rfl,yE⟩,e⟩;subst e;refine⟨_,rfl,bn (λ c=>⟨.inl rfl,I⟩) (λ c=> ?_)⟩;have Ig:=yE (by simpa using c);refine aF (k30 G (H.aH I) (by omega) hL hf) ?_;rintro _ w6 ⟨⟨n,rfl,hn⟩,k6⟩;refine⟨_,rfl,bn (λ c=>⟨.inl rfl,I.trans k6⟩) (λ c=> ?_)⟩;have hR:=hn (by simp at c;omega);have hI:=ajY Q hR Ig hU;unfold E5;refine aF (k31 (Sl.aH G k6) (H.aH (I.trans k6)) ⟨Q,hR,hI⟩) ?_;rintro _ w7 ⟨x,B,T,rfl,hx,hT,k7⟩;obtain⟨xp,xc,rfl,_⟩:=aX.ex hx;exact⟨_,_,rfl,_,_,_,rfl,_,rfl, .inr ⟨_,_,rfl,S,B,T,hx,Sl.aH G (k6.trans k7),Q,hI,hT⟩,(I.trans k6).trans k7⟩
end
theorem K0{w:ak}{p:Option al}{len c:Nat}{ls:List (List Wd)}(h:rz w (aa p len c) ls)(i:Nat)(hi:i<ls.length){K:al->Prop}
  (J:∀(a:al) (P:Option al) (C:Nat),at_ w a (aa P (ls[i]).length C)->dK w (aa P (ls[i]).length C) ls[i]->K a):aU p len (i:Int) 1 K:=by
 obtain⟨r,N,G,H⟩:=h;have x:i<r.length:=by omega
 refine Sl.ix (enc:=dd) (z:=1) (l:=r) (λ _=>rfl) (by omega) G (by omega) (by omega) (λ a _ I=> ?_);have e:r[((i:Nat):Int).toNat]'(by simp;omega)=r[i]:=by congr 1
 have q:=I 0 _ rfl;rw[add_zero,e] at q;have y:=H i x hi;obtain⟨P,C,E,_⟩:=aX.ex y;have q:at_ w a (b9 r[i]):=q;rw[E] at q y;exact J a P C q y
theorem rz.ex{w:ak}{v:ay}{ls:List (List Wd)}(h:rz w v ls):∃p c,v=aa p ls.length c:=by
 obtain⟨x,q,r,_⟩:=h;obtain⟨p,c,e,_⟩:=aX.ex r;exact⟨p,c,by rw[e,q]⟩
section
variable{w0 w w':ak}{u v:ay}{M:List Wd}{L:List bI}{S:List Wd}{B:Wd}{R:List Nat}{c1:al}{v2 v3 v4 v5 v6 v7:ay}
structure Hand(w:ak)(c1:al)(L:List bI)(S:List Wd)(B:Wd)(R:List Nat)(v2 v3 v4 v5 v6 v7:ay):Prop where
 ob:Ob w c1 (de 2 (B.length:Int) v2 v3 v4 v5 v6 v7)
 rd:rA w B S (gR L) (jw L) R (tw L R) v2 v3 v4 v5 v6 v7
 nF:dE S L
 len:R.length=L.length
theorem Hand.aH(h:Hand w c1 L S B R v2 v3 v4 v5 v6 v7)(c:aS w w'):Hand w' c1 L S B R v2 v3 v4 v5 v6 v7:=⟨h.ob.aH c,h.rd.aH c,h.nF,h.len⟩
theorem Wc{K:ay->ak->Prop}(c:∀w',aS w w'->K (aQ true) w'):au ag 9 #[] w λ r h=>aW (ax r) λ b=>K (aQ b) h:=
 aF k9 (by
  rintro _ w'⟨rfl,k⟩;exact⟨_,rfl,c w' k⟩)
theorem anI{Q:Option al}{vc:Nat}(k0:aS w0 w)(hv:im w (aa Q L.length vc) L)(h:Hand w c1 L S B R v2 v3 v4 v5 v6 v7):
  EM (λ r w'=>r=aQ true/\aS w0 w') Q L.length vc c1 0 w:=by
 have jF:=h.nF.ll;refine XG (λ p n c x i w'=>Q=p/\n=L.length/\vc=c/\c1=x/\∃k:Nat,i=(k:Int)/\k<=L.length/\aS w w') (λ _ _ _ _ i _=>(L.length-i).toNat) ⟨rfl,rfl,rfl,rfl,0,rfl,dO _,Fr.refl _ _⟩ ?_;rintro _ _ _ _ _ w1 ⟨rfl,rfl,rfl,rfl,k,rfl,hk,k1⟩;unfold EL;refine bn (λ Z=> ?_) (λ Z=> ?_)
 ·have q:k<L.length:=by simp at Z;omega
  have G:k<R.length:=by rw[h.len];exact q
  have N:=k1.trans (cu w1);have hd:=h.aH N;have J:=hv.aH N;obtain⟨p6,d6,rfl,_⟩:=aX.ex hd.rd.rf;obtain⟨p7,d7,U,_⟩:=hd.rd.sr.ex;rw[Ae h.len] at U;subst U;have E:k<(tw L R).length:=by rw[Ae h.len];exact q
  have H:(tw L R)[k]=withRef L[k] R[k]:=List.getElem_zipWith;have I:=hd.ob.at 7 rfl;have o6:=hd.ob.at 6 rfl;obtain⟨_,aqp,_,_⟩:=h.nF.fQ _ (iy q);have Cp:=(h.nF.gk _ (iy q)).1;refine⟨_,_,_,I,kq hd.rd.sr k E rfl (λ a P1 C1 P2 C2 X h1 h2 h3 h4=>⟨_,X,_,_,_,o6,uN hd.rd.rf k G rfl (λ a6 W=>⟨_,W,aT ?_ ⟨_,_,_,I, ?_⟩⟩)⟩)⟩
  ·rw[H];simp[withRef]
  refine kq hd.rd.sr k E rfl (λ a' Q1 D1 Q2 D2 m0 m1 m2 m3 m4=>⟨_,m0,_,_,_,m1,_,_,_,m2, ?_⟩);rw[H] at m3 m4;refine kq J k q rfl (λ a'' T1 E1 T2 E2 n0 n1 n2 n3 n4=>⟨_,n0,_,_,_,n1,_,_,_,n2, ?_⟩);rw[H];refine aF (k17 (l:=L[k].labels) (c:=L[k].chunks) m3 m4 n3 n4 (by omega) (by omega)) ?_;rintro _ w2 ⟨rfl,y⟩;have DC:=hd.aH y;refine⟨_,rfl,y.at I,y.at W,y.at o6,(by rw[<-H];exact y.at X),y.at I,aT rfl ?_⟩;unfold EK;rw[show aq af ((k:Int)+1)=((k+1:Nat):Int) by rw[bk (by omega) (by omega)];omega];exact⟨⟨rfl,rfl,rfl,rfl,k+1,rfl,by omega,N.trans y⟩,by omega⟩
 ·exact Wc (K:=λ r w'=>r=aQ true/\aS w0 w') (λ w2 y=>⟨rfl,k0.trans (k1.trans y)⟩)
theorem We(h:R.length=L.length):(R.zip (L.map (·.labels))).map (·.2)=L.map (·.labels):=List.map_snd_zip (by rw[fu];omega)
theorem anJ{vp pp X:Option al}{vc Z W:Nat}(k0:aS w0 w)(hv:im w (aa vp L.length vc) L)(h:Hand w c1 L S B R v2 v3 v4 v5 v6 v7)
  (hP:nj w (aa pp (R.zip (L.map (·.labels))).length Z) (R.zip (L.map (·.labels))))(hN:dK w (aa X (gR L).length W) (gR L)):
  EO (λ r w'=>r=aQ true/\aS w0 w') vp L.length vc c1 pp (R.zip (L.map (·.labels))).length Z X (gR L).length W 0 w:=by
 have jF:=h.nF.ll;have hnl:=h.nF.KV;have lI:(R.zip (L.map (·.labels))).length=L.length:=by rw[List.length_zip,fu,h.len,Nat.min_self]
 refine XH (λ p n c x p2 n2 c2 p3 n3 c3 i w'=>vp=p/\n=L.length/\vc=c/\c1=x/\pp=p2/\n2=(R.zip (L.map (·.labels))).length/\Z=c2/\X=p3/\n3=(gR L).length/\W=c3/\∃k:Nat,i=(k:Int)/\k<=(gR L).length/\aS w w') (λ _ _ _ _ _ _ _ _ _ _ i _=>((gR L).length-i).toNat) ⟨rfl,rfl,rfl,rfl,rfl,rfl,rfl,rfl,rfl,rfl,0,rfl,dO _,Fr.refl _ _⟩ ?_;rintro _ _ _ _ _ _ _ _ _ _ _ w1 ⟨rfl,rfl,rfl,rfl,rfl,rfl,rfl,rfl,rfl,rfl,k,rfl,hk,H⟩;unfold EN;refine bn (λ hc=> ?_) (λ hc=> ?_)
 ·have I:k<(gR L).length:=by simp at hc;omega
  refine pH (Sl.aH hN H) k I rfl (λ a ha=>⟨_,ha, ?_⟩);refine aF (k15 (n:=(gR L)[k]) (hP.aH H) (by omega) (λ x hx=> ?_)) ?_
  ·have hm:x.2∈L.map (·.labels):=(List.of_mem_zip hx).2;obtain⟨y,N,e⟩:=dt.1 hm;rw[<-e];have:=(h.nF.fQ y N).2.1;omega
  rintro vv w2⟨q,k2⟩;rw[We h.len] at q;have q:dK w2 vv (jw L (gR L)[k]):=q;obtain⟨qp,qc,rfl,_⟩:=aX.ex q;have E:=h.aH (H.trans k2);obtain⟨p4,d4,rfl⟩:=E.rd.vs.ex;obtain⟨p5,d5,rfl⟩:=E.rd.ss.ex;have G:k<((gR L).map (jw L)).length:=by rw[fu];exact I
  have Q:((gR L).map (jw L))[k]=jw L (gR L)[k]:=mJ _;have TO:=h.nF.VZ (gR L)[k];refine⟨_,_,_,rfl,_,_,_,E.ob.at 4 rfl,K0 E.rd.vs k G (λ a4 P4 C4 g4 hw4=>⟨_,_,_,g4,aT ?_ ⟨_,_,_,E.ob.at 4 rfl,K0 E.rd.vs k G (λ a5 P5 C5 g5 J=>⟨_,_,_,g5, ?_⟩)⟩⟩)⟩
  ·rw[Q];simp
  rw[Q] at J⊢;refine aF (Sh J (by omega)) ?_;rintro y w3 ⟨N,k3⟩;rw[aeZ (show WS (jw L (gR L)[k]) from ox _)] at N;obtain⟨yp,yc,rfl,_⟩:=aX.ex N;refine⟨_,_,_,rfl,aF (dW N (Sl.aH q k3) (by omega)) ?_⟩;rintro _ w4 ⟨rfl,U⟩;have h4:=E.aH (k3.trans U);refine⟨_,rfl,aT rfl ⟨_,_,_,h4.ob.at 5 rfl,K0 h4.rd.ss k G (λ a6 P6 C6 g6 K=>⟨_,_,_,g6, ?_⟩)⟩⟩;rw[Q] at K⊢;refine aF (dW K (Sl.aH q (k3.trans U)) (by omega)) ?_;rintro _ w5 ⟨rfl,k5⟩;refine⟨_,rfl,aT rfl ?_⟩;unfold EI;rw[show aq af ((k:Int)+1)=((k+1:Nat):Int) by rw[bk (by omega) (by omega)];omega];exact⟨⟨rfl,rfl,rfl,rfl,rfl,rfl,rfl,rfl,rfl,rfl,k+1,rfl,by omega,(((H.trans k2).trans k3).trans U).trans k5⟩,by omega⟩
 ·exact anI (k0.trans H) (hv.aH H) (h.aH H)
end
section
variable{w0 w w':ak}{u v:ay}{M:List Wd}{L:List bI}{S:List Wd}{B:Wd}{R:List Nat}{c1:al}{v2 v3 v4 v5 v6 v7:ay}
theorem anK{J:Option al}{vc:Nat}(k0:aS w0 w)(I:im w (aa J L.length vc) L)(h:Hand w c1 L S B R v2 v3 v4 v5 v6 v7):
  AD (λ r w'=>r=aQ true/\aS w0 w') J L.length vc c1 w:=by
 have Q:=h.nF.ll;have lI:(R.zip (L.map (·.labels))).length=L.length:=by rw[List.length_zip,fu,h.len,Nat.min_self]
 obtain⟨p6,d6,rfl,_⟩:=aX.ex h.rd.rf;unfold AD;refine⟨_,_,_,h.ob.at 6 rfl,aF (k13 I h.rd.rf (by omega) (by rw[h.len];omega)) ?_⟩;rintro pv w1 ⟨hP,H⟩;obtain⟨pp,pc,rfl,_⟩:=hP.ex;have q:∀x∈R.zip (L.map (·.labels)),x.2.length<=50:=λ x X=>by
  have U:x.2∈L.map (·.labels):=(List.of_mem_zip X).2;obtain⟨y,Z,e⟩:=dt.1 U;rw[<-e];have:=(h.nF.fQ y Z).2.1;omega
 refine⟨_,_,_,rfl,aF (yT hP (by omega) q) ?_⟩;rintro nv w2 ⟨hN,E⟩;rw[We h.len] at hN;have hN:dK w2 nv (gR L):=hN;obtain⟨np,nc,rfl,_⟩:=aX.ex hN;have c:=h.aH (H.trans E);have W:=h.nF.KV;obtain⟨p3,d3,rfl,_⟩:=aX.ex c.rd.nm;obtain⟨p4,d4,K⟩:=c.rd.vs.ex;obtain⟨p5,d5,N⟩:=c.rd.ss.ex;subst K;subst N;refine⟨_,_,_,rfl,_,_,_,c.ob.at 3 rfl,aF (dW c.rd.nm hN (by omega)) ?_⟩;rintro _ w3 ⟨rfl,k3⟩;have G:=c.aH k3;refine⟨_,rfl,aT rfl ⟨_,_,_,G.ob.at 4 rfl,aT (by rw[fu];simp) ⟨_,_,_,G.ob.at 5 rfl,aT (by rw[fu];simp) ?_⟩⟩⟩;unfold EP;exact anJ (((k0.trans H).trans E).trans k3) (I.aH ((H.trans E).trans k3)) G (hP.aH (E.trans k3)) (Sl.aH hN k3)
theorem k3(hu:dK w u M)(Q:im w v L)(hU:DR L):au ag 3 #[u,v] w λ r w'=>r=aQ true/\aS w w':=by
 obtain⟨up,uc,rfl,_⟩:=aX.ex hu;obtain⟨vp,vc,rfl,_⟩:=Q.ex;apply c3;unfold v3;refine aF (k6 hu) ?_;rintro _ w1 ⟨⟨b1,rfl,X⟩,rfl⟩;refine⟨_,rfl,bn (λ G=>⟨rfl,Fr.refl _ _⟩) (λ G=> ?_)⟩;have hM:=(X (by simpa using G)).1;refine aF (k7 Q) ?_;rintro _ w2 ⟨⟨b2,rfl,Z⟩,J⟩;refine⟨_,rfl,bn (λ G=>⟨rfl,J⟩) (λ G=> ?_)⟩;obtain⟨hL,hf⟩:=Z (by simpa using G);unfold ER;refine aF (k8 (Sl.aH hu J) (Q.aH J) hM hL hf hU) ?_;rintro _ w3 ⟨h3|⟨x,y,rfl,S,B,T,I,hy,hF,N,q⟩,k3⟩
 ·subst h3;exact⟨_,_,_,_,rfl,_,_,_,rfl,_,_,_,rfl,_,rfl,_,rfl,cJ rfl (Wc (K:=λ r w'=>r=aQ true/\aS w1 w') (λ w4 U=>⟨rfl,(J.trans k3).trans U⟩))⟩
 ·obtain⟨xp,xc,rfl,_⟩:=aX.ex I;obtain⟨yp,yc,rfl,_⟩:=aX.ex hy;have c:=q.yS;refine⟨_,_,_,_,rfl,_,_,_,rfl,_,_,_,rfl,_,rfl,_,rfl,aT rfl ?_⟩;refine aF (dj I q (am5 N q)) ?_;rintro _ w4 ⟨v2,v3,v4,v5,v6,v7,rfl,H,hrd,U⟩;obtain⟨p2,n2,d2,p3,n3,d3,p4,n4,d4,p5,n5,d5,p6,n6,d6,p7,n7,d7,rfl,rfl,rfl,rfl,rfl,rfl⟩:=H;refine⟨_,_,rfl,_,_,_,_,_,_,_,_,_,_,_,_,_,_,_,_,_,_,_,_,rfl,_,rfl, ?_⟩;refine gf (cs:=de 0 0 ba ba ba ba ba ba) (by simp[de]) (λ w5 o5 k5 z5=> ?_);have q5:=(TS.nil (Fr.refl _ w4)).ob o5 k5 rfl (by omega);generalize (⟨w4.heap.size,0,none⟩:al)=c1 at q5⊢;refine KU (base:=0) q5 ⟨trivial,trivial,trivial,trivial,trivial,trivial⟩ (λ w6 W f6=> ?_);have h:Hand w6 c1 L S B (eC S (eB S) L) (aa p2 n2 d2) (aa p3 n3 d3) (aa p4 n4 d4) (aa p5 n5 d5) (aa p6 n6 d6) (aa p7 n7 d7):=⟨W.get (t:=aJ c1 _) (by simp),hrd.aH W.1,N,c⟩;have kk:=((J.trans k3).trans U).trans W.1;obtain⟨_,_,e2,_⟩:=aX.ex h.rd.sy;obtain⟨_,_,e6,_⟩:=aX.ex h.rd.rf;obtain⟨_,_,e7,_⟩:=h.rd.sr.ex;rw[Ae c] at e7;cases e2;cases e6;cases e7;have h0:=h.ob.at 0 rfl;rw[add_zero] at h0;have jF:=N.ll;have H:=N.sl;refine aT rfl (aT rfl ⟨_,h0,aT rfl ⟨_,h.ob.at 1 rfl,aT (by simp) ⟨_,_,_,h.ob.at 2 rfl, ?_⟩⟩⟩);refine aF (dW h.rd.sy (Sl.aH hy (U.trans W.1)) (by omega)) ?_;rintro _ w7 ⟨rfl,k7⟩;have E:=h.aH k7;refine⟨_,rfl,aT rfl ⟨_,_,_,E.ob.at 6 rfl,aT (by rw[c];simp) ⟨_,_,_,E.ob.at 7 rfl,aT (by simp) ⟨_,_,_,E.ob.at 6 rfl, ?_⟩⟩⟩⟩;refine aF (iK E.rd.rf (by rw[c];omega) (λ x I=>⟨(q.fT x I).1,by have:=(q.fT x I).2;omega⟩) (λ i hi h1 h2=>qt.1 q.ae4 _ _ h2 h1 (by omega))) ?_;rintro _ w8 ⟨rfl,k8⟩;refine⟨_,rfl,aT rfl ?_⟩;exact anK ((kk.trans k7).trans k8) (Q.aH ((kk.trans k7).trans k8)) (E.aH k8)
end
end Go.Proofs
namespace Go.Proofs
open Go Go.V
section
variable{H:Type}{enc:cK×ay->H}{W:ak}{sp:Nat->Bool}{hd:Bool}
theorem D_{α:Type}[Inhabited α]{ec:α->List ay}{z:Nat}{Q:α->Prop}{t e:cK}(ht:ag.underlying t=some (.slice e))(hz:ag.cellsOf e=z)(G:0<z)(E:∀x,(ec x).length=z)
  (J:∀{n:Nat} {cs:List ay} {y:DataW H×List MemPlace},DataW.trod enc ag W 0 sp hd n e cs=some y->∃a:α,cs=ec a/\Q a){r:Nat}{cs:List ay}{x:DataW H×List MemPlace}(h:DataW.trod enc ag W 0 sp hd r t cs=some x):
  ∃p n c l,cs=[.slice p n c]/\Sl ec z W (.slice p n c) l/\∀a∈l,Q a:=by
 rcases Go.Deep.open_slice ht h with⟨rfl,_⟩|⟨a,len,cap,m,n,D,Pl,rfl,_,U,_,hm,_,hx⟩
 ·exact⟨none,0,0,[],rfl,aX.nil _ _ _ _,by simp⟩
 ·have aqs:len<=m:=by rw[hm];split<;>omega
  obtain⟨f,K⟩:=Go.Deep.choose_lt (n:=len) (p:=λ i y=>W.cells? 0 (a.add (i*z)) z=some (ec y)/\Q y) (λ i hi=>by
   obtain⟨cs',Z,h2⟩:=hx i (by omega);obtain⟨y,rfl,hq⟩:=J h2;rw[hz] at Z;exact⟨y,Z,hq⟩)
  refine⟨some a,len,cap,(lZ len).map f,rfl, ?_,λ y hy=> ?_⟩
  ·have q:((lZ len).map f).length=len:=by simp
   show aX W z _ _ _;rw[q];refine⟨some a,cap,rfl,U, ?_,λ j u hj=> ?_⟩
   ·rw[kF (enc:=ec) E,q]
   ·have R:j<len*z:=by
     have:=(oQ.1 hj).1;rwa[kF (enc:=ec) E,q] at this
    have hi:j/z<len:=Nat.div_lt_of_lt_mul (by rw[Nat.mul_comm];exact R);have hr:j % z<z:=Nat.mod_lt _ G;have X:j/z*z+j % z=j:=by rw[Nat.mul_comm];exact Nat.div_add_mod j z
    have N:=wh E ((lZ len).map f) (j/z) (by rw[q];exact hi) (j % z) hr;rw[X,hj] at N;have ef:((lZ len).map f)[j/z]'(by rw[q];exact hi)=f (j/z):=by simp
    rw[ef] at N;have hc:=(World.cells?_some (K (j/z) hi).1).2.2 (j % z) hr;have I:=(World.cells?_some (K 0 (Nat.lt_of_le_of_lt (dO _) hi)).1).2.2 0 G;have w:a.spot=none:=by
     have:∃v,W.cell? ((a.add (0*z)).add 0)=some v:=⟨_,I.trans (gH (by rw[E];exact G))⟩;obtain⟨v,hv⟩:=this;have:=World.cell?_spot hv;rwa[Nat.zero_mul,add_zero,add_zero] at this
    rw[<-N,add_add _ _ _ w,X] at hc;exact⟨a,rfl,w,hc⟩
  ·obtain⟨i,hi,rfl⟩:=dt.1 hy;exact(K i (List.mem_range.1 hi)).2
theorem anM{q:Nat}{cs:List ay}{x:DataW H×List MemPlace}(h:DataW.trod enc ag W 0 sp hd q 22 cs=some x):∃p n c l,cs=[.slice p n c]/\dK W (.slice p n c) l:=by
 obtain⟨p,n,c,l,r,u,_⟩:=D_ (ec:=bx) (z:=1) (Q:=λ _=>True) (t:=22) (e:=9) (by kernel_rfl) (by kernel_rfl) (by omega) (λ _=>rfl) (λ{n cs y} h=>by
  obtain⟨s,rfl,_,_⟩:=DataW.trod_string (P:=ag) (t:=9) (by kernel_rfl) h;exact⟨s.data.toList,by simp[bx,bs],trivial⟩) h
 exact⟨p,n,c,l,r,u⟩
def Wf(P:bU)(t:cK):Option (List (cK×Nat)):=match P.underlying t with|some (.struct c)=>some (c.toList.map λ f=>(f.type,f.offset))|_=>none
theorem K1{t:cK}{l:List (cK×Nat)}(q:Wf ag t=some l){c:Nat}{cs:List ay}{x:DataW H×List MemPlace}(h:DataW.trod enc ag W 0 sp hd c t cs=some x):
  cs.length=ag.cellsOf t/\∀(i:Nat) (f:cK×Nat),l[i]? =some f->∃n y,DataW.trod enc ag W 0 sp hd n f.1 ((cs.drop f.2).take (ag.cellsOf f.1))=some y:=by
 unfold Wf at q;split at q
 ·rename_i w J;cases q;obtain⟨N,n,_,_,G,K,E⟩:=DataW.trod_struct J h;refine⟨G,λ i f hi=> ?_⟩;rw[List.getElem?_map] at hi;obtain⟨g,u,rfl⟩:=Option.map_eq_some_iff.1 hi;have I:i<w.size:=by
   have:=(oQ.1 u).1;simpa using this
  have r:=E i g (by simpa using u);rw[gH (by omega)] at r;exact⟨n,_,r⟩
 ·cases q
theorem anN{q:Nat}{cs:List ay}{x:DataW H×List MemPlace}(h:DataW.trod enc ag W 0 sp hd q 44 cs=some x):∃p n c l,cs=[.slice p n c]/\Sl db 2 W (.slice p n c) l:=by
 obtain⟨p,n,c,l,r,N,_⟩:=D_ (ec:=db) (z:=2) (Q:=λ _=>True) (t:=44) (e:=57) (by kernel_rfl) (by kernel_rfl) (by omega) (λ _=>rfl) (λ{n cs y} h=>by
  obtain⟨J,I⟩:=K1 (t:=57) (l:=[(9,0),(9,1)]) (by kernel_rfl) h;obtain⟨U,Z,E⟩:=I 0 _ rfl;obtain⟨X,y1,r⟩:=I 1 _ rfl;have R:ag.cellsOf 57=2:=by kernel_rfl
  have G:ag.cellsOf 9=1:=by kernel_rfl
  rw[R] at J
  match cs,J with
  |[a,b],_=>
   dsimp only at E r;rw[G] at E r;obtain⟨s0,u,_,_⟩:=DataW.trod_string (P:=ag) (t:=9) (by kernel_rfl) E;obtain⟨K,w,_,_⟩:=DataW.trod_string (P:=ag) (t:=9) (by kernel_rfl) r;have u:a= .string s0:=by simpa using u
   have w:b= .string K:=by simpa using w
   exact⟨(s0.data.toList,K.data.toList),by rw[u,w];simp[db,bs],trivial⟩) h
 exact⟨p,n,c,l,r,N⟩
theorem Wg{n:Int}(h:(Lit.int .u64 n).wf=true):0<=n/\n<18446744073709551616:=by
 unfold Lit.wf at h;simp only[rC,decide_eq_true_eq] at h;have c:IntKind.min .u64=0:=by decide
 have q:IntKind.max .u64=18446744073709551615:=by decide
 omega
theorem anO{q:Nat}{cs:List ay}{x:DataW H×List MemPlace}(h:DataW.trod enc ag W 0 sp hd q 45 cs=some x):∃p n c l,cs=[.slice p n c]/\Sl ff 3 W (.slice p n c) l/\∀y∈l,y.1<18446744073709551616:=by
 obtain⟨p,n,c,l,r,u,Z⟩:=D_ (ec:=ff) (z:=3) (Q:=λ y=>y.1<18446744073709551616) (t:=45) (e:=94) (by kernel_rfl) (by kernel_rfl) (by omega) (λ _=>rfl) (λ{n cs y} h=>by
  obtain⟨R,N⟩:=K1 (t:=94) (l:=[(43,0),(2,1),(2,2)]) (by kernel_rfl) h;obtain⟨n0,y0,J⟩:=N 0 _ rfl;obtain⟨n1,y1,r⟩:=N 1 _ rfl;obtain⟨n2,y2,u⟩:=N 2 _ rfl;have hc:ag.cellsOf 94=3:=by kernel_rfl
  have w:ag.cellsOf 43=1:=by kernel_rfl
  have K:ag.cellsOf 2=1:=by kernel_rfl
  rw[hc] at R
  match cs,R with
  |[a,b,c],_=>
   dsimp only at J r u;rw[w] at J;rw[K] at r u;obtain⟨s0,E,_,w0⟩:=DataW.trod_int (P:=ag) (t:=43) (k:= .u64) (by kernel_rfl) J;obtain⟨U,G,_,_⟩:=DataW.trod_int (P:=ag) (t:=2) (k:= .i64) (by kernel_rfl) r;obtain⟨X,I,_,_⟩:=DataW.trod_int (P:=ag) (t:=2) (k:= .i64) (by kernel_rfl) u;have E:a= .int .u64 s0:=by simpa using E
   have G:b= .int .i64 U:=by simpa using G
   have I:c= .int .i64 X:=by simpa using I
   obtain⟨u0,u1⟩:=Wg w0;refine⟨(s0.toNat,U,X), ?_,by show s0.toNat<_;omega⟩;rw[E,G,I];simp[ff];omega) h
 exact⟨p,n,c,l,r,u,Z⟩
instance:Inhabited bI:=⟨⟨0,[],[]⟩⟩
theorem anP{r:Nat}{cs:List ay}{x:DataW H×List MemPlace}(h:DataW.trod enc ag W 0 sp hd r 23 cs=some x):∃p n c L,cs=[.slice p n c]/\im W (.slice p n c) L/\DR L:=by
 obtain⟨p,n,c,l,u,w,h3⟩:=D_ (α:=Nat×ay×ay) (ec:=yG) (z:=3) (Q:=λ y=>∃s:bI,y.1=s.ref/\s.ref<18446744073709551616/\Sl db 2 W y.2.1 s.labels/\Sl ff 3 W y.2.2 s.chunks/\∀c∈s.chunks,c.1<18446744073709551616) (t:=23) (e:=47) (by kernel_rfl) (by kernel_rfl) (by omega) (λ _=>rfl) (λ{n cs y} h=>by
  obtain⟨X,q⟩:=K1 (t:=47) (l:=[(43,0),(44,1),(45,2)]) (by kernel_rfl) h;obtain⟨n0,y0,R⟩:=q 0 _ rfl;obtain⟨n1,y1,u⟩:=q 1 _ rfl;obtain⟨n2,y2,w⟩:=q 2 _ rfl;have hc:ag.cellsOf 47=3:=by kernel_rfl
  have E:ag.cellsOf 43=1:=by kernel_rfl
  have G:ag.cellsOf 44=1:=by kernel_rfl
  have I:ag.cellsOf 45=1:=by kernel_rfl
  rw[hc] at X
  match cs,X with
  |[a,b,c],_=>
   dsimp only at R u w;rw[E] at R;rw[G] at u;rw[I] at w;obtain⟨s0,J,_,w0⟩:=DataW.trod_int (P:=ag) (t:=43) (k:= .u64) (by kernel_rfl) R;obtain⟨p1,m1,c1,l1,K,g1⟩:=anN u;obtain⟨p2,m2,c2,l2,N,g2,g3⟩:=anO w;have J:a= .int .u64 s0:=by simpa using J
   have K:b= .slice p1 m1 c1:=by simpa using K
   have N:c= .slice p2 m2 c2:=by simpa using N
   obtain⟨u0,u1⟩:=Wg w0;refine⟨(s0.toNat,b,c), ?_,⟨s0.toNat,l1,l2⟩,rfl,by show s0.toNat<_;omega, ?_, ?_,g3⟩
   ·rw[J];simp[yG];omega
   ·rw[K];exact g1
   ·rw[N];exact g2) h
 obtain⟨f,q⟩:=Go.Deep.choose_lt (α:=bI) (n:=l.length) (p:=λ i s=>∀hi:i<l.length,l[i].1=s.ref/\s.ref<18446744073709551616/\Sl db 2 W l[i].2.1 s.labels/\Sl ff 3 W l[i].2.2 s.chunks/\∀c∈s.chunks,c.1<18446744073709551616) (λ i hi=>by
  obtain⟨s,U⟩:=h3 _ (iy hi);exact⟨s,λ _=>U⟩)
 refine⟨p,n,c,(lZ l.length).map f,u,⟨l,by simp,w,λ i a b=> ?_⟩,λ s U=> ?_⟩
 ·have e:((lZ l.length).map f)[i]=f i:=by simp
  obtain⟨Z,q2,q3,q4,q5⟩:=q i a a;rw[e];exact⟨Z,q3,q4⟩
 ·obtain⟨i,hi,rfl⟩:=dt.1 U;obtain⟨Z,q2,q3,q4,q5⟩:=q i (List.mem_range.1 hi) (List.mem_range.1 hi);exact⟨q2,q5⟩
end
end Go.Proofs
namespace Go.Proofs.YtlhckhmoneeilaaGreatDoor
open Go Go.V Go.ChangeShapes Go.WideShapes Go.ChangeAt Go.RowKit
theorem anQ:Kids ag (·<ag.types.size):=kids_rows (by kernel_rfl) (by kernel_rfl)
theorem anR:∀t e,t<ag.types.size->ag.underlying t=some (.slice e)->0<ag.cellsOf e:=slices_full_of ag (by kernel_rfl)
theorem anS:ownKnob ag.godebug=none:=by kernel_rfl
theorem K2{w w':ak}(k:aS w w'){b:Nat}(I:b<w.heap.size):w'.heap[b]? =w.heap[b]? :=by
 have r:=λ o=>k.cell b o I (λ h=>h)
 unfold view at r;have q:=r 0;cases u:w.heap[b]? with
 |none=>rw[Array.getElem?_eq_none_iff] at u;omega
 |some x=>
  cases E:w'.heap[b]? with
  |none=>rw[u,E] at q;cases x<;>cases q
  |some y=>
   rw[u,E] at q;simp only[u,E] at r;cases x with
   |cells c e f=>
    cases y with
    |cells G K N=>
     have J:G=c:=Array.ext_getElem? λ o=>by
      have:=r o;simp at this;exact this.2.2.1
     have:=r 0;simp at this;obtain⟨rfl,_,_,rfl⟩:=this;rw[J]
    |_=>cases q
   |_=>cases y<;>first|(cases q;done)|(simp at q;simp[q])
theorem anT{w w':ak}{S:MemPlace->Prop}(k:aS w w'):w.keptBut w' S:=by
 refine⟨k.os,k.output,λ i hi=> ?_⟩;rw[K2 k hi];cases w.heap[i]? with
 |none=>rfl
 |some x=>cases x<;>simp
theorem anU{w w':ak}(k:aS w w'){p:MemPlace}(c:p.block<w.heap.size):w.sameAt w' p:=by
 cases p with
 |cell b o=>
  show w'.cell? ⟨b,o,none⟩=w.cell? ⟨b,o,none⟩;have c:b<w.heap.size:=c;unfold World.cell?;dsimp only;rw[K2 k c]
 |map b=>exact K2 k c
section
variable{H:Type}{enc:cK×ay->H}
theorem Wh{w w':ak}(k:aS w w'){sp:Nat->Bool}:∀{ts:List cK} {vs:List ay} {u:List (DataW H)} {r:List MemPlace},DataW.TrodAll enc ag w 0 sp true ts vs u r->(∀p∈r,p.block<w.heap.size)->DataW.TrodAll enc ag w' 0 sp true ts vs u r
 |[],[],[],_,h,_=>h
 |_::_,_::_,_::_,_,⟨p,q,⟨n,E⟩,G,e⟩,y=>⟨p,q,⟨n,DataW.trod_carry n _ _ _ E (λ x c=>anU k (y x (by rw[e];exact List.mem_append_left _ c)))⟩,Wh k G (λ x c=>y x (by rw[e];exact List.mem_append_right _ c)),e⟩
theorem anV{f:Func}{s:ChangeSpec}{W I:ak}{args:Array ay}{c u:List (DataW H)}{before:List MemPlace}(R:f.resultTypes=#[4])(U:s.vars=[])(Q:∀t∈f.params.toList,t<ag.types.size)
  (E:s.fn H (c++u)={results:=[.lit (.bool true)],args:=c})(w:DataW.Whole enc ag f.params.toList s.vars false W args.toList c u before)(k:aS W I):
  s.post enc ag f false true false false W args (.bool true) I:=by
 have y:=w.lt;obtain⟨p,q,J,N,r,_,_⟩:=w;have K:∀x∈p,x.block<W.heap.size:=λ x G=>y x (by rw[r];exact List.mem_append_left _ G)
 have w:DataW.Whole enc ag f.params.toList s.vars false W args.toList c u before:=⟨p,q,J,N,r,by assumption,by assumption⟩;refine⟨c,u,before,[],p,[],w, ?_, ?_, ?_,anT k,λ h=>by cases h⟩
 ·rw[R,E];exact trodAll_mk1 (shut_bool (by kernel_rfl) _)
 ·rw[E];exact Wh k (J.respare anQ anR Q (λ x G=>by simpa using K x G)) K
 ·rw[U,E];rfl
end
abbrev Ea:List (String×DataW Unit):=[("pub-quillon/pub/prometheus/tsdb/encoding.ErrInvalidSize",Rows.laid_pub_quillon_pub_prometheus_tsdb_encoding_ErrInvalidSize),("pub-quillon/pub/prometheus/tsdb/encoding.ErrInvalidChecksum",Rows.laid_pub_quillon_pub_prometheus_tsdb_encoding_ErrInvalidChecksum)]
theorem anW(os:Os)(args:Array ay):laidMetH ag Ea ((World.doorLaid ag 600 os).forCall (λ _ _=>0) ⟨#[],args,[]⟩).memory:=
 laidMet_of_run' 8 (by kernel_rfl) (by kernel_rfl)
theorem anX(os:Os)(started:os.Started)(H:Type)(enc:cK×ay->H):
  ReturnsInHanded {} Tryz.checked os 3 .any (λ w args=>(Rows.fnIndexSpec.pre enc ag ig [] false w args/\laidMetH ag Ea w)/\sizedMet enc ag ig (OpenSpec.ofChange Rows.fnIndexSpec) false w args)
   (Rows.fnIndexSpec.post enc ag ig false true false false):=by
 refine returnsInHanded_of_change_and (C:=Tryz.checked) (X:=λ w _=>laidMetH ag Ea w) (λ _ _ _ hh h=>h.of_heap hh) anS started (by kernel_rfl) Tryz.func3
  (ChangeSpec.witness_shaped (enc:=enc) (C:=Tryz.checked) (os:=os) (X:=λ w _=>laidMetH ag Ea w) false (World.doorLaid ag 600 os) #[.slice none 0 0, .slice none 0 0] 8 rfl (World.shaped_of_RefB (by kernel_rfl) (by kernel_rfl)) (by kernel_rfl) (by kernel_rfl) (by kernel_rfl) (anW os _)) ?_
 intro W base args K gs before u G _ _ hL _;have c:∀(j:Nat) t v,ig.params[j]? =some t->args[j]? =some v->Value.okWide ag W .any base t v:=u;have y:=G;obtain⟨p,q,x,U,rfl,Z,lU⟩:=G;have E:DataW.TrodAll enc ag W 0 (λ _=>true) true ig.params.toList args.toList K p:=x;rw[Tryz.params3] at E c;obtain⟨v0,v1,d0,d1,p0,p1,rfl,rfl,rfl,⟨n0,N⟩,⟨n1,Q⟩⟩:=trodAll_two E;obtain⟨rfl,rfl⟩:=trodVars_none U;obtain⟨a0,l0,c0,rfl⟩:=okWide_slice Tryz.underlying22 (c 0 22 v0 rfl rfl);obtain⟨a1,l1,c1,rfl⟩:=okWide_slice Tryz.underlying23 (c 1 23 v1 rfl rfl);obtain⟨x0,m0,e0,M,I,hu⟩:=anM N;obtain⟨x1,m1,e1,L,J,hv,R⟩:=anP Q;simp[Value.cells] at I J;obtain⟨rfl,rfl,rfl⟩:=I;obtain⟨rfl,rfl,rfl⟩:=J;refine Calls.mono (k3 hu hv R) λ e W' h=> ?_
 cases e with
 |returned r=>
  obtain⟨rfl,k⟩:=h;exact⟨_,rfl,anV rfl rfl (by rw[Tryz.params3];decide+kernel) rfl y k⟩
 |_=>exact h.elim
end Go.Proofs.YtlhckhmoneeilaaGreatDoor
namespace Go.Proofs.YtlhckhmoneeilaaGreatDoor
open Go
theorem anY:(Rows.fnIndexRow.wf (OpenSpec.ofChange Rows.fnIndexSpec))=true:=by kernel_rfl
theorem anZ:(laidOutB ag)=true:=by kernel_rfl
theorem an0:(mapsRowed ag)=true:=by kernel_rfl
theorem an1:(ig.params.all (ag.readableRec ·))=true:=by kernel_rfl
theorem an2:(namedTie ag Rows.fnIndexRow.named Rows.fnIndexSpec.vars)=true:=by kernel_rfl
theorem an3:((Rows.fnIndexRow.stops==[]))=true:=by kernel_rfl
theorem an4:((ag.stops==[]))=true:=by kernel_rfl
theorem an5:((Rows.fnIndexRow.knobs==[]))=true:=by kernel_rfl
theorem an6:((ag.stopKnobs==[]))=true:=by kernel_rfl
theorem an7:((Rows.fnIndexRow.inPlace==ag.inPlace 3))=true:=by kernel_rfl
theorem an8:((Rows.fnIndexRow.unfollowed==ag.unfollowed 3))=true:=by kernel_rfl
theorem an9:((Rows.fnIndexRow.recurses==ag.recurses 3))=true:=by kernel_rfl
theorem an_:((Rows.fnIndexRow.named==ag.varsNamed 3))=true:=by kernel_rfl
theorem an':((Rows.fnIndexRow.maps==(ig.params.toList++Rows.fnIndexSpec.plain.varTypes ag).any (ag.mapsRec ·)))=true:=by kernel_rfl
theorem aoa:((Rows.fnIndexRow.ifaces==(ig.params.toList++Rows.fnIndexSpec.plain.varTypes ag).any (ag.ifacesRec ·)))=true:=by kernel_rfl
theorem aob:((Rows.fnIndexRow.mapsOut==ag.mapsAmong ig.resultTypes.toList))=true:=by kernel_rfl
theorem aoc:((Rows.fnIndexRow.loops==(ig.params.toList++Rows.fnIndexSpec.plain.varTypes ag).any (ag.loopsFrom ·)))=true:=by kernel_rfl
theorem aod:((Rows.fnIndexRow.wideKeys==(ig.params.toList++Rows.fnIndexSpec.plain.varTypes ag++ig.resultTypes.toList).any (ag.wideKeysFrom ·)))=true:=by kernel_rfl
theorem aoe:(Rows.fnIndexSpec.vars.all (ag.varReadable ·))=true:=by kernel_rfl
theorem aof:(ig.resultTypes.all (λ t=>ag.readableRec t&&decide (t<ag.types.size)))=true:=by kernel_rfl
theorem aog:((Rows.fnIndexRow.ifacesOut==ig.resultTypes.toList.any (ag.ifacesRec ·)))=true:=by kernel_rfl
theorem aoh:((Rows.fnIndexRow.loopsOut==ig.resultTypes.toList.any (ag.loopsFrom ·)))=true:=by kernel_rfl
theorem aoi:((Rows.fnIndexRow.plainKeys==ag.plainKeys))=true:=by kernel_rfl
theorem aoj:(Rows.fnIndexRow.shortTexts.isNone)=true:=by kernel_rfl
theorem aok:(ag.stopsHeard)=true:=by kernel_rfl
theorem aol:(ag.mayEnter)=true:=by kernel_rfl
theorem aom:((Rows.fnIndexRow.lifted==ag.liftsFinal))=true:=by kernel_rfl
theorem aon:((ag.make==some Rows.fnIndexRow.make))=true:=by kernel_rfl
theorem aoo:((Rows.fnIndexRow.kinds==(if Rows.fnIndexRow.domain.isEmpty then [] else ig.params.toList.map λ t=>match ag.underlying t with|some (.int k)=>some k|_=>none)))=true:=by kernel_rfl
theorem aop:((Rows.fnIndexRow.pinned==Rows.fnIndexRow.pinnedBy))=true:=by kernel_rfl
theorem aoq:((Rows.fnIndexRow.veiled==(ig.params.toList++Rows.fnIndexSpec.plain.varTypes ag++ig.resultTypes.toList).any (ag.veiledRec ·)))=true:=by kernel_rfl
theorem aor:(Rows.fnIndexRow.veiledFits ag ig.params.toList (ig.params.toList++Rows.fnIndexSpec.plain.varTypes ag++ig.resultTypes.toList))=true:=by kernel_rfl
theorem aos:joinedFacts ag 3 ig Rows.fnIndexSpec Rows.fnIndexRow=true:=by
 simp only[joinedFacts,rC];exact⟨⟨⟨⟨⟨⟨⟨⟨⟨⟨⟨⟨⟨⟨⟨⟨⟨⟨⟨⟨⟨⟨⟨⟨⟨⟨⟨⟨⟨⟨⟨anY,anZ⟩,an0⟩,an1⟩,an2⟩,an3⟩,an4⟩,an5⟩,an6⟩,an7⟩,an8⟩,an9⟩,an_⟩,an'⟩,aoa⟩,aob⟩,aoc⟩,aod⟩,aoe⟩,aof⟩,aog⟩,aoh⟩,aoi⟩,aoj⟩,aok⟩,aol⟩,aom⟩,aon⟩,aoo⟩,aop⟩,aoq⟩,aor⟩
theorem Wi:ag.funcNamed "pub-quillon/laws.FnIndex" =some 3:=by kernel_rfl
theorem aot:ig.isInstance ag Rows.fnIndexRow.origin Rows.fnIndexRow.targs:=of_decide_eq_true (by kernel_rfl)
theorem aou:ig.isWrapper ag Rows.fnIndexRow.wrapper Rows.fnIndexRow.mainSum:=by unfold Func.isWrapper;first|(rw[if_pos (by decide+kernel)];kernel_rfl)|(rw[if_neg (by decide+kernel)];exact⟨rfl,rfl⟩)
theorem aov:Rows.FnIndexSaid:=
 OpenClaim.holds_of_wide 3 ig rfl rfl rfl rfl rfl rfl rfl ⟨rfl,rfl,rfl,rfl,rfl⟩ rfl rfl rfl rfl rfl Wi Tryz.func3 aos aot aou
  (λ os started H enc _=>anX os started H enc)
theorem aow:Rows.fnIndexRow.wfByText (OpenSpec.ofChange Rows.fnIndexSpec)=true:=by kernel_rfl
theorem aox:ag.mainIs=some (true, "fbb738224745b04c17d798a9366d9a68599301c54432a128f818b03ce8d89286".toList):=by kernel_rfl
theorem aoy:true=ag.looks []:=by kernel_rfl
theorem aoz:false=Rows.fnIndexRow.goesBy ag:=by kernel_rfl
theorem aoA:([22,23].all λ u=>!ag.wantsStandIn u)=true:=by kernel_rfl
theorem index_holds:Rows.FnIndexCardSaid:=
 Claim7.holds_tied_plain_at .later [] [.sentinel, .sentinel] true (true, "fbb738224745b04c17d798a9366d9a68599301c54432a128f818b03ce8d89286") true
  aov (λ _ h=>by cases h) aow (λ _ h=>by cases h) fnIndex_row_tie rfl ⟨rfl,rfl⟩ aox rfl
  (λ f fn r c=>by
   obtain rfl:f=3:=iW (Wi.symm.trans r)|>.symm
   obtain rfl:fn=ig:=(iW (Tryz.func3.symm.trans c)).symm;exact⟨aoy,λ j t q=>by
    have q:#[22,23][j]? =some t:=by rw[<-Tryz.params3];exact q
    have u:t∈[22,23]:=by simpa using Array.mem_of_getElem? q
    exact(show ag.wantsStandIn t=false by simpa using List.all_eq_true.1 aoA t u)⟩)
  aoz
#print axioms index_holds
end Go.Proofs.YtlhckhmoneeilaaGreatDoor
